import JvmDerived
import JvmDerived.Pilot.@@N@@Statement
import JvmDerived.Pilot.@@N@@Code
set_option linter.unusedVariables false
set_option linter.unusedSimpArgs false
namespace Jvm.RoadKit
open Sem ClassFile Op Lib Jvm.Stand Jvm.Free Jvm.LawKit
section New
variable {p : Program} {l : Launch} {e : Env} {R : Room} {s : State} {m : MethodId} {args : Array Value} {below : List Frame} {meth : Method} {c : Code} {T : State} {locs : List Loc} {cells slots : Nat}
theorem retI (X : Stand p l e R s m args below meth c T locs cells slots) (hx : p.tables.exec = Jvm.exec) {pc : Nat} {Ls : Array Slot} {z : Int32} {rest : List Value} (hret : meth.sig.returnType = some .int) (hd : decode c.code pc = .ok (.ireturn, 1)) {fs : List Frame}
    (hl : ∀ (f : JFrame) (acts : List Action), f.method = m → f.locked = none → f.entered = [] → (doReturn e (T.setTop f) acts (some (.int z))).1 = T.setFrames fs) : Steps p.tables e below (T.setTop (mkF m pc Ls (.int z :: rest))) (T.setFrames fs) := by
  have hm' : T.vm.method? m = some meth := X.method'
  have hn : narrow .int (.int z) = .int z := rfl
  show Steps p.tables e below (T.setTop { method := m, pc := pc, locals := Ls, stack := _ :: rest, locked := none }) _
  jvm_step X.here [X.here.top, hx, hd, hm', hret, hn]
  first | (intro acts; rw [hl _ acts rfl rfl rfl]) | rw [hl _ _ rfl rfl rfl]
  exact Steps.refl _
end New
end Jvm.RoadKit
namespace Jvm.Pilot.@@N@@
open Jvm Jvm.ClassFile Sem Op Lib Jvm.Free Jvm.Stand Jvm.LawKit Jvm.RoadKit Bundle Jvm.Pilot.@@N@@.Jvm.D
theorem pd0 : parseMethodDescriptor "(I)Z" = some ⟨[.int], some .boolean⟩ := by decide +kernel
theorem d1_0 : decode prog_55_method_4_code 0 = .ok (.iload_n 0, 1) := by decide +kernel
theorem d1_1 : decode prog_55_method_4_code 1 = .ok (.bipush 10, 2) := by decide +kernel
theorem d1_3 : decode prog_55_method_4_code 3 = .ok (.if_icmp .eq 9, 3) := by decide +kernel
theorem d1_6 : decode prog_55_method_4_code 6 = .ok (.iload_n 0, 1) := by decide +kernel
theorem d1_7 : decode prog_55_method_4_code 7 = .ok (.bipush 13, 2) := by decide +kernel
theorem d1_9 : decode prog_55_method_4_code 9 = .ok (.if_icmp .ne 7, 3) := by decide +kernel
theorem d1_12 : decode prog_55_method_4_code 12 = .ok (.iconst 1, 1) := by decide +kernel
theorem d1_13 : decode prog_55_method_4_code 13 = .ok (.goto 4, 3) := by decide +kernel
theorem d1_16 : decode prog_55_method_4_code 16 = .ok (.iconst 0, 1) := by decide +kernel
theorem d1_17 : decode prog_55_method_4_code 17 = .ok (.ireturn, 1) := by decide +kernel
def F1_12 : Int32 := (1 : Int32)
theorem b1_12 {p : Program} {l : Launch} {e : Env} {R : Room} {s : State} {m : MethodId} {args : Array Value} {below : List Frame} {meth : Method} {c : Code} {T : State} {locs : List Loc} {cells slots : Nat} {Z : State} {a0 : Array Value} (X : Stand p l e R s m args below meth c T locs cells slots) (hx : p.tables.exec = Jvm.exec) (hZ : Z.Warmed39 s.vm) (hw : ∀ d ∈ tables_1, d.before a0 Z = true) (hby : c.code = prog_55_method_4_code) (hown : s.vm.findClass "com/example/libreadies/libreadies/SourceText" = some m.cls) (v0 : Int32) (hret : meth.sig.returnType = some .boolean) {fs : List Frame} (hr : ∀ (f : JFrame) (acts : List Action), f.method = m → f.locked = none → f.entered = [] → (doReturn e (T.setTop f) acts (some (.int F1_12))).1 = T.setFrames fs) : Steps p.tables e below (T.setTop (mkF m 12 #[.val (.int v0)] [])) (T.setFrames fs) := by
  show Steps p.tables e below (T.setTop (mkF m 12 #[.val (.int v0)] [])) _
  refine XS.iconst X.here hx rfl (hb hby d1_12) ?_
  show Steps p.tables e below (T.setTop (mkF m 13 #[.val (.int v0)] [(.int (1 : Int32))])) _
  refine XS.goto X.here hx rfl (pc0 := 13) (pc' := 17) rfl (hb hby d1_13) (by decide) (by decide) ?_
  show Steps p.tables e below (T.setTop (mkF m 17 #[.val (.int v0)] [(.int (1 : Int32))])) _
  rw [show F1_12 = nar .boolean (1 : Int32) from rfl] at hr
  exact retN X hx (t := .boolean) hret (by simp) (hb hby d1_17) hr
def F1_16 : Int32 := (0 : Int32)
theorem b1_16 {p : Program} {l : Launch} {e : Env} {R : Room} {s : State} {m : MethodId} {args : Array Value} {below : List Frame} {meth : Method} {c : Code} {T : State} {locs : List Loc} {cells slots : Nat} {Z : State} {a0 : Array Value} (X : Stand p l e R s m args below meth c T locs cells slots) (hx : p.tables.exec = Jvm.exec) (hZ : Z.Warmed39 s.vm) (hw : ∀ d ∈ tables_1, d.before a0 Z = true) (hby : c.code = prog_55_method_4_code) (hown : s.vm.findClass "com/example/libreadies/libreadies/SourceText" = some m.cls) (v0 : Int32) (hret : meth.sig.returnType = some .boolean) {fs : List Frame} (hr : ∀ (f : JFrame) (acts : List Action), f.method = m → f.locked = none → f.entered = [] → (doReturn e (T.setTop f) acts (some (.int F1_16))).1 = T.setFrames fs) : Steps p.tables e below (T.setTop (mkF m 16 #[.val (.int v0)] [])) (T.setFrames fs) := by
  show Steps p.tables e below (T.setTop (mkF m 16 #[.val (.int v0)] [])) _
  refine XS.iconst X.here hx rfl (hb hby d1_16) ?_
  show Steps p.tables e below (T.setTop (mkF m 17 #[.val (.int v0)] [(.int (0 : Int32))])) _
  rw [show F1_16 = nar .boolean (0 : Int32) from rfl] at hr
  exact retN X hx (t := .boolean) hret (by simp) (hb hby d1_17) hr
def F1_6 (v0 : Int32) : Int32 := if v0 = (13 : Int32) then F1_12 else F1_16
theorem b1_6 {p : Program} {l : Launch} {e : Env} {R : Room} {s : State} {m : MethodId} {args : Array Value} {below : List Frame} {meth : Method} {c : Code} {T : State} {locs : List Loc} {cells slots : Nat} {Z : State} {a0 : Array Value} (X : Stand p l e R s m args below meth c T locs cells slots) (hx : p.tables.exec = Jvm.exec) (hZ : Z.Warmed39 s.vm) (hw : ∀ d ∈ tables_1, d.before a0 Z = true) (hby : c.code = prog_55_method_4_code) (hown : s.vm.findClass "com/example/libreadies/libreadies/SourceText" = some m.cls) (v0 : Int32) (hret : meth.sig.returnType = some .boolean) {fs : List Frame} (hr : ∀ (f : JFrame) (acts : List Action), f.method = m → f.locked = none → f.entered = [] → (doReturn e (T.setTop f) acts (some (.int (F1_6 v0)))).1 = T.setFrames fs) : Steps p.tables e below (T.setTop (mkF m 6 #[.val (.int v0)] [])) (T.setFrames fs) := by
  show Steps p.tables e below (T.setTop (mkF m 6 #[.val (.int v0)] [])) _
  refine XS.iloadN X.here hx rfl (hb hby d1_6) rfl ?_
  show Steps p.tables e below (T.setTop (mkF m 7 #[.val (.int v0)] [(.int v0)])) _
  refine XS.bipush X.here hx rfl (hb hby d1_7) ?_
  show Steps p.tables e below (T.setTop (mkF m 9 #[.val (.int v0)] [(.int (13 : Int32)), (.int v0)])) _
  by_cases hc : v0 = (13 : Int32)
  · rw [show (F1_6 v0) = F1_12 from if_pos hc] at hr
    refine XS.icmpNo X.here hx rfl (hb hby d1_9) rfl (teq hc).2 ?_
    exact b1_12 X hx hZ hw hby hown v0 hret hr
  · rw [show (F1_6 v0) = F1_16 from if_neg hc] at hr
    refine XS.icmpYes X.here hx rfl (pc0 := 9) (pc' := 16) rfl (hb hby d1_9) rfl (feq hc).2 (by decide) (by decide) ?_
    exact b1_16 X hx hZ hw hby hown v0 hret hr
def F1_0 (v0 : Int32) : Int32 := if v0 = (10 : Int32) then F1_12 else (F1_6 v0)
theorem b1_0 {p : Program} {l : Launch} {e : Env} {R : Room} {s : State} {m : MethodId} {args : Array Value} {below : List Frame} {meth : Method} {c : Code} {T : State} {locs : List Loc} {cells slots : Nat} {Z : State} {a0 : Array Value} (X : Stand p l e R s m args below meth c T locs cells slots) (hx : p.tables.exec = Jvm.exec) (hZ : Z.Warmed39 s.vm) (hw : ∀ d ∈ tables_1, d.before a0 Z = true) (hby : c.code = prog_55_method_4_code) (hown : s.vm.findClass "com/example/libreadies/libreadies/SourceText" = some m.cls) (v0 : Int32) (hret : meth.sig.returnType = some .boolean) {fs : List Frame} (hr : ∀ (f : JFrame) (acts : List Action), f.method = m → f.locked = none → f.entered = [] → (doReturn e (T.setTop f) acts (some (.int (F1_0 v0)))).1 = T.setFrames fs) : Steps p.tables e below (T.setTop (mkF m 0 #[.val (.int v0)] [])) (T.setFrames fs) := by
  show Steps p.tables e below (T.setTop (mkF m 0 #[.val (.int v0)] [])) _
  refine XS.iloadN X.here hx rfl (hb hby d1_0) rfl ?_
  show Steps p.tables e below (T.setTop (mkF m 1 #[.val (.int v0)] [(.int v0)])) _
  refine XS.bipush X.here hx rfl (hb hby d1_1) ?_
  show Steps p.tables e below (T.setTop (mkF m 3 #[.val (.int v0)] [(.int (10 : Int32)), (.int v0)])) _
  by_cases hc : v0 = (10 : Int32)
  · rw [show (F1_0 v0) = F1_12 from if_pos hc] at hr
    refine XS.icmpYes X.here hx rfl (pc0 := 3) (pc' := 12) rfl (hb hby d1_3) rfl (teq hc).1 (by decide) (by decide) ?_
    exact b1_12 X hx hZ hw hby hown v0 hret hr
  · rw [show (F1_0 v0) = (F1_6 v0) from if_neg hc] at hr
    refine XS.icmpNo X.here hx rfl (hb hby d1_3) rfl (feq hc).1 ?_
    exact b1_6 X hx hZ hw hby hown v0 hret hr
theorem pn_1 : plainName "com/example/libreadies/libreadies/SourceText" = true := by first | (simp [plainName, overriddenIn]; done) | decide +kernel
theorem ef_1 (m : MethodId) (p0 : Int32) : entryFrame m #[(.int p0)] 1 = mkF m 0 #[.val (.int p0)] [] := by first | (simp [entryFrame, mkF, argsToLocals, Value.category]; done) | rfl
def Q_rm1 (Z : State) (p0 : Int32) (h0 : Heap) (n0 : Nat) (v : Option Value) (h : Heap) (L : List Loc) : Prop := (v = some (.int (F1_0 p0)) ∧ Fr n0 L ∧ h = h0)
set_option maxRecDepth 65536 in
set_option maxHeartbeats 40000000 in
theorem rm1 (l : Launch) (Z : State) (a0 : Array Value) (hw : ∀ d ∈ tables_1, d.before a0 Z = true) (ws : List Jvm.Cond) (p0 : Int32) (h0 : Heap) (n0 : Nat) (Z0 : n0 ≤ h0.size) :
    MetFree l (⟨"com/example/libreadies/libreadies/SourceText", "isLineBreak", "(I)Z"⟩ : MethodName) (head1 (Jvm.Cond.code (⟨"com/example/libreadies/libreadies/SourceText", "isLineBreak", "(I)Z"⟩ : MethodName) prog_55_method_4_code 1 (some .boolean) :: ws) ({ frames := 0, cells := 0, slots := 0, locals := 0 } : Room)) (fun a U => a = #[(.int p0)] ∧ Z.Warmed39 U.vm ∧ U.heap = h0) (fun _ _ _ _ _ => True) (fun _ U o U' => ∃ v L, o = .returned v ∧ Q_rm1 Z p0 h0 n0 v U'.heap L ∧ FrameEnd U o U' L ({ frames := 0, cells := 0, slots := 0, locals := 0 } : Room).cells ({ frames := 0, cells := 0, slots := 0, locals := 0 } : Room).slots) := by
  refine MetFree.of_bodySF (plainFor_of_name pn_1) hisR ?_
  intro p e s m args below meth c s₁ Bd hml0 hP hK
  obtain ⟨rfl, hZ, hh⟩ := hP
  have hx := Bd.exec
  have hby := Bd.bytes
  have hml : c.maxLocals = 1 := hml0
  have hown : s.vm.findClass "com/example/libreadies/libreadies/SourceText" = some m.cls := findClass_of_methodNamed Bd.named
  have hnm := (name_of_methodNamed Bd.named Bd.method).1
  have X0 : Stand p l e ({ frames := 0, cells := 0, slots := 0, locals := 0 } : Room) s m #[(.int p0)] below meth c s₁ [] 0 0 := Stand.of_body Bd
  have e0 : s₁.heap = h0 := by rw [← hh, Bd.state]; rfl
  have N0 := Fr.nil n0
  have pre0 : ∀ t, Steps p.tables e below (s₁.setTop (mkF m 0 #[.val (.int p0)] [])) t → Steps p.tables e below (s₁.setTop (entryFrame m #[(.int p0)] 1)) t := fun t k => castTop (ef_1 m p0) k
  obtain ⟨fs, hr, hrun, hended, hW, hsame⟩ := X0.leave (v := some (.int (F1_0 p0))) (fun h => by rw [Bd.returns] at h; cases h)
  refine ⟨_, _, pre0 _ ?_, hrun, hended, _, _, rfl, ⟨rfl, N0, e0⟩, ⟨_, rfl⟩, hW, hsame.mono (by decide) (by decide)⟩
  exact b1_0 X0 hx hZ hw hby hown p0 Bd.returns hr
theorem d3_0 : decode prog_55_method_2_code 0 = .ok (.iload_n 0, 1) := by decide +kernel
theorem d3_1 : decode prog_55_method_2_code 1 = .ok (.bipush 97, 2) := by decide +kernel
theorem d3_3 : decode prog_55_method_2_code 3 = .ok (.if_icmp .lt 9, 3) := by decide +kernel
theorem d3_6 : decode prog_55_method_2_code 6 = .ok (.iload_n 0, 1) := by decide +kernel
theorem d3_7 : decode prog_55_method_2_code 7 = .ok (.bipush 122, 2) := by decide +kernel
theorem d3_9 : decode prog_55_method_2_code 9 = .ok (.if_icmp .le 21, 3) := by decide +kernel
theorem d3_12 : decode prog_55_method_2_code 12 = .ok (.iload_n 0, 1) := by decide +kernel
theorem d3_13 : decode prog_55_method_2_code 13 = .ok (.bipush 65, 2) := by decide +kernel
theorem d3_15 : decode prog_55_method_2_code 15 = .ok (.if_icmp .lt 9, 3) := by decide +kernel
theorem d3_18 : decode prog_55_method_2_code 18 = .ok (.iload_n 0, 1) := by decide +kernel
theorem d3_19 : decode prog_55_method_2_code 19 = .ok (.bipush 90, 2) := by decide +kernel
theorem d3_21 : decode prog_55_method_2_code 21 = .ok (.if_icmp .le 9, 3) := by decide +kernel
theorem d3_24 : decode prog_55_method_2_code 24 = .ok (.iload_n 0, 1) := by decide +kernel
theorem d3_25 : decode prog_55_method_2_code 25 = .ok (.bipush 95, 2) := by decide +kernel
theorem d3_27 : decode prog_55_method_2_code 27 = .ok (.if_icmp .ne 7, 3) := by decide +kernel
theorem d3_30 : decode prog_55_method_2_code 30 = .ok (.iconst 1, 1) := by decide +kernel
theorem d3_31 : decode prog_55_method_2_code 31 = .ok (.goto 4, 3) := by decide +kernel
theorem d3_34 : decode prog_55_method_2_code 34 = .ok (.iconst 0, 1) := by decide +kernel
theorem d3_35 : decode prog_55_method_2_code 35 = .ok (.ireturn, 1) := by decide +kernel
def F3_34 : Int32 := (0 : Int32)
theorem b3_34 {p : Program} {l : Launch} {e : Env} {R : Room} {s : State} {m : MethodId} {args : Array Value} {below : List Frame} {meth : Method} {c : Code} {T : State} {locs : List Loc} {cells slots : Nat} {Z : State} {a0 : Array Value} (X : Stand p l e R s m args below meth c T locs cells slots) (hx : p.tables.exec = Jvm.exec) (hZ : Z.Warmed39 s.vm) (hw : ∀ d ∈ tables_1, d.before a0 Z = true) (hby : c.code = prog_55_method_2_code) (hown : s.vm.findClass "com/example/libreadies/libreadies/SourceText" = some m.cls) (v0 : Int32) (hret : meth.sig.returnType = some .boolean) {fs : List Frame} (hr : ∀ (f : JFrame) (acts : List Action), f.method = m → f.locked = none → f.entered = [] → (doReturn e (T.setTop f) acts (some (.int F3_34))).1 = T.setFrames fs) : Steps p.tables e below (T.setTop (mkF m 34 #[.val (.int v0)] [])) (T.setFrames fs) := by
  show Steps p.tables e below (T.setTop (mkF m 34 #[.val (.int v0)] [])) _
  refine XS.iconst X.here hx rfl (hb hby d3_34) ?_
  show Steps p.tables e below (T.setTop (mkF m 35 #[.val (.int v0)] [(.int (0 : Int32))])) _
  rw [show F3_34 = nar .boolean (0 : Int32) from rfl] at hr
  exact retN X hx (t := .boolean) hret (by simp) (hb hby d3_35) hr
def F3_30 : Int32 := (1 : Int32)
theorem b3_30 {p : Program} {l : Launch} {e : Env} {R : Room} {s : State} {m : MethodId} {args : Array Value} {below : List Frame} {meth : Method} {c : Code} {T : State} {locs : List Loc} {cells slots : Nat} {Z : State} {a0 : Array Value} (X : Stand p l e R s m args below meth c T locs cells slots) (hx : p.tables.exec = Jvm.exec) (hZ : Z.Warmed39 s.vm) (hw : ∀ d ∈ tables_1, d.before a0 Z = true) (hby : c.code = prog_55_method_2_code) (hown : s.vm.findClass "com/example/libreadies/libreadies/SourceText" = some m.cls) (v0 : Int32) (hret : meth.sig.returnType = some .boolean) {fs : List Frame} (hr : ∀ (f : JFrame) (acts : List Action), f.method = m → f.locked = none → f.entered = [] → (doReturn e (T.setTop f) acts (some (.int F3_30))).1 = T.setFrames fs) : Steps p.tables e below (T.setTop (mkF m 30 #[.val (.int v0)] [])) (T.setFrames fs) := by
  show Steps p.tables e below (T.setTop (mkF m 30 #[.val (.int v0)] [])) _
  refine XS.iconst X.here hx rfl (hb hby d3_30) ?_
  show Steps p.tables e below (T.setTop (mkF m 31 #[.val (.int v0)] [(.int (1 : Int32))])) _
  refine XS.goto X.here hx rfl (pc0 := 31) (pc' := 35) rfl (hb hby d3_31) (by decide) (by decide) ?_
  show Steps p.tables e below (T.setTop (mkF m 35 #[.val (.int v0)] [(.int (1 : Int32))])) _
  rw [show F3_30 = nar .boolean (1 : Int32) from rfl] at hr
  exact retN X hx (t := .boolean) hret (by simp) (hb hby d3_35) hr
def F3_24 (v0 : Int32) : Int32 := if v0 = (95 : Int32) then F3_30 else F3_34
theorem b3_24 {p : Program} {l : Launch} {e : Env} {R : Room} {s : State} {m : MethodId} {args : Array Value} {below : List Frame} {meth : Method} {c : Code} {T : State} {locs : List Loc} {cells slots : Nat} {Z : State} {a0 : Array Value} (X : Stand p l e R s m args below meth c T locs cells slots) (hx : p.tables.exec = Jvm.exec) (hZ : Z.Warmed39 s.vm) (hw : ∀ d ∈ tables_1, d.before a0 Z = true) (hby : c.code = prog_55_method_2_code) (hown : s.vm.findClass "com/example/libreadies/libreadies/SourceText" = some m.cls) (v0 : Int32) (hret : meth.sig.returnType = some .boolean) {fs : List Frame} (hr : ∀ (f : JFrame) (acts : List Action), f.method = m → f.locked = none → f.entered = [] → (doReturn e (T.setTop f) acts (some (.int (F3_24 v0)))).1 = T.setFrames fs) : Steps p.tables e below (T.setTop (mkF m 24 #[.val (.int v0)] [])) (T.setFrames fs) := by
  show Steps p.tables e below (T.setTop (mkF m 24 #[.val (.int v0)] [])) _
  refine XS.iloadN X.here hx rfl (hb hby d3_24) rfl ?_
  show Steps p.tables e below (T.setTop (mkF m 25 #[.val (.int v0)] [(.int v0)])) _
  refine XS.bipush X.here hx rfl (hb hby d3_25) ?_
  show Steps p.tables e below (T.setTop (mkF m 27 #[.val (.int v0)] [(.int (95 : Int32)), (.int v0)])) _
  by_cases hc : v0 = (95 : Int32)
  · rw [show (F3_24 v0) = F3_30 from if_pos hc] at hr
    refine XS.icmpNo X.here hx rfl (hb hby d3_27) rfl (teq hc).2 ?_
    exact b3_30 X hx hZ hw hby hown v0 hret hr
  · rw [show (F3_24 v0) = F3_34 from if_neg hc] at hr
    refine XS.icmpYes X.here hx rfl (pc0 := 27) (pc' := 34) rfl (hb hby d3_27) rfl (feq hc).2 (by decide) (by decide) ?_
    exact b3_34 X hx hZ hw hby hown v0 hret hr
def F3_18 (v0 : Int32) : Int32 := if (90 : Int32) < v0 then (F3_24 v0) else F3_30
theorem b3_18 {p : Program} {l : Launch} {e : Env} {R : Room} {s : State} {m : MethodId} {args : Array Value} {below : List Frame} {meth : Method} {c : Code} {T : State} {locs : List Loc} {cells slots : Nat} {Z : State} {a0 : Array Value} (X : Stand p l e R s m args below meth c T locs cells slots) (hx : p.tables.exec = Jvm.exec) (hZ : Z.Warmed39 s.vm) (hw : ∀ d ∈ tables_1, d.before a0 Z = true) (hby : c.code = prog_55_method_2_code) (hown : s.vm.findClass "com/example/libreadies/libreadies/SourceText" = some m.cls) (v0 : Int32) (hret : meth.sig.returnType = some .boolean) {fs : List Frame} (hr : ∀ (f : JFrame) (acts : List Action), f.method = m → f.locked = none → f.entered = [] → (doReturn e (T.setTop f) acts (some (.int (F3_18 v0)))).1 = T.setFrames fs) : Steps p.tables e below (T.setTop (mkF m 18 #[.val (.int v0)] [])) (T.setFrames fs) := by
  show Steps p.tables e below (T.setTop (mkF m 18 #[.val (.int v0)] [])) _
  refine XS.iloadN X.here hx rfl (hb hby d3_18) rfl ?_
  show Steps p.tables e below (T.setTop (mkF m 19 #[.val (.int v0)] [(.int v0)])) _
  refine XS.bipush X.here hx rfl (hb hby d3_19) ?_
  show Steps p.tables e below (T.setTop (mkF m 21 #[.val (.int v0)] [(.int (90 : Int32)), (.int v0)])) _
  by_cases hc : (90 : Int32) < v0
  · rw [show (F3_18 v0) = (F3_24 v0) from if_pos hc] at hr
    refine XS.icmpNo X.here hx rfl (hb hby d3_21) rfl (tlt hc).2.2.2 ?_
    exact b3_24 X hx hZ hw hby hown v0 hret hr
  · rw [show (F3_18 v0) = F3_30 from if_neg hc] at hr
    refine XS.icmpYes X.here hx rfl (pc0 := 21) (pc' := 30) rfl (hb hby d3_21) rfl (flt hc).2.2.2 (by decide) (by decide) ?_
    exact b3_30 X hx hZ hw hby hown v0 hret hr
def F3_12 (v0 : Int32) : Int32 := if v0 < (65 : Int32) then (F3_24 v0) else (F3_18 v0)
theorem b3_12 {p : Program} {l : Launch} {e : Env} {R : Room} {s : State} {m : MethodId} {args : Array Value} {below : List Frame} {meth : Method} {c : Code} {T : State} {locs : List Loc} {cells slots : Nat} {Z : State} {a0 : Array Value} (X : Stand p l e R s m args below meth c T locs cells slots) (hx : p.tables.exec = Jvm.exec) (hZ : Z.Warmed39 s.vm) (hw : ∀ d ∈ tables_1, d.before a0 Z = true) (hby : c.code = prog_55_method_2_code) (hown : s.vm.findClass "com/example/libreadies/libreadies/SourceText" = some m.cls) (v0 : Int32) (hret : meth.sig.returnType = some .boolean) {fs : List Frame} (hr : ∀ (f : JFrame) (acts : List Action), f.method = m → f.locked = none → f.entered = [] → (doReturn e (T.setTop f) acts (some (.int (F3_12 v0)))).1 = T.setFrames fs) : Steps p.tables e below (T.setTop (mkF m 12 #[.val (.int v0)] [])) (T.setFrames fs) := by
  show Steps p.tables e below (T.setTop (mkF m 12 #[.val (.int v0)] [])) _
  refine XS.iloadN X.here hx rfl (hb hby d3_12) rfl ?_
  show Steps p.tables e below (T.setTop (mkF m 13 #[.val (.int v0)] [(.int v0)])) _
  refine XS.bipush X.here hx rfl (hb hby d3_13) ?_
  show Steps p.tables e below (T.setTop (mkF m 15 #[.val (.int v0)] [(.int (65 : Int32)), (.int v0)])) _
  by_cases hc : v0 < (65 : Int32)
  · rw [show (F3_12 v0) = (F3_24 v0) from if_pos hc] at hr
    refine XS.icmpYes X.here hx rfl (pc0 := 15) (pc' := 24) rfl (hb hby d3_15) rfl (tlt hc).1 (by decide) (by decide) ?_
    exact b3_24 X hx hZ hw hby hown v0 hret hr
  · rw [show (F3_12 v0) = (F3_18 v0) from if_neg hc] at hr
    refine XS.icmpNo X.here hx rfl (hb hby d3_15) rfl (flt hc).1 ?_
    exact b3_18 X hx hZ hw hby hown v0 hret hr
def F3_6 (v0 : Int32) : Int32 := if (122 : Int32) < v0 then (F3_12 v0) else F3_30
theorem b3_6 {p : Program} {l : Launch} {e : Env} {R : Room} {s : State} {m : MethodId} {args : Array Value} {below : List Frame} {meth : Method} {c : Code} {T : State} {locs : List Loc} {cells slots : Nat} {Z : State} {a0 : Array Value} (X : Stand p l e R s m args below meth c T locs cells slots) (hx : p.tables.exec = Jvm.exec) (hZ : Z.Warmed39 s.vm) (hw : ∀ d ∈ tables_1, d.before a0 Z = true) (hby : c.code = prog_55_method_2_code) (hown : s.vm.findClass "com/example/libreadies/libreadies/SourceText" = some m.cls) (v0 : Int32) (hret : meth.sig.returnType = some .boolean) {fs : List Frame} (hr : ∀ (f : JFrame) (acts : List Action), f.method = m → f.locked = none → f.entered = [] → (doReturn e (T.setTop f) acts (some (.int (F3_6 v0)))).1 = T.setFrames fs) : Steps p.tables e below (T.setTop (mkF m 6 #[.val (.int v0)] [])) (T.setFrames fs) := by
  show Steps p.tables e below (T.setTop (mkF m 6 #[.val (.int v0)] [])) _
  refine XS.iloadN X.here hx rfl (hb hby d3_6) rfl ?_
  show Steps p.tables e below (T.setTop (mkF m 7 #[.val (.int v0)] [(.int v0)])) _
  refine XS.bipush X.here hx rfl (hb hby d3_7) ?_
  show Steps p.tables e below (T.setTop (mkF m 9 #[.val (.int v0)] [(.int (122 : Int32)), (.int v0)])) _
  by_cases hc : (122 : Int32) < v0
  · rw [show (F3_6 v0) = (F3_12 v0) from if_pos hc] at hr
    refine XS.icmpNo X.here hx rfl (hb hby d3_9) rfl (tlt hc).2.2.2 ?_
    exact b3_12 X hx hZ hw hby hown v0 hret hr
  · rw [show (F3_6 v0) = F3_30 from if_neg hc] at hr
    refine XS.icmpYes X.here hx rfl (pc0 := 9) (pc' := 30) rfl (hb hby d3_9) rfl (flt hc).2.2.2 (by decide) (by decide) ?_
    exact b3_30 X hx hZ hw hby hown v0 hret hr
def F3_0 (v0 : Int32) : Int32 := if v0 < (97 : Int32) then (F3_12 v0) else (F3_6 v0)
theorem b3_0 {p : Program} {l : Launch} {e : Env} {R : Room} {s : State} {m : MethodId} {args : Array Value} {below : List Frame} {meth : Method} {c : Code} {T : State} {locs : List Loc} {cells slots : Nat} {Z : State} {a0 : Array Value} (X : Stand p l e R s m args below meth c T locs cells slots) (hx : p.tables.exec = Jvm.exec) (hZ : Z.Warmed39 s.vm) (hw : ∀ d ∈ tables_1, d.before a0 Z = true) (hby : c.code = prog_55_method_2_code) (hown : s.vm.findClass "com/example/libreadies/libreadies/SourceText" = some m.cls) (v0 : Int32) (hret : meth.sig.returnType = some .boolean) {fs : List Frame} (hr : ∀ (f : JFrame) (acts : List Action), f.method = m → f.locked = none → f.entered = [] → (doReturn e (T.setTop f) acts (some (.int (F3_0 v0)))).1 = T.setFrames fs) : Steps p.tables e below (T.setTop (mkF m 0 #[.val (.int v0)] [])) (T.setFrames fs) := by
  show Steps p.tables e below (T.setTop (mkF m 0 #[.val (.int v0)] [])) _
  refine XS.iloadN X.here hx rfl (hb hby d3_0) rfl ?_
  show Steps p.tables e below (T.setTop (mkF m 1 #[.val (.int v0)] [(.int v0)])) _
  refine XS.bipush X.here hx rfl (hb hby d3_1) ?_
  show Steps p.tables e below (T.setTop (mkF m 3 #[.val (.int v0)] [(.int (97 : Int32)), (.int v0)])) _
  by_cases hc : v0 < (97 : Int32)
  · rw [show (F3_0 v0) = (F3_12 v0) from if_pos hc] at hr
    refine XS.icmpYes X.here hx rfl (pc0 := 3) (pc' := 12) rfl (hb hby d3_3) rfl (tlt hc).1 (by decide) (by decide) ?_
    exact b3_12 X hx hZ hw hby hown v0 hret hr
  · rw [show (F3_0 v0) = (F3_6 v0) from if_neg hc] at hr
    refine XS.icmpNo X.here hx rfl (hb hby d3_3) rfl (flt hc).1 ?_
    exact b3_6 X hx hZ hw hby hown v0 hret hr
theorem pn_3 : plainName "com/example/libreadies/libreadies/SourceText" = true := by first | (simp [plainName, overriddenIn]; done) | decide +kernel
theorem ef_3 (m : MethodId) (p0 : Int32) : entryFrame m #[(.int p0)] 1 = mkF m 0 #[.val (.int p0)] [] := by first | (simp [entryFrame, mkF, argsToLocals, Value.category]; done) | rfl
def Q_rm3 (Z : State) (p0 : Int32) (h0 : Heap) (n0 : Nat) (v : Option Value) (h : Heap) (L : List Loc) : Prop := (v = some (.int (F3_0 p0)) ∧ Fr n0 L ∧ h = h0)
set_option maxRecDepth 65536 in
set_option maxHeartbeats 40000000 in
theorem rm3 (l : Launch) (Z : State) (a0 : Array Value) (hw : ∀ d ∈ tables_1, d.before a0 Z = true) (ws : List Jvm.Cond) (p0 : Int32) (h0 : Heap) (n0 : Nat) (Z0 : n0 ≤ h0.size) :
    MetFree l (⟨"com/example/libreadies/libreadies/SourceText", "isLabelStart", "(I)Z"⟩ : MethodName) (head1 (Jvm.Cond.code (⟨"com/example/libreadies/libreadies/SourceText", "isLabelStart", "(I)Z"⟩ : MethodName) prog_55_method_2_code 1 (some .boolean) :: ws) ({ frames := 0, cells := 0, slots := 0, locals := 0 } : Room)) (fun a U => a = #[(.int p0)] ∧ Z.Warmed39 U.vm ∧ U.heap = h0) (fun _ _ _ _ _ => True) (fun _ U o U' => ∃ v L, o = .returned v ∧ Q_rm3 Z p0 h0 n0 v U'.heap L ∧ FrameEnd U o U' L ({ frames := 0, cells := 0, slots := 0, locals := 0 } : Room).cells ({ frames := 0, cells := 0, slots := 0, locals := 0 } : Room).slots) := by
  refine MetFree.of_bodySF (plainFor_of_name pn_3) hisR ?_
  intro p e s m args below meth c s₁ Bd hml0 hP hK
  obtain ⟨rfl, hZ, hh⟩ := hP
  have hx := Bd.exec
  have hby := Bd.bytes
  have hml : c.maxLocals = 1 := hml0
  have hown : s.vm.findClass "com/example/libreadies/libreadies/SourceText" = some m.cls := findClass_of_methodNamed Bd.named
  have hnm := (name_of_methodNamed Bd.named Bd.method).1
  have X0 : Stand p l e ({ frames := 0, cells := 0, slots := 0, locals := 0 } : Room) s m #[(.int p0)] below meth c s₁ [] 0 0 := Stand.of_body Bd
  have e0 : s₁.heap = h0 := by rw [← hh, Bd.state]; rfl
  have N0 := Fr.nil n0
  have pre0 : ∀ t, Steps p.tables e below (s₁.setTop (mkF m 0 #[.val (.int p0)] [])) t → Steps p.tables e below (s₁.setTop (entryFrame m #[(.int p0)] 1)) t := fun t k => castTop (ef_3 m p0) k
  obtain ⟨fs, hr, hrun, hended, hW, hsame⟩ := X0.leave (v := some (.int (F3_0 p0))) (fun h => by rw [Bd.returns] at h; cases h)
  refine ⟨_, _, pre0 _ ?_, hrun, hended, _, _, rfl, ⟨rfl, N0, e0⟩, ⟨_, rfl⟩, hW, hsame.mono (by decide) (by decide)⟩
  exact b3_0 X0 hx hZ hw hby hown p0 Bd.returns hr
theorem d2_0 : decode prog_55_method_3_code 0 = .ok (.iload_n 0, 1) := by decide +kernel
theorem d2_1 : decode prog_55_method_3_code 1 = .ok (.invokestatic 7, 3) := by decide +kernel
theorem d2_4 : decode prog_55_method_3_code 4 = .ok (.ifCond .ne 15, 3) := by decide +kernel
theorem d2_7 : decode prog_55_method_3_code 7 = .ok (.iload_n 0, 1) := by decide +kernel
theorem d2_8 : decode prog_55_method_3_code 8 = .ok (.bipush 48, 2) := by decide +kernel
theorem d2_10 : decode prog_55_method_3_code 10 = .ok (.if_icmp .lt 13, 3) := by decide +kernel
theorem d2_13 : decode prog_55_method_3_code 13 = .ok (.iload_n 0, 1) := by decide +kernel
theorem d2_14 : decode prog_55_method_3_code 14 = .ok (.bipush 57, 2) := by decide +kernel
theorem d2_16 : decode prog_55_method_3_code 16 = .ok (.if_icmp .gt 7, 3) := by decide +kernel
theorem d2_19 : decode prog_55_method_3_code 19 = .ok (.iconst 1, 1) := by decide +kernel
theorem d2_20 : decode prog_55_method_3_code 20 = .ok (.goto 4, 3) := by decide +kernel
theorem d2_23 : decode prog_55_method_3_code 23 = .ok (.iconst 0, 1) := by decide +kernel
theorem d2_24 : decode prog_55_method_3_code 24 = .ok (.ireturn, 1) := by decide +kernel
def F2t_19 : Int32 := (1 : Int32)
theorem b2t_19 {p : Program} {l : Launch} {e : Env} {R : Room} {s : State} {m : MethodId} {args : Array Value} {below : List Frame} {meth : Method} {c : Code} {T : State} {locs : List Loc} {cells slots : Nat} {Z : State} {a0 : Array Value} (X : Stand p l e R s m args below meth c T locs cells slots) (hx : p.tables.exec = Jvm.exec) (hZ : Z.Warmed39 s.vm) (hw : ∀ d ∈ tables_1, d.before a0 Z = true) (hby : c.code = prog_55_method_3_code) (hown : s.vm.findClass "com/example/libreadies/libreadies/SourceText" = some m.cls) (v0 : Int32) (hret : meth.sig.returnType = some .boolean) {fs : List Frame} (hr : ∀ (f : JFrame) (acts : List Action), f.method = m → f.locked = none → f.entered = [] → (doReturn e (T.setTop f) acts (some (.int F2t_19))).1 = T.setFrames fs) : Steps p.tables e below (T.setTop (mkF m 19 #[.val (.int v0)] [])) (T.setFrames fs) := by
  show Steps p.tables e below (T.setTop (mkF m 19 #[.val (.int v0)] [])) _
  refine XS.iconst X.here hx rfl (hb hby d2_19) ?_
  show Steps p.tables e below (T.setTop (mkF m 20 #[.val (.int v0)] [(.int (1 : Int32))])) _
  refine XS.goto X.here hx rfl (pc0 := 20) (pc' := 24) rfl (hb hby d2_20) (by decide) (by decide) ?_
  show Steps p.tables e below (T.setTop (mkF m 24 #[.val (.int v0)] [(.int (1 : Int32))])) _
  rw [show F2t_19 = nar .boolean (1 : Int32) from rfl] at hr
  exact retN X hx (t := .boolean) hret (by simp) (hb hby d2_24) hr
def F2t_23 : Int32 := (0 : Int32)
theorem b2t_23 {p : Program} {l : Launch} {e : Env} {R : Room} {s : State} {m : MethodId} {args : Array Value} {below : List Frame} {meth : Method} {c : Code} {T : State} {locs : List Loc} {cells slots : Nat} {Z : State} {a0 : Array Value} (X : Stand p l e R s m args below meth c T locs cells slots) (hx : p.tables.exec = Jvm.exec) (hZ : Z.Warmed39 s.vm) (hw : ∀ d ∈ tables_1, d.before a0 Z = true) (hby : c.code = prog_55_method_3_code) (hown : s.vm.findClass "com/example/libreadies/libreadies/SourceText" = some m.cls) (v0 : Int32) (hret : meth.sig.returnType = some .boolean) {fs : List Frame} (hr : ∀ (f : JFrame) (acts : List Action), f.method = m → f.locked = none → f.entered = [] → (doReturn e (T.setTop f) acts (some (.int F2t_23))).1 = T.setFrames fs) : Steps p.tables e below (T.setTop (mkF m 23 #[.val (.int v0)] [])) (T.setFrames fs) := by
  show Steps p.tables e below (T.setTop (mkF m 23 #[.val (.int v0)] [])) _
  refine XS.iconst X.here hx rfl (hb hby d2_23) ?_
  show Steps p.tables e below (T.setTop (mkF m 24 #[.val (.int v0)] [(.int (0 : Int32))])) _
  rw [show F2t_23 = nar .boolean (0 : Int32) from rfl] at hr
  exact retN X hx (t := .boolean) hret (by simp) (hb hby d2_24) hr
def F2t_13 (v0 : Int32) : Int32 := if (57 : Int32) < v0 then F2t_23 else F2t_19
theorem b2t_13 {p : Program} {l : Launch} {e : Env} {R : Room} {s : State} {m : MethodId} {args : Array Value} {below : List Frame} {meth : Method} {c : Code} {T : State} {locs : List Loc} {cells slots : Nat} {Z : State} {a0 : Array Value} (X : Stand p l e R s m args below meth c T locs cells slots) (hx : p.tables.exec = Jvm.exec) (hZ : Z.Warmed39 s.vm) (hw : ∀ d ∈ tables_1, d.before a0 Z = true) (hby : c.code = prog_55_method_3_code) (hown : s.vm.findClass "com/example/libreadies/libreadies/SourceText" = some m.cls) (v0 : Int32) (hret : meth.sig.returnType = some .boolean) {fs : List Frame} (hr : ∀ (f : JFrame) (acts : List Action), f.method = m → f.locked = none → f.entered = [] → (doReturn e (T.setTop f) acts (some (.int (F2t_13 v0)))).1 = T.setFrames fs) : Steps p.tables e below (T.setTop (mkF m 13 #[.val (.int v0)] [])) (T.setFrames fs) := by
  show Steps p.tables e below (T.setTop (mkF m 13 #[.val (.int v0)] [])) _
  refine XS.iloadN X.here hx rfl (hb hby d2_13) rfl ?_
  show Steps p.tables e below (T.setTop (mkF m 14 #[.val (.int v0)] [(.int v0)])) _
  refine XS.bipush X.here hx rfl (hb hby d2_14) ?_
  show Steps p.tables e below (T.setTop (mkF m 16 #[.val (.int v0)] [(.int (57 : Int32)), (.int v0)])) _
  by_cases hc : (57 : Int32) < v0
  · rw [show (F2t_13 v0) = F2t_23 from if_pos hc] at hr
    refine XS.icmpYes X.here hx rfl (pc0 := 16) (pc' := 23) rfl (hb hby d2_16) rfl (tlt hc).2.2.1 (by decide) (by decide) ?_
    exact b2t_23 X hx hZ hw hby hown v0 hret hr
  · rw [show (F2t_13 v0) = F2t_19 from if_neg hc] at hr
    refine XS.icmpNo X.here hx rfl (hb hby d2_16) rfl (flt hc).2.2.1 ?_
    exact b2t_19 X hx hZ hw hby hown v0 hret hr
def F2t_7 (v0 : Int32) : Int32 := if v0 < (48 : Int32) then F2t_23 else (F2t_13 v0)
theorem b2t_7 {p : Program} {l : Launch} {e : Env} {R : Room} {s : State} {m : MethodId} {args : Array Value} {below : List Frame} {meth : Method} {c : Code} {T : State} {locs : List Loc} {cells slots : Nat} {Z : State} {a0 : Array Value} (X : Stand p l e R s m args below meth c T locs cells slots) (hx : p.tables.exec = Jvm.exec) (hZ : Z.Warmed39 s.vm) (hw : ∀ d ∈ tables_1, d.before a0 Z = true) (hby : c.code = prog_55_method_3_code) (hown : s.vm.findClass "com/example/libreadies/libreadies/SourceText" = some m.cls) (v0 : Int32) (hret : meth.sig.returnType = some .boolean) {fs : List Frame} (hr : ∀ (f : JFrame) (acts : List Action), f.method = m → f.locked = none → f.entered = [] → (doReturn e (T.setTop f) acts (some (.int (F2t_7 v0)))).1 = T.setFrames fs) : Steps p.tables e below (T.setTop (mkF m 7 #[.val (.int v0)] [])) (T.setFrames fs) := by
  show Steps p.tables e below (T.setTop (mkF m 7 #[.val (.int v0)] [])) _
  refine XS.iloadN X.here hx rfl (hb hby d2_7) rfl ?_
  show Steps p.tables e below (T.setTop (mkF m 8 #[.val (.int v0)] [(.int v0)])) _
  refine XS.bipush X.here hx rfl (hb hby d2_8) ?_
  show Steps p.tables e below (T.setTop (mkF m 10 #[.val (.int v0)] [(.int (48 : Int32)), (.int v0)])) _
  by_cases hc : v0 < (48 : Int32)
  · rw [show (F2t_7 v0) = F2t_23 from if_pos hc] at hr
    refine XS.icmpYes X.here hx rfl (pc0 := 10) (pc' := 23) rfl (hb hby d2_10) rfl (tlt hc).1 (by decide) (by decide) ?_
    exact b2t_23 X hx hZ hw hby hown v0 hret hr
  · rw [show (F2t_7 v0) = (F2t_13 v0) from if_neg hc] at hr
    refine XS.icmpNo X.here hx rfl (hb hby d2_10) rfl (flt hc).1 ?_
    exact b2t_13 X hx hZ hw hby hown v0 hret hr
def F2t_4 (v0 : Int32) (s0 : Int32) : Int32 := if s0 = (0 : Int32) then (F2t_7 v0) else F2t_19
theorem b2t_4 {p : Program} {l : Launch} {e : Env} {R : Room} {s : State} {m : MethodId} {args : Array Value} {below : List Frame} {meth : Method} {c : Code} {T : State} {locs : List Loc} {cells slots : Nat} {Z : State} {a0 : Array Value} (X : Stand p l e R s m args below meth c T locs cells slots) (hx : p.tables.exec = Jvm.exec) (hZ : Z.Warmed39 s.vm) (hw : ∀ d ∈ tables_1, d.before a0 Z = true) (hby : c.code = prog_55_method_3_code) (hown : s.vm.findClass "com/example/libreadies/libreadies/SourceText" = some m.cls) (v0 : Int32) (s0 : Int32) (hret : meth.sig.returnType = some .boolean) {fs : List Frame} (hr : ∀ (f : JFrame) (acts : List Action), f.method = m → f.locked = none → f.entered = [] → (doReturn e (T.setTop f) acts (some (.int (F2t_4 v0 s0)))).1 = T.setFrames fs) : Steps p.tables e below (T.setTop (mkF m 4 #[.val (.int v0)] [(.int s0)])) (T.setFrames fs) := by
  show Steps p.tables e below (T.setTop (mkF m 4 #[.val (.int v0)] [(.int s0)])) _
  by_cases hc : s0 = (0 : Int32)
  · rw [show (F2t_4 v0 s0) = (F2t_7 v0) from if_pos hc] at hr
    refine XS.ifNo X.here hx rfl (hb hby d2_4) rfl ((if0 _ _).trans (teq hc).2) ?_
    exact b2t_7 X hx hZ hw hby hown v0 hret hr
  · rw [show (F2t_4 v0 s0) = F2t_19 from if_neg hc] at hr
    refine XS.ifYes X.here hx rfl (pc0 := 4) (pc' := 19) rfl (hb hby d2_4) rfl ((if0 _ _).trans (feq hc).2) (by decide) (by decide) ?_
    exact b2t_19 X hx hZ hw hby hown v0 hret hr
def F2_0 (p0 : Int32) : Int32 := (F2t_4 p0 (F3_0 p0))
theorem pn_2 : plainName "com/example/libreadies/libreadies/SourceText" = true := by first | (simp [plainName, overriddenIn]; done) | decide +kernel
theorem ef_2 (m : MethodId) (p0 : Int32) : entryFrame m #[(.int p0)] 1 = mkF m 0 #[.val (.int p0)] [] := by first | (simp [entryFrame, mkF, argsToLocals, Value.category]; done) | rfl
def Q_rm2 (Z : State) (p0 : Int32) (h0 : Heap) (n0 : Nat) (v : Option Value) (h : Heap) (L : List Loc) : Prop := (v = some (.int (F2_0 p0)) ∧ Fr n0 L ∧ h = h0)
set_option maxRecDepth 65536 in
set_option maxHeartbeats 40000000 in
theorem rm2 (l : Launch) (Z : State) (a0 : Array Value) (hw : ∀ d ∈ tables_1, d.before a0 Z = true) (ws : List Jvm.Cond) (p0 : Int32) (h0 : Heap) (n0 : Nat) (Z0 : n0 ≤ h0.size) :
    MetFree l (⟨"com/example/libreadies/libreadies/SourceText", "isLabelPart", "(I)Z"⟩ : MethodName) (head1 (Jvm.Cond.code (⟨"com/example/libreadies/libreadies/SourceText", "isLabelPart", "(I)Z"⟩ : MethodName) prog_55_method_3_code 1 (some .boolean) :: ws) ({ frames := 1, cells := 0, slots := 0, locals := 12 } : Room)) (fun a U => a = #[(.int p0)] ∧ Z.Warmed39 U.vm ∧ U.heap = h0) (fun _ _ _ _ _ => True) (fun _ U o U' => ∃ v L, o = .returned v ∧ Q_rm2 Z p0 h0 n0 v U'.heap L ∧ FrameEnd U o U' L ({ frames := 1, cells := 0, slots := 0, locals := 12 } : Room).cells ({ frames := 1, cells := 0, slots := 0, locals := 12 } : Room).slots) := by
  refine MetFree.of_bodySF (plainFor_of_name pn_2) hisR ?_
  intro p e s m args below meth c s₁ Bd hml0 hP hK
  obtain ⟨rfl, hZ, hh⟩ := hP
  have hx := Bd.exec
  have hby := Bd.bytes
  have hml : c.maxLocals = 1 := hml0
  have hown : s.vm.findClass "com/example/libreadies/libreadies/SourceText" = some m.cls := findClass_of_methodNamed Bd.named
  have hnm := (name_of_methodNamed Bd.named Bd.method).1
  have X0 : Stand p l e ({ frames := 1, cells := 0, slots := 0, locals := 12 } : Room) s m #[(.int p0)] below meth c s₁ [] 0 0 := Stand.of_body Bd
  have e0 : s₁.heap = h0 := by rw [← hh, Bd.state]; rfl
  have N0 := Fr.nil n0
  have pre0 : ∀ t, Steps p.tables e below (s₁.setTop (mkF m 0 #[.val (.int p0)] [])) t → Steps p.tables e below (s₁.setTop (entryFrame m #[(.int p0)] 1)) t := fun t k => castTop (ef_2 m p0) k
  obtain ⟨_, _, ⟨T1, L1, k1, n1⟩, -, X1, ⟨Lc1, hQ1, l1, y1, z1⟩, st1⟩ := Jvm.LawKit.callS X0 hx (y := (⟨"com/example/libreadies/libreadies/SourceText", "isLabelStart", "(I)Z"⟩ : MethodName)) hown (mvT hZ (hw _ (List.mem_of_getElem? (i := 8) rfl))) (mvT hZ (hw _ (List.mem_of_getElem? (i := 9) rfl))) (mvT hZ (hw _ (List.mem_of_getElem? (i := 2) rfl))) (mvT hZ (hw _ (List.mem_of_getElem? (i := 10) rfl))) (by decide) (backOf (W := 0) (rm3 l Z a0 hw [] p0 h0 n0 Z0) hZ (hw _ (List.mem_of_getElem? (i := 10) rfl)) (hw _ (List.mem_of_getElem? (i := 2) rfl)) (by decide) (by decide)) (g := (mkF m 1 #[.val (.int p0)] [(.int p0)])) rfl (by rw [hml]; rfl) (argsL := [(.int p0)]) (rest := []) (lenOf pd0 rfl) rfl (by show 2 * 0 + _ ≤ _; exact Nat.le_of_eq rfl) (hb hby d2_1) (fun _ _ => ⟨rfl, e0, (by decide : 0 + 0 ≤ _), (by decide : 0 + 0 ≤ _)⟩)
  dsimp only [Pt.U, Pt.locs, Pt.cells, Pt.slots] at X1 l1 y1 z1 st1 hQ1
  subst l1 y1 z1
  obtain ⟨rfl, N1q, e1⟩ := hQ1
  have N1 := Fr.app N0 N1q
  obtain ⟨fs, hr, hrun, hended, hW, hsame⟩ := X1.leave (v := some (.int (F2t_4 p0 (F3_0 p0)))) (fun h => by rw [Bd.returns] at h; cases h)
  refine ⟨_, _, pre0 _ ?_, hrun, hended, _, _, rfl, ⟨rfl, N1, e1⟩, ⟨_, rfl⟩, hW, hsame.mono (by decide) (by decide)⟩
  show Steps p.tables e below (s₁.setTop (mkF m 0 #[.val (.int p0)] [])) _
  refine XS.iloadN X0.here hx rfl (hb hby d2_0) rfl ?_
  show Steps p.tables e below (s₁.setTop (mkF m 1 #[.val (.int p0)] [(.int p0)])) _
  refine st1 _ ?_
  show Steps p.tables e below (T1.setTop (mkF m 4 #[.val (.int p0)] [(.int (F3_0 p0))])) _
  exact b2t_4 X1 hx hZ hw hby hown p0 (F3_0 p0) Bd.returns hr
def F0s_12 : Int32 := (1 : Int32)
theorem b0s_12 {p : Program} {l : Launch} {e : Env} {R : Room} {s : State} {m : MethodId} {args : Array Value} {below : List Frame} {meth : Method} {c : Code} {T : State} {locs : List Loc} {cells slots : Nat} {Z : State} {a0 : Array Value} (X : Stand p l e R s m args below meth c T locs cells slots) (hx : p.tables.exec = Jvm.exec) (hZ : Z.Warmed39 s.vm) (hw : ∀ d ∈ tables_1, d.before a0 Z = true) (hby : c.code = code) (hown : s.vm.findClass "com/example/libreadies/libreadies/SourceTextIsLineBreakPinLaw" = some m.cls) (v0 : Int32) (target : State) (kt : Steps p.tables e below (T.setTop (mkF m 17 #[.val (.int v0), .unset, .unset] [(.int F0s_12)])) target) : Steps p.tables e below (T.setTop (mkF m 12 #[.val (.int v0), .unset, .unset] [])) target := by
  show Steps p.tables e below (T.setTop (mkF m 12 #[.val (.int v0), .unset, .unset] [])) _
  refine XS.iconst X.here hx rfl (hb hby at_12) ?_
  show Steps p.tables e below (T.setTop (mkF m 13 #[.val (.int v0), .unset, .unset] [(.int (1 : Int32))])) _
  refine XS.goto X.here hx rfl (pc0 := 13) (pc' := 17) rfl (hb hby at_13) (by decide) (by decide) ?_
  rw [show F0s_12 = (1 : Int32) from rfl] at kt
  exact kt
def F0s_16 : Int32 := (0 : Int32)
theorem b0s_16 {p : Program} {l : Launch} {e : Env} {R : Room} {s : State} {m : MethodId} {args : Array Value} {below : List Frame} {meth : Method} {c : Code} {T : State} {locs : List Loc} {cells slots : Nat} {Z : State} {a0 : Array Value} (X : Stand p l e R s m args below meth c T locs cells slots) (hx : p.tables.exec = Jvm.exec) (hZ : Z.Warmed39 s.vm) (hw : ∀ d ∈ tables_1, d.before a0 Z = true) (hby : c.code = code) (hown : s.vm.findClass "com/example/libreadies/libreadies/SourceTextIsLineBreakPinLaw" = some m.cls) (v0 : Int32) (target : State) (kt : Steps p.tables e below (T.setTop (mkF m 17 #[.val (.int v0), .unset, .unset] [(.int F0s_16)])) target) : Steps p.tables e below (T.setTop (mkF m 16 #[.val (.int v0), .unset, .unset] [])) target := by
  show Steps p.tables e below (T.setTop (mkF m 16 #[.val (.int v0), .unset, .unset] [])) _
  refine XS.iconst X.here hx rfl (hb hby at_16) ?_
  rw [show F0s_16 = (0 : Int32) from rfl] at kt
  exact kt
def F0s_6 (v0 : Int32) : Int32 := if v0 = (13 : Int32) then F0s_12 else F0s_16
theorem b0s_6 {p : Program} {l : Launch} {e : Env} {R : Room} {s : State} {m : MethodId} {args : Array Value} {below : List Frame} {meth : Method} {c : Code} {T : State} {locs : List Loc} {cells slots : Nat} {Z : State} {a0 : Array Value} (X : Stand p l e R s m args below meth c T locs cells slots) (hx : p.tables.exec = Jvm.exec) (hZ : Z.Warmed39 s.vm) (hw : ∀ d ∈ tables_1, d.before a0 Z = true) (hby : c.code = code) (hown : s.vm.findClass "com/example/libreadies/libreadies/SourceTextIsLineBreakPinLaw" = some m.cls) (v0 : Int32) (target : State) (kt : Steps p.tables e below (T.setTop (mkF m 17 #[.val (.int v0), .unset, .unset] [(.int (F0s_6 v0))])) target) : Steps p.tables e below (T.setTop (mkF m 6 #[.val (.int v0), .unset, .unset] [])) target := by
  show Steps p.tables e below (T.setTop (mkF m 6 #[.val (.int v0), .unset, .unset] [])) _
  refine XS.iloadN X.here hx rfl (hb hby at_6) rfl ?_
  show Steps p.tables e below (T.setTop (mkF m 7 #[.val (.int v0), .unset, .unset] [(.int v0)])) _
  refine XS.bipush X.here hx rfl (hb hby at_7) ?_
  show Steps p.tables e below (T.setTop (mkF m 9 #[.val (.int v0), .unset, .unset] [(.int (13 : Int32)), (.int v0)])) _
  by_cases hc : v0 = (13 : Int32)
  · rw [show (F0s_6 v0) = F0s_12 from if_pos hc] at kt
    refine XS.icmpNo X.here hx rfl (hb hby at_9) rfl (teq hc).2 ?_
    exact b0s_12 X hx hZ hw hby hown v0 target kt
  · rw [show (F0s_6 v0) = F0s_16 from if_neg hc] at kt
    refine XS.icmpYes X.here hx rfl (pc0 := 9) (pc' := 16) rfl (hb hby at_9) rfl (feq hc).2 (by decide) (by decide) ?_
    exact b0s_16 X hx hZ hw hby hown v0 target kt
def F0s_0 (v0 : Int32) : Int32 := if v0 = (10 : Int32) then F0s_12 else (F0s_6 v0)
theorem b0s_0 {p : Program} {l : Launch} {e : Env} {R : Room} {s : State} {m : MethodId} {args : Array Value} {below : List Frame} {meth : Method} {c : Code} {T : State} {locs : List Loc} {cells slots : Nat} {Z : State} {a0 : Array Value} (X : Stand p l e R s m args below meth c T locs cells slots) (hx : p.tables.exec = Jvm.exec) (hZ : Z.Warmed39 s.vm) (hw : ∀ d ∈ tables_1, d.before a0 Z = true) (hby : c.code = code) (hown : s.vm.findClass "com/example/libreadies/libreadies/SourceTextIsLineBreakPinLaw" = some m.cls) (v0 : Int32) (target : State) (kt : Steps p.tables e below (T.setTop (mkF m 17 #[.val (.int v0), .unset, .unset] [(.int (F0s_0 v0))])) target) : Steps p.tables e below (T.setTop (mkF m 0 #[.val (.int v0), .unset, .unset] [])) target := by
  show Steps p.tables e below (T.setTop (mkF m 0 #[.val (.int v0), .unset, .unset] [])) _
  refine XS.iloadN X.here hx rfl (hb hby at_0) rfl ?_
  show Steps p.tables e below (T.setTop (mkF m 1 #[.val (.int v0), .unset, .unset] [(.int v0)])) _
  refine XS.bipush X.here hx rfl (hb hby at_1) ?_
  show Steps p.tables e below (T.setTop (mkF m 3 #[.val (.int v0), .unset, .unset] [(.int (10 : Int32)), (.int v0)])) _
  by_cases hc : v0 = (10 : Int32)
  · rw [show (F0s_0 v0) = F0s_12 from if_pos hc] at kt
    refine XS.icmpYes X.here hx rfl (pc0 := 3) (pc' := 12) rfl (hb hby at_3) rfl (teq hc).1 (by decide) (by decide) ?_
    exact b0s_12 X hx hZ hw hby hown v0 target kt
  · rw [show (F0s_0 v0) = (F0s_6 v0) from if_neg hc] at kt
    refine XS.icmpNo X.here hx rfl (hb hby at_3) rfl (feq hc).1 ?_
    exact b0s_6 X hx hZ hw hby hown v0 target kt
theorem pn_0 : plainName "com/example/libreadies/libreadies/SourceTextIsLineBreakPinLaw" = true := by first | (simp [plainName, overriddenIn]; done) | decide +kernel
theorem ef_0 (m : MethodId) (p0 : Int32) : entryFrame m #[(.int p0)] maxLocals = mkF m 0 #[.val (.int p0), .unset, .unset] [] := by first | (simp [entryFrame, mkF, argsToLocals, Value.category, maxLocals]; done) | rfl
def Q_rm0a (Z : State) (p0 : Int32) (h0 : Heap) (n0 : Nat) (v : Option Value) (h : Heap) (L : List Loc) : Prop := (v = some (.int (1 : Int32)) ∧ Fr n0 L)
set_option maxRecDepth 65536 in
set_option maxHeartbeats 40000000 in
theorem rm0a (l : Launch) (Z : State) (a0 : Array Value) (hw : ∀ d ∈ tables_1, d.before a0 Z = true) (ws : List Jvm.Cond) (p0 : Int32) (h0 : Heap) (n0 : Nat) (Z0 : n0 ≤ h0.size) (hc23 : (F1_0 p0) = (F0s_0 p0)) (hc29 : (F0s_0 p0) = (0 : Int32)) :
    MetFree l x (head1 (Jvm.Cond.code x code maxLocals ret :: ws) room_1) (fun a U => a = #[(.int p0)] ∧ Z.Warmed39 U.vm ∧ U.heap = h0) (fun _ _ _ _ _ => True) (fun _ U o U' => ∃ v L, o = .returned v ∧ Q_rm0a Z p0 h0 n0 v U'.heap L ∧ FrameEnd U o U' L room_1.cells room_1.slots) := by
  refine MetFree.of_bodySF (plainFor_of_name pn_0) hisR ?_
  intro p e s m args below meth c s₁ Bd hml0 hP hK
  obtain ⟨rfl, hZ, hh⟩ := hP
  have hx := Bd.exec
  have hby := Bd.bytes
  have hml : c.maxLocals = 3 := hml0
  have hown : s.vm.findClass "com/example/libreadies/libreadies/SourceTextIsLineBreakPinLaw" = some m.cls := findClass_of_methodNamed Bd.named
  have hnm := (name_of_methodNamed Bd.named Bd.method).1
  have X0 : Stand p l e room_1 s m #[(.int p0)] below meth c s₁ [] 0 0 := Stand.of_body Bd
  have e0 : s₁.heap = h0 := by rw [← hh, Bd.state]; rfl
  have N0 := Fr.nil n0
  have pre0 : ∀ t, Steps p.tables e below (s₁.setTop (mkF m 0 #[.val (.int p0), .unset, .unset] [])) t → Steps p.tables e below (s₁.setTop (entryFrame m #[(.int p0)] maxLocals)) t := fun t k => castTop (ef_0 m p0) k
  obtain ⟨_, _, ⟨T1, L1, k1, n1⟩, -, X1, ⟨Lc1, hQ1, l1, y1, z1⟩, st1⟩ := Jvm.LawKit.callS X0 hx (y := (⟨"com/example/libreadies/libreadies/SourceText", "isLineBreak", "(I)Z"⟩ : MethodName)) hown (mvT hZ (hw _ (List.mem_of_getElem? (i := 0) rfl))) (mvT hZ (hw _ (List.mem_of_getElem? (i := 1) rfl))) (mvT hZ (hw _ (List.mem_of_getElem? (i := 2) rfl))) (mvT hZ (hw _ (List.mem_of_getElem? (i := 3) rfl))) (by decide) (backOf (W := 0) (rm1 l Z a0 hw [] p0 h0 n0 Z0) hZ (hw _ (List.mem_of_getElem? (i := 3) rfl)) (hw _ (List.mem_of_getElem? (i := 2) rfl)) (by decide) (by decide)) (g := (mkF m 19 #[.val (.int p0), .val (.int (F0s_0 p0)), .unset] [(.int p0)])) rfl (by rw [hml]; rfl) (argsL := [(.int p0)]) (rest := []) (lenOf pd0 rfl) rfl (by show 2 * 0 + _ ≤ _; exact Nat.le_of_eq rfl) (hb hby at_19) (fun _ _ => ⟨rfl, e0, (by decide : 0 + 0 ≤ _), (by decide : 0 + 0 ≤ _)⟩)
  dsimp only [Pt.U, Pt.locs, Pt.cells, Pt.slots] at X1 l1 y1 z1 st1 hQ1
  subst l1 y1 z1
  obtain ⟨rfl, N1q, e1⟩ := hQ1
  have N1 := Fr.app N0 N1q
  obtain ⟨_, _, ⟨T2, L2, k2, n2⟩, -, X2, ⟨Lc2, hQ2, l2, y2, z2⟩, st2⟩ := Jvm.LawKit.callS X1 hx (y := (⟨"com/example/libreadies/libreadies/SourceText", "isLineBreak", "(I)Z"⟩ : MethodName)) hown (mvT hZ (hw _ (List.mem_of_getElem? (i := 0) rfl))) (mvT hZ (hw _ (List.mem_of_getElem? (i := 1) rfl))) (mvT hZ (hw _ (List.mem_of_getElem? (i := 2) rfl))) (mvT hZ (hw _ (List.mem_of_getElem? (i := 3) rfl))) (by decide) (backOf (W := 0) (rm1 l Z a0 hw [] (10 : Int32) h0 n0 Z0) hZ (hw _ (List.mem_of_getElem? (i := 3) rfl)) (hw _ (List.mem_of_getElem? (i := 2) rfl)) (by decide) (by decide)) (g := (mkF m 43 #[.val (.int p0), .val (.int (F0s_0 p0)), .unset] [(.int (10 : Int32))])) rfl (by rw [hml]; rfl) (argsL := [(.int (10 : Int32))]) (rest := []) (lenOf pd0 rfl) rfl (by show 2 * 0 + _ ≤ _; exact Nat.le_of_eq rfl) (hb hby at_43) (fun _ _ => ⟨rfl, e1, (by decide : 0 + 0 ≤ _), (by decide : 0 + 0 ≤ _)⟩)
  dsimp only [Pt.U, Pt.locs, Pt.cells, Pt.slots] at X2 l2 y2 z2 st2 hQ2
  subst l2 y2 z2
  obtain ⟨rfl, N2q, e2⟩ := hQ2
  have N2 := Fr.app N1 N2q
  obtain ⟨_, _, ⟨T3, L3, k3, n3⟩, -, X3, ⟨Lc3, hQ3, l3, y3, z3⟩, st3⟩ := Jvm.LawKit.callS X2 hx (y := (⟨"com/example/libreadies/libreadies/SourceText", "isLineBreak", "(I)Z"⟩ : MethodName)) hown (mvT hZ (hw _ (List.mem_of_getElem? (i := 0) rfl))) (mvT hZ (hw _ (List.mem_of_getElem? (i := 1) rfl))) (mvT hZ (hw _ (List.mem_of_getElem? (i := 2) rfl))) (mvT hZ (hw _ (List.mem_of_getElem? (i := 3) rfl))) (by decide) (backOf (W := 0) (rm1 l Z a0 hw [] (13 : Int32) h0 n0 Z0) hZ (hw _ (List.mem_of_getElem? (i := 3) rfl)) (hw _ (List.mem_of_getElem? (i := 2) rfl)) (by decide) (by decide)) (g := (mkF m 51 #[.val (.int p0), .val (.int (F0s_0 p0)), .unset] [(.int (13 : Int32))])) rfl (by rw [hml]; rfl) (argsL := [(.int (13 : Int32))]) (rest := []) (lenOf pd0 rfl) rfl (by show 2 * 0 + _ ≤ _; exact Nat.le_of_eq rfl) (hb hby at_51) (fun _ _ => ⟨rfl, e2, (by decide : 0 + 0 ≤ _), (by decide : 0 + 0 ≤ _)⟩)
  dsimp only [Pt.U, Pt.locs, Pt.cells, Pt.slots] at X3 l3 y3 z3 st3 hQ3
  subst l3 y3 z3
  obtain ⟨rfl, N3q, e3⟩ := hQ3
  have N3 := Fr.app N2 N3q
  obtain ⟨_, _, ⟨T4, L4, k4, n4⟩, -, X4, ⟨Lc4, hQ4, l4, y4, z4⟩, st4⟩ := Jvm.LawKit.callS X3 hx (y := (⟨"com/example/libreadies/libreadies/SourceText", "isLineBreak", "(I)Z"⟩ : MethodName)) hown (mvT hZ (hw _ (List.mem_of_getElem? (i := 0) rfl))) (mvT hZ (hw _ (List.mem_of_getElem? (i := 1) rfl))) (mvT hZ (hw _ (List.mem_of_getElem? (i := 2) rfl))) (mvT hZ (hw _ (List.mem_of_getElem? (i := 3) rfl))) (by decide) (backOf (W := 0) (rm1 l Z a0 hw [] (9 : Int32) h0 n0 Z0) hZ (hw _ (List.mem_of_getElem? (i := 3) rfl)) (hw _ (List.mem_of_getElem? (i := 2) rfl)) (by decide) (by decide)) (g := (mkF m 59 #[.val (.int p0), .val (.int (F0s_0 p0)), .unset] [(.int (9 : Int32))])) rfl (by rw [hml]; rfl) (argsL := [(.int (9 : Int32))]) (rest := []) (lenOf pd0 rfl) rfl (by show 2 * 0 + _ ≤ _; exact Nat.le_of_eq rfl) (hb hby at_59) (fun _ _ => ⟨rfl, e3, (by decide : 0 + 0 ≤ _), (by decide : 0 + 0 ≤ _)⟩)
  dsimp only [Pt.U, Pt.locs, Pt.cells, Pt.slots] at X4 l4 y4 z4 st4 hQ4
  subst l4 y4 z4
  obtain ⟨rfl, N4q, e4⟩ := hQ4
  have N4 := Fr.app N3 N4q
  obtain ⟨_, _, ⟨T5, L5, k5, n5⟩, -, X5, ⟨Lc5, hQ5, l5, y5, z5⟩, st5⟩ := Jvm.LawKit.callS X4 hx (y := (⟨"com/example/libreadies/libreadies/SourceText", "isLineBreak", "(I)Z"⟩ : MethodName)) hown (mvT hZ (hw _ (List.mem_of_getElem? (i := 0) rfl))) (mvT hZ (hw _ (List.mem_of_getElem? (i := 1) rfl))) (mvT hZ (hw _ (List.mem_of_getElem? (i := 2) rfl))) (mvT hZ (hw _ (List.mem_of_getElem? (i := 3) rfl))) (by decide) (backOf (W := 0) (rm1 l Z a0 hw [] (11 : Int32) h0 n0 Z0) hZ (hw _ (List.mem_of_getElem? (i := 3) rfl)) (hw _ (List.mem_of_getElem? (i := 2) rfl)) (by decide) (by decide)) (g := (mkF m 67 #[.val (.int p0), .val (.int (F0s_0 p0)), .unset] [(.int (11 : Int32))])) rfl (by rw [hml]; rfl) (argsL := [(.int (11 : Int32))]) (rest := []) (lenOf pd0 rfl) rfl (by show 2 * 0 + _ ≤ _; exact Nat.le_of_eq rfl) (hb hby at_67) (fun _ _ => ⟨rfl, e4, (by decide : 0 + 0 ≤ _), (by decide : 0 + 0 ≤ _)⟩)
  dsimp only [Pt.U, Pt.locs, Pt.cells, Pt.slots] at X5 l5 y5 z5 st5 hQ5
  subst l5 y5 z5
  obtain ⟨rfl, N5q, e5⟩ := hQ5
  have N5 := Fr.app N4 N5q
  obtain ⟨_, _, ⟨T6, L6, k6, n6⟩, -, X6, ⟨Lc6, hQ6, l6, y6, z6⟩, st6⟩ := Jvm.LawKit.callS X5 hx (y := (⟨"com/example/libreadies/libreadies/SourceText", "isLineBreak", "(I)Z"⟩ : MethodName)) hown (mvT hZ (hw _ (List.mem_of_getElem? (i := 0) rfl))) (mvT hZ (hw _ (List.mem_of_getElem? (i := 1) rfl))) (mvT hZ (hw _ (List.mem_of_getElem? (i := 2) rfl))) (mvT hZ (hw _ (List.mem_of_getElem? (i := 3) rfl))) (by decide) (backOf (W := 0) (rm1 l Z a0 hw [] (12 : Int32) h0 n0 Z0) hZ (hw _ (List.mem_of_getElem? (i := 3) rfl)) (hw _ (List.mem_of_getElem? (i := 2) rfl)) (by decide) (by decide)) (g := (mkF m 75 #[.val (.int p0), .val (.int (F0s_0 p0)), .unset] [(.int (12 : Int32))])) rfl (by rw [hml]; rfl) (argsL := [(.int (12 : Int32))]) (rest := []) (lenOf pd0 rfl) rfl (by show 2 * 0 + _ ≤ _; exact Nat.le_of_eq rfl) (hb hby at_75) (fun _ _ => ⟨rfl, e5, (by decide : 0 + 0 ≤ _), (by decide : 0 + 0 ≤ _)⟩)
  dsimp only [Pt.U, Pt.locs, Pt.cells, Pt.slots] at X6 l6 y6 z6 st6 hQ6
  subst l6 y6 z6
  obtain ⟨rfl, N6q, e6⟩ := hQ6
  have N6 := Fr.app N5 N6q
  obtain ⟨_, _, ⟨T7, L7, k7, n7⟩, -, X7, ⟨Lc7, hQ7, l7, y7, z7⟩, st7⟩ := Jvm.LawKit.callS X6 hx (y := (⟨"com/example/libreadies/libreadies/SourceText", "isLineBreak", "(I)Z"⟩ : MethodName)) hown (mvT hZ (hw _ (List.mem_of_getElem? (i := 0) rfl))) (mvT hZ (hw _ (List.mem_of_getElem? (i := 1) rfl))) (mvT hZ (hw _ (List.mem_of_getElem? (i := 2) rfl))) (mvT hZ (hw _ (List.mem_of_getElem? (i := 3) rfl))) (by decide) (backOf (W := 0) (rm1 l Z a0 hw [] (14 : Int32) h0 n0 Z0) hZ (hw _ (List.mem_of_getElem? (i := 3) rfl)) (hw _ (List.mem_of_getElem? (i := 2) rfl)) (by decide) (by decide)) (g := (mkF m 83 #[.val (.int p0), .val (.int (F0s_0 p0)), .unset] [(.int (14 : Int32))])) rfl (by rw [hml]; rfl) (argsL := [(.int (14 : Int32))]) (rest := []) (lenOf pd0 rfl) rfl (by show 2 * 0 + _ ≤ _; exact Nat.le_of_eq rfl) (hb hby at_83) (fun _ _ => ⟨rfl, e6, (by decide : 0 + 0 ≤ _), (by decide : 0 + 0 ≤ _)⟩)
  dsimp only [Pt.U, Pt.locs, Pt.cells, Pt.slots] at X7 l7 y7 z7 st7 hQ7
  subst l7 y7 z7
  obtain ⟨rfl, N7q, e7⟩ := hQ7
  have N7 := Fr.app N6 N7q
  obtain ⟨_, _, ⟨T8, L8, k8, n8⟩, -, X8, ⟨Lc8, hQ8, l8, y8, z8⟩, st8⟩ := Jvm.LawKit.callS X7 hx (y := (⟨"com/example/libreadies/libreadies/SourceText", "isLineBreak", "(I)Z"⟩ : MethodName)) hown (mvT hZ (hw _ (List.mem_of_getElem? (i := 0) rfl))) (mvT hZ (hw _ (List.mem_of_getElem? (i := 1) rfl))) (mvT hZ (hw _ (List.mem_of_getElem? (i := 2) rfl))) (mvT hZ (hw _ (List.mem_of_getElem? (i := 3) rfl))) (by decide) (backOf (W := 0) (rm1 l Z a0 hw [] (133 : Int32) h0 n0 Z0) hZ (hw _ (List.mem_of_getElem? (i := 3) rfl)) (hw _ (List.mem_of_getElem? (i := 2) rfl)) (by decide) (by decide)) (g := (mkF m 92 #[.val (.int p0), .val (.int (F0s_0 p0)), .unset] [(.int (133 : Int32))])) rfl (by rw [hml]; rfl) (argsL := [(.int (133 : Int32))]) (rest := []) (lenOf pd0 rfl) rfl (by show 2 * 0 + _ ≤ _; exact Nat.le_of_eq rfl) (hb hby at_92) (fun _ _ => ⟨rfl, e7, (by decide : 0 + 0 ≤ _), (by decide : 0 + 0 ≤ _)⟩)
  dsimp only [Pt.U, Pt.locs, Pt.cells, Pt.slots] at X8 l8 y8 z8 st8 hQ8
  subst l8 y8 z8
  obtain ⟨rfl, N8q, e8⟩ := hQ8
  have N8 := Fr.app N7 N8q
  obtain ⟨_, _, ⟨T9, L9, k9, n9⟩, -, X9, ⟨Lc9, hQ9, l9, y9, z9⟩, st9⟩ := Jvm.LawKit.callS X8 hx (y := (⟨"com/example/libreadies/libreadies/SourceText", "isLineBreak", "(I)Z"⟩ : MethodName)) hown (mvT hZ (hw _ (List.mem_of_getElem? (i := 0) rfl))) (mvT hZ (hw _ (List.mem_of_getElem? (i := 1) rfl))) (mvT hZ (hw _ (List.mem_of_getElem? (i := 2) rfl))) (mvT hZ (hw _ (List.mem_of_getElem? (i := 3) rfl))) (by decide) (backOf (W := 0) (rm1 l Z a0 hw [] (8232 : Int32) h0 n0 Z0) hZ (hw _ (List.mem_of_getElem? (i := 3) rfl)) (hw _ (List.mem_of_getElem? (i := 2) rfl)) (by decide) (by decide)) (g := (mkF m 101 #[.val (.int p0), .val (.int (F0s_0 p0)), .unset] [(.int (8232 : Int32))])) rfl (by rw [hml]; rfl) (argsL := [(.int (8232 : Int32))]) (rest := []) (lenOf pd0 rfl) rfl (by show 2 * 0 + _ ≤ _; exact Nat.le_of_eq rfl) (hb hby at_101) (fun _ _ => ⟨rfl, e8, (by decide : 0 + 0 ≤ _), (by decide : 0 + 0 ≤ _)⟩)
  dsimp only [Pt.U, Pt.locs, Pt.cells, Pt.slots] at X9 l9 y9 z9 st9 hQ9
  subst l9 y9 z9
  obtain ⟨rfl, N9q, e9⟩ := hQ9
  have N9 := Fr.app N8 N9q
  obtain ⟨_, _, ⟨T10, L10, k10, n10⟩, -, X10, ⟨Lc10, hQ10, l10, y10, z10⟩, st10⟩ := Jvm.LawKit.callS X9 hx (y := (⟨"com/example/libreadies/libreadies/SourceText", "isLineBreak", "(I)Z"⟩ : MethodName)) hown (mvT hZ (hw _ (List.mem_of_getElem? (i := 0) rfl))) (mvT hZ (hw _ (List.mem_of_getElem? (i := 1) rfl))) (mvT hZ (hw _ (List.mem_of_getElem? (i := 2) rfl))) (mvT hZ (hw _ (List.mem_of_getElem? (i := 3) rfl))) (by decide) (backOf (W := 0) (rm1 l Z a0 hw [] (65546 : Int32) h0 n0 Z0) hZ (hw _ (List.mem_of_getElem? (i := 3) rfl)) (hw _ (List.mem_of_getElem? (i := 2) rfl)) (by decide) (by decide)) (g := (mkF m 109 #[.val (.int p0), .val (.int (F0s_0 p0)), .unset] [(.int (65546 : Int32))])) rfl (by rw [hml]; rfl) (argsL := [(.int (65546 : Int32))]) (rest := []) (lenOf pd0 rfl) rfl (by show 2 * 0 + _ ≤ _; exact Nat.le_of_eq rfl) (hb hby at_109) (fun _ _ => ⟨rfl, e9, (by decide : 0 + 0 ≤ _), (by decide : 0 + 0 ≤ _)⟩)
  dsimp only [Pt.U, Pt.locs, Pt.cells, Pt.slots] at X10 l10 y10 z10 st10 hQ10
  subst l10 y10 z10
  obtain ⟨rfl, N10q, e10⟩ := hQ10
  have N10 := Fr.app N9 N10q
  obtain ⟨_, _, ⟨T11, L11, k11, n11⟩, -, X11, ⟨Lc11, hQ11, l11, y11, z11⟩, st11⟩ := Jvm.LawKit.callS X10 hx (y := (⟨"com/example/libreadies/libreadies/SourceText", "isLineBreak", "(I)Z"⟩ : MethodName)) hown (mvT hZ (hw _ (List.mem_of_getElem? (i := 0) rfl))) (mvT hZ (hw _ (List.mem_of_getElem? (i := 1) rfl))) (mvT hZ (hw _ (List.mem_of_getElem? (i := 2) rfl))) (mvT hZ (hw _ (List.mem_of_getElem? (i := 3) rfl))) (by decide) (backOf (W := 0) (rm1 l Z a0 hw [] (-10 : Int32) h0 n0 Z0) hZ (hw _ (List.mem_of_getElem? (i := 3) rfl)) (hw _ (List.mem_of_getElem? (i := 2) rfl)) (by decide) (by decide)) (g := (mkF m 117 #[.val (.int p0), .val (.int (F0s_0 p0)), .unset] [(.int (-10 : Int32))])) rfl (by rw [hml]; rfl) (argsL := [(.int (-10 : Int32))]) (rest := []) (lenOf pd0 rfl) rfl (by show 2 * 0 + _ ≤ _; exact Nat.le_of_eq rfl) (hb hby at_117) (fun _ _ => ⟨rfl, e10, (by decide : 0 + 0 ≤ _), (by decide : 0 + 0 ≤ _)⟩)
  dsimp only [Pt.U, Pt.locs, Pt.cells, Pt.slots] at X11 l11 y11 z11 st11 hQ11
  subst l11 y11 z11
  obtain ⟨rfl, N11q, e11⟩ := hQ11
  have N11 := Fr.app N10 N11q
  obtain ⟨fs, hr, hrun, hended, hW, hsame⟩ := X11.leave (v := some (.int (1 : Int32))) (fun h => by rw [Bd.returns] at h; cases h)
  refine ⟨_, _, pre0 _ ?_, hrun, hended, _, _, rfl, ⟨rfl, N11⟩, ⟨_, rfl⟩, hW, hsame.mono (by decide) (by decide)⟩
  show Steps p.tables e below (s₁.setTop (mkF m 0 #[.val (.int p0), .unset, .unset] [])) _
  refine b0s_0 X0 hx hZ hw hby hown p0 _ ?_
  show Steps p.tables e below (s₁.setTop (mkF m 17 #[.val (.int p0), .unset, .unset] [(.int (F0s_0 p0))])) _
  refine XS.istoreN X0.here hx rfl (hb hby at_17) rfl (l' := #[.val (.int p0), .val (.int (F0s_0 p0)), .unset]) rfl ?_
  show Steps p.tables e below (s₁.setTop (mkF m 18 #[.val (.int p0), .val (.int (F0s_0 p0)), .unset] [])) _
  refine XS.iloadN X0.here hx rfl (hb hby at_18) rfl ?_
  show Steps p.tables e below (s₁.setTop (mkF m 19 #[.val (.int p0), .val (.int (F0s_0 p0)), .unset] [(.int p0)])) _
  refine st1 _ ?_
  show Steps p.tables e below (T1.setTop (mkF m 22 #[.val (.int p0), .val (.int (F0s_0 p0)), .unset] [(.int (F1_0 p0))])) _
  refine XS.iloadN X1.here hx rfl (hb hby at_22) rfl ?_
  show Steps p.tables e below (T1.setTop (mkF m 23 #[.val (.int p0), .val (.int (F0s_0 p0)), .unset] [(.int (F0s_0 p0)), (.int (F1_0 p0))])) _
  refine XS.icmpYes X1.here hx rfl (pc0 := 23) (pc' := 28) rfl (hb hby at_23) rfl (teq hc23).1 (by decide) (by decide) ?_
  show Steps p.tables e below (T1.setTop (mkF m 28 #[.val (.int p0), .val (.int (F0s_0 p0)), .unset] [])) _
  refine XS.iloadN X1.here hx rfl (hb hby at_28) rfl ?_
  show Steps p.tables e below (T1.setTop (mkF m 29 #[.val (.int p0), .val (.int (F0s_0 p0)), .unset] [(.int (F0s_0 p0))])) _
  refine XS.ifYes X1.here hx rfl (pc0 := 29) (pc' := 41) rfl (hb hby at_29) rfl ((if0 _ _).trans (teq hc29).1) (by decide) (by decide) ?_
  show Steps p.tables e below (T1.setTop (mkF m 41 #[.val (.int p0), .val (.int (F0s_0 p0)), .unset] [])) _
  refine XS.bipush X1.here hx rfl (hb hby at_41) ?_
  show Steps p.tables e below (T1.setTop (mkF m 43 #[.val (.int p0), .val (.int (F0s_0 p0)), .unset] [(.int (10 : Int32))])) _
  refine st2 _ ?_
  show Steps p.tables e below (T2.setTop (mkF m 46 #[.val (.int p0), .val (.int (F0s_0 p0)), .unset] [(.int (F1_0 (10 : Int32)))])) _
  refine XS.ifNo X2.here hx rfl (hb hby at_46) rfl ((if0 _ _).trans (feq (by decide +kernel)).1) ?_
  show Steps p.tables e below (T2.setTop (mkF m 49 #[.val (.int p0), .val (.int (F0s_0 p0)), .unset] [])) _
  refine XS.bipush X2.here hx rfl (hb hby at_49) ?_
  show Steps p.tables e below (T2.setTop (mkF m 51 #[.val (.int p0), .val (.int (F0s_0 p0)), .unset] [(.int (13 : Int32))])) _
  refine st3 _ ?_
  show Steps p.tables e below (T3.setTop (mkF m 54 #[.val (.int p0), .val (.int (F0s_0 p0)), .unset] [(.int (F1_0 (13 : Int32)))])) _
  refine XS.ifNo X3.here hx rfl (hb hby at_54) rfl ((if0 _ _).trans (feq (by decide +kernel)).1) ?_
  show Steps p.tables e below (T3.setTop (mkF m 57 #[.val (.int p0), .val (.int (F0s_0 p0)), .unset] [])) _
  refine XS.bipush X3.here hx rfl (hb hby at_57) ?_
  show Steps p.tables e below (T3.setTop (mkF m 59 #[.val (.int p0), .val (.int (F0s_0 p0)), .unset] [(.int (9 : Int32))])) _
  refine st4 _ ?_
  show Steps p.tables e below (T4.setTop (mkF m 62 #[.val (.int p0), .val (.int (F0s_0 p0)), .unset] [(.int (F1_0 (9 : Int32)))])) _
  refine XS.ifNo X4.here hx rfl (hb hby at_62) rfl ((if0 _ _).trans (teq (by decide +kernel)).2) ?_
  show Steps p.tables e below (T4.setTop (mkF m 65 #[.val (.int p0), .val (.int (F0s_0 p0)), .unset] [])) _
  refine XS.bipush X4.here hx rfl (hb hby at_65) ?_
  show Steps p.tables e below (T4.setTop (mkF m 67 #[.val (.int p0), .val (.int (F0s_0 p0)), .unset] [(.int (11 : Int32))])) _
  refine st5 _ ?_
  show Steps p.tables e below (T5.setTop (mkF m 70 #[.val (.int p0), .val (.int (F0s_0 p0)), .unset] [(.int (F1_0 (11 : Int32)))])) _
  refine XS.ifNo X5.here hx rfl (hb hby at_70) rfl ((if0 _ _).trans (teq (by decide +kernel)).2) ?_
  show Steps p.tables e below (T5.setTop (mkF m 73 #[.val (.int p0), .val (.int (F0s_0 p0)), .unset] [])) _
  refine XS.bipush X5.here hx rfl (hb hby at_73) ?_
  show Steps p.tables e below (T5.setTop (mkF m 75 #[.val (.int p0), .val (.int (F0s_0 p0)), .unset] [(.int (12 : Int32))])) _
  refine st6 _ ?_
  show Steps p.tables e below (T6.setTop (mkF m 78 #[.val (.int p0), .val (.int (F0s_0 p0)), .unset] [(.int (F1_0 (12 : Int32)))])) _
  refine XS.ifNo X6.here hx rfl (hb hby at_78) rfl ((if0 _ _).trans (teq (by decide +kernel)).2) ?_
  show Steps p.tables e below (T6.setTop (mkF m 81 #[.val (.int p0), .val (.int (F0s_0 p0)), .unset] [])) _
  refine XS.bipush X6.here hx rfl (hb hby at_81) ?_
  show Steps p.tables e below (T6.setTop (mkF m 83 #[.val (.int p0), .val (.int (F0s_0 p0)), .unset] [(.int (14 : Int32))])) _
  refine st7 _ ?_
  show Steps p.tables e below (T7.setTop (mkF m 86 #[.val (.int p0), .val (.int (F0s_0 p0)), .unset] [(.int (F1_0 (14 : Int32)))])) _
  refine XS.ifNo X7.here hx rfl (hb hby at_86) rfl ((if0 _ _).trans (teq (by decide +kernel)).2) ?_
  show Steps p.tables e below (T7.setTop (mkF m 89 #[.val (.int p0), .val (.int (F0s_0 p0)), .unset] [])) _
  refine XS.sipush X7.here hx rfl (hb hby at_89) ?_
  show Steps p.tables e below (T7.setTop (mkF m 92 #[.val (.int p0), .val (.int (F0s_0 p0)), .unset] [(.int (133 : Int32))])) _
  refine st8 _ ?_
  show Steps p.tables e below (T8.setTop (mkF m 95 #[.val (.int p0), .val (.int (F0s_0 p0)), .unset] [(.int (F1_0 (133 : Int32)))])) _
  refine XS.ifNo X8.here hx rfl (hb hby at_95) rfl ((if0 _ _).trans (teq (by decide +kernel)).2) ?_
  show Steps p.tables e below (T8.setTop (mkF m 98 #[.val (.int p0), .val (.int (F0s_0 p0)), .unset] [])) _
  refine XS.sipush X8.here hx rfl (hb hby at_98) ?_
  show Steps p.tables e below (T8.setTop (mkF m 101 #[.val (.int p0), .val (.int (F0s_0 p0)), .unset] [(.int (8232 : Int32))])) _
  refine st9 _ ?_
  show Steps p.tables e below (T9.setTop (mkF m 104 #[.val (.int p0), .val (.int (F0s_0 p0)), .unset] [(.int (F1_0 (8232 : Int32)))])) _
  refine XS.ifNo X9.here hx rfl (hb hby at_104) rfl ((if0 _ _).trans (teq (by decide +kernel)).2) ?_
  show Steps p.tables e below (T9.setTop (mkF m 107 #[.val (.int p0), .val (.int (F0s_0 p0)), .unset] [])) _
  refine X9.ldcInt hx hown (mvT hZ (hw _ (List.mem_of_getElem? (i := 4) rfl))) (g := (mkF m 107 #[.val (.int p0), .val (.int (F0s_0 p0)), .unset] [])) rfl (hb hby at_107) _ ?_
  show Steps p.tables e below (T9.setTop (mkF m 109 #[.val (.int p0), .val (.int (F0s_0 p0)), .unset] [(.int (65546 : Int32))])) _
  refine st10 _ ?_
  show Steps p.tables e below (T10.setTop (mkF m 112 #[.val (.int p0), .val (.int (F0s_0 p0)), .unset] [(.int (F1_0 (65546 : Int32)))])) _
  refine XS.ifNo X10.here hx rfl (hb hby at_112) rfl ((if0 _ _).trans (teq (by decide +kernel)).2) ?_
  show Steps p.tables e below (T10.setTop (mkF m 115 #[.val (.int p0), .val (.int (F0s_0 p0)), .unset] [])) _
  refine XS.bipush X10.here hx rfl (hb hby at_115) ?_
  show Steps p.tables e below (T10.setTop (mkF m 117 #[.val (.int p0), .val (.int (F0s_0 p0)), .unset] [(.int (-10 : Int32))])) _
  refine st11 _ ?_
  show Steps p.tables e below (T11.setTop (mkF m 120 #[.val (.int p0), .val (.int (F0s_0 p0)), .unset] [(.int (F1_0 (-10 : Int32)))])) _
  refine XS.ifNo X11.here hx rfl (hb hby at_120) rfl ((if0 _ _).trans (teq (by decide +kernel)).2) ?_
  show Steps p.tables e below (T11.setTop (mkF m 123 #[.val (.int p0), .val (.int (F0s_0 p0)), .unset] [])) _
  refine XS.iconst X11.here hx rfl (hb hby at_123) ?_
  show Steps p.tables e below (T11.setTop (mkF m 124 #[.val (.int p0), .val (.int (F0s_0 p0)), .unset] [(.int (1 : Int32))])) _
  refine XS.goto X11.here hx rfl (pc0 := 124) (pc' := 128) rfl (hb hby at_124) (by decide) (by decide) ?_
  show Steps p.tables e below (T11.setTop (mkF m 128 #[.val (.int p0), .val (.int (F0s_0 p0)), .unset] [(.int (1 : Int32))])) _
  refine XS.istoreN X11.here hx rfl (hb hby at_128) rfl (l' := #[.val (.int p0), .val (.int (F0s_0 p0)), .val (.int (1 : Int32))]) rfl ?_
  show Steps p.tables e below (T11.setTop (mkF m 129 #[.val (.int p0), .val (.int (F0s_0 p0)), .val (.int (1 : Int32))] [])) _
  refine XS.iloadN X11.here hx rfl (hb hby at_129) rfl ?_
  show Steps p.tables e below (T11.setTop (mkF m 130 #[.val (.int p0), .val (.int (F0s_0 p0)), .val (.int (1 : Int32))] [(.int (1 : Int32))])) _
  exact retN X11 hx (t := .boolean) Bd.returns (by simp) (hb hby at_130) hr
def Q_rm0b (Z : State) (p0 : Int32) (h0 : Heap) (n0 : Nat) (v : Option Value) (h : Heap) (L : List Loc) : Prop := (v = some (.int (1 : Int32)) ∧ Fr n0 L)
set_option maxRecDepth 65536 in
set_option maxHeartbeats 40000000 in
theorem rm0b (l : Launch) (Z : State) (a0 : Array Value) (hw : ∀ d ∈ tables_1, d.before a0 Z = true) (ws : List Jvm.Cond) (p0 : Int32) (h0 : Heap) (n0 : Nat) (Z0 : n0 ≤ h0.size) (hc23 : (F1_0 p0) = (F0s_0 p0)) (hc29 : ¬ ((F0s_0 p0) = (0 : Int32))) (hc36 : (F2_0 p0) = (0 : Int32)) :
    MetFree l x (head1 (Jvm.Cond.code x code maxLocals ret :: ws) room_1) (fun a U => a = #[(.int p0)] ∧ Z.Warmed39 U.vm ∧ U.heap = h0) (fun _ _ _ _ _ => True) (fun _ U o U' => ∃ v L, o = .returned v ∧ Q_rm0b Z p0 h0 n0 v U'.heap L ∧ FrameEnd U o U' L room_1.cells room_1.slots) := by
  refine MetFree.of_bodySF (plainFor_of_name pn_0) hisR ?_
  intro p e s m args below meth c s₁ Bd hml0 hP hK
  obtain ⟨rfl, hZ, hh⟩ := hP
  have hx := Bd.exec
  have hby := Bd.bytes
  have hml : c.maxLocals = 3 := hml0
  have hown : s.vm.findClass "com/example/libreadies/libreadies/SourceTextIsLineBreakPinLaw" = some m.cls := findClass_of_methodNamed Bd.named
  have hnm := (name_of_methodNamed Bd.named Bd.method).1
  have X0 : Stand p l e room_1 s m #[(.int p0)] below meth c s₁ [] 0 0 := Stand.of_body Bd
  have e0 : s₁.heap = h0 := by rw [← hh, Bd.state]; rfl
  have N0 := Fr.nil n0
  have pre0 : ∀ t, Steps p.tables e below (s₁.setTop (mkF m 0 #[.val (.int p0), .unset, .unset] [])) t → Steps p.tables e below (s₁.setTop (entryFrame m #[(.int p0)] maxLocals)) t := fun t k => castTop (ef_0 m p0) k
  obtain ⟨_, _, ⟨T1, L1, k1, n1⟩, -, X1, ⟨Lc1, hQ1, l1, y1, z1⟩, st1⟩ := Jvm.LawKit.callS X0 hx (y := (⟨"com/example/libreadies/libreadies/SourceText", "isLineBreak", "(I)Z"⟩ : MethodName)) hown (mvT hZ (hw _ (List.mem_of_getElem? (i := 0) rfl))) (mvT hZ (hw _ (List.mem_of_getElem? (i := 1) rfl))) (mvT hZ (hw _ (List.mem_of_getElem? (i := 2) rfl))) (mvT hZ (hw _ (List.mem_of_getElem? (i := 3) rfl))) (by decide) (backOf (W := 0) (rm1 l Z a0 hw [] p0 h0 n0 Z0) hZ (hw _ (List.mem_of_getElem? (i := 3) rfl)) (hw _ (List.mem_of_getElem? (i := 2) rfl)) (by decide) (by decide)) (g := (mkF m 19 #[.val (.int p0), .val (.int (F0s_0 p0)), .unset] [(.int p0)])) rfl (by rw [hml]; rfl) (argsL := [(.int p0)]) (rest := []) (lenOf pd0 rfl) rfl (by show 2 * 0 + _ ≤ _; exact Nat.le_of_eq rfl) (hb hby at_19) (fun _ _ => ⟨rfl, e0, (by decide : 0 + 0 ≤ _), (by decide : 0 + 0 ≤ _)⟩)
  dsimp only [Pt.U, Pt.locs, Pt.cells, Pt.slots] at X1 l1 y1 z1 st1 hQ1
  subst l1 y1 z1
  obtain ⟨rfl, N1q, e1⟩ := hQ1
  have N1 := Fr.app N0 N1q
  obtain ⟨_, _, ⟨T2, L2, k2, n2⟩, -, X2, ⟨Lc2, hQ2, l2, y2, z2⟩, st2⟩ := Jvm.LawKit.callS X1 hx (y := (⟨"com/example/libreadies/libreadies/SourceText", "isLabelPart", "(I)Z"⟩ : MethodName)) hown (mvT hZ (hw _ (List.mem_of_getElem? (i := 5) rfl))) (mvT hZ (hw _ (List.mem_of_getElem? (i := 6) rfl))) (mvT hZ (hw _ (List.mem_of_getElem? (i := 2) rfl))) (mvT hZ (hw _ (List.mem_of_getElem? (i := 7) rfl))) (by decide) (backOf (W := 0) (rm2 l Z a0 hw [] p0 h0 n0 Z0) hZ (hw _ (List.mem_of_getElem? (i := 7) rfl)) (hw _ (List.mem_of_getElem? (i := 2) rfl)) (by decide) (by decide)) (g := (mkF m 33 #[.val (.int p0), .val (.int (F0s_0 p0)), .unset] [(.int p0)])) rfl (by rw [hml]; rfl) (argsL := [(.int p0)]) (rest := []) (lenOf pd0 rfl) rfl (by show 2 * 0 + _ ≤ _; exact Nat.le_of_eq rfl) (hb hby at_33) (fun _ _ => ⟨rfl, e1, (by decide : 0 + 0 ≤ _), (by decide : 0 + 0 ≤ _)⟩)
  dsimp only [Pt.U, Pt.locs, Pt.cells, Pt.slots] at X2 l2 y2 z2 st2 hQ2
  subst l2 y2 z2
  obtain ⟨rfl, N2q, e2⟩ := hQ2
  have N2 := Fr.app N1 N2q
  obtain ⟨_, _, ⟨T3, L3, k3, n3⟩, -, X3, ⟨Lc3, hQ3, l3, y3, z3⟩, st3⟩ := Jvm.LawKit.callS X2 hx (y := (⟨"com/example/libreadies/libreadies/SourceText", "isLineBreak", "(I)Z"⟩ : MethodName)) hown (mvT hZ (hw _ (List.mem_of_getElem? (i := 0) rfl))) (mvT hZ (hw _ (List.mem_of_getElem? (i := 1) rfl))) (mvT hZ (hw _ (List.mem_of_getElem? (i := 2) rfl))) (mvT hZ (hw _ (List.mem_of_getElem? (i := 3) rfl))) (by decide) (backOf (W := 0) (rm1 l Z a0 hw [] (10 : Int32) h0 n0 Z0) hZ (hw _ (List.mem_of_getElem? (i := 3) rfl)) (hw _ (List.mem_of_getElem? (i := 2) rfl)) (by decide) (by decide)) (g := (mkF m 43 #[.val (.int p0), .val (.int (F0s_0 p0)), .unset] [(.int (10 : Int32))])) rfl (by rw [hml]; rfl) (argsL := [(.int (10 : Int32))]) (rest := []) (lenOf pd0 rfl) rfl (by show 2 * 0 + _ ≤ _; exact Nat.le_of_eq rfl) (hb hby at_43) (fun _ _ => ⟨rfl, e2, (by decide : 0 + 0 ≤ _), (by decide : 0 + 0 ≤ _)⟩)
  dsimp only [Pt.U, Pt.locs, Pt.cells, Pt.slots] at X3 l3 y3 z3 st3 hQ3
  subst l3 y3 z3
  obtain ⟨rfl, N3q, e3⟩ := hQ3
  have N3 := Fr.app N2 N3q
  obtain ⟨_, _, ⟨T4, L4, k4, n4⟩, -, X4, ⟨Lc4, hQ4, l4, y4, z4⟩, st4⟩ := Jvm.LawKit.callS X3 hx (y := (⟨"com/example/libreadies/libreadies/SourceText", "isLineBreak", "(I)Z"⟩ : MethodName)) hown (mvT hZ (hw _ (List.mem_of_getElem? (i := 0) rfl))) (mvT hZ (hw _ (List.mem_of_getElem? (i := 1) rfl))) (mvT hZ (hw _ (List.mem_of_getElem? (i := 2) rfl))) (mvT hZ (hw _ (List.mem_of_getElem? (i := 3) rfl))) (by decide) (backOf (W := 0) (rm1 l Z a0 hw [] (13 : Int32) h0 n0 Z0) hZ (hw _ (List.mem_of_getElem? (i := 3) rfl)) (hw _ (List.mem_of_getElem? (i := 2) rfl)) (by decide) (by decide)) (g := (mkF m 51 #[.val (.int p0), .val (.int (F0s_0 p0)), .unset] [(.int (13 : Int32))])) rfl (by rw [hml]; rfl) (argsL := [(.int (13 : Int32))]) (rest := []) (lenOf pd0 rfl) rfl (by show 2 * 0 + _ ≤ _; exact Nat.le_of_eq rfl) (hb hby at_51) (fun _ _ => ⟨rfl, e3, (by decide : 0 + 0 ≤ _), (by decide : 0 + 0 ≤ _)⟩)
  dsimp only [Pt.U, Pt.locs, Pt.cells, Pt.slots] at X4 l4 y4 z4 st4 hQ4
  subst l4 y4 z4
  obtain ⟨rfl, N4q, e4⟩ := hQ4
  have N4 := Fr.app N3 N4q
  obtain ⟨_, _, ⟨T5, L5, k5, n5⟩, -, X5, ⟨Lc5, hQ5, l5, y5, z5⟩, st5⟩ := Jvm.LawKit.callS X4 hx (y := (⟨"com/example/libreadies/libreadies/SourceText", "isLineBreak", "(I)Z"⟩ : MethodName)) hown (mvT hZ (hw _ (List.mem_of_getElem? (i := 0) rfl))) (mvT hZ (hw _ (List.mem_of_getElem? (i := 1) rfl))) (mvT hZ (hw _ (List.mem_of_getElem? (i := 2) rfl))) (mvT hZ (hw _ (List.mem_of_getElem? (i := 3) rfl))) (by decide) (backOf (W := 0) (rm1 l Z a0 hw [] (9 : Int32) h0 n0 Z0) hZ (hw _ (List.mem_of_getElem? (i := 3) rfl)) (hw _ (List.mem_of_getElem? (i := 2) rfl)) (by decide) (by decide)) (g := (mkF m 59 #[.val (.int p0), .val (.int (F0s_0 p0)), .unset] [(.int (9 : Int32))])) rfl (by rw [hml]; rfl) (argsL := [(.int (9 : Int32))]) (rest := []) (lenOf pd0 rfl) rfl (by show 2 * 0 + _ ≤ _; exact Nat.le_of_eq rfl) (hb hby at_59) (fun _ _ => ⟨rfl, e4, (by decide : 0 + 0 ≤ _), (by decide : 0 + 0 ≤ _)⟩)
  dsimp only [Pt.U, Pt.locs, Pt.cells, Pt.slots] at X5 l5 y5 z5 st5 hQ5
  subst l5 y5 z5
  obtain ⟨rfl, N5q, e5⟩ := hQ5
  have N5 := Fr.app N4 N5q
  obtain ⟨_, _, ⟨T6, L6, k6, n6⟩, -, X6, ⟨Lc6, hQ6, l6, y6, z6⟩, st6⟩ := Jvm.LawKit.callS X5 hx (y := (⟨"com/example/libreadies/libreadies/SourceText", "isLineBreak", "(I)Z"⟩ : MethodName)) hown (mvT hZ (hw _ (List.mem_of_getElem? (i := 0) rfl))) (mvT hZ (hw _ (List.mem_of_getElem? (i := 1) rfl))) (mvT hZ (hw _ (List.mem_of_getElem? (i := 2) rfl))) (mvT hZ (hw _ (List.mem_of_getElem? (i := 3) rfl))) (by decide) (backOf (W := 0) (rm1 l Z a0 hw [] (11 : Int32) h0 n0 Z0) hZ (hw _ (List.mem_of_getElem? (i := 3) rfl)) (hw _ (List.mem_of_getElem? (i := 2) rfl)) (by decide) (by decide)) (g := (mkF m 67 #[.val (.int p0), .val (.int (F0s_0 p0)), .unset] [(.int (11 : Int32))])) rfl (by rw [hml]; rfl) (argsL := [(.int (11 : Int32))]) (rest := []) (lenOf pd0 rfl) rfl (by show 2 * 0 + _ ≤ _; exact Nat.le_of_eq rfl) (hb hby at_67) (fun _ _ => ⟨rfl, e5, (by decide : 0 + 0 ≤ _), (by decide : 0 + 0 ≤ _)⟩)
  dsimp only [Pt.U, Pt.locs, Pt.cells, Pt.slots] at X6 l6 y6 z6 st6 hQ6
  subst l6 y6 z6
  obtain ⟨rfl, N6q, e6⟩ := hQ6
  have N6 := Fr.app N5 N6q
  obtain ⟨_, _, ⟨T7, L7, k7, n7⟩, -, X7, ⟨Lc7, hQ7, l7, y7, z7⟩, st7⟩ := Jvm.LawKit.callS X6 hx (y := (⟨"com/example/libreadies/libreadies/SourceText", "isLineBreak", "(I)Z"⟩ : MethodName)) hown (mvT hZ (hw _ (List.mem_of_getElem? (i := 0) rfl))) (mvT hZ (hw _ (List.mem_of_getElem? (i := 1) rfl))) (mvT hZ (hw _ (List.mem_of_getElem? (i := 2) rfl))) (mvT hZ (hw _ (List.mem_of_getElem? (i := 3) rfl))) (by decide) (backOf (W := 0) (rm1 l Z a0 hw [] (12 : Int32) h0 n0 Z0) hZ (hw _ (List.mem_of_getElem? (i := 3) rfl)) (hw _ (List.mem_of_getElem? (i := 2) rfl)) (by decide) (by decide)) (g := (mkF m 75 #[.val (.int p0), .val (.int (F0s_0 p0)), .unset] [(.int (12 : Int32))])) rfl (by rw [hml]; rfl) (argsL := [(.int (12 : Int32))]) (rest := []) (lenOf pd0 rfl) rfl (by show 2 * 0 + _ ≤ _; exact Nat.le_of_eq rfl) (hb hby at_75) (fun _ _ => ⟨rfl, e6, (by decide : 0 + 0 ≤ _), (by decide : 0 + 0 ≤ _)⟩)
  dsimp only [Pt.U, Pt.locs, Pt.cells, Pt.slots] at X7 l7 y7 z7 st7 hQ7
  subst l7 y7 z7
  obtain ⟨rfl, N7q, e7⟩ := hQ7
  have N7 := Fr.app N6 N7q
  obtain ⟨_, _, ⟨T8, L8, k8, n8⟩, -, X8, ⟨Lc8, hQ8, l8, y8, z8⟩, st8⟩ := Jvm.LawKit.callS X7 hx (y := (⟨"com/example/libreadies/libreadies/SourceText", "isLineBreak", "(I)Z"⟩ : MethodName)) hown (mvT hZ (hw _ (List.mem_of_getElem? (i := 0) rfl))) (mvT hZ (hw _ (List.mem_of_getElem? (i := 1) rfl))) (mvT hZ (hw _ (List.mem_of_getElem? (i := 2) rfl))) (mvT hZ (hw _ (List.mem_of_getElem? (i := 3) rfl))) (by decide) (backOf (W := 0) (rm1 l Z a0 hw [] (14 : Int32) h0 n0 Z0) hZ (hw _ (List.mem_of_getElem? (i := 3) rfl)) (hw _ (List.mem_of_getElem? (i := 2) rfl)) (by decide) (by decide)) (g := (mkF m 83 #[.val (.int p0), .val (.int (F0s_0 p0)), .unset] [(.int (14 : Int32))])) rfl (by rw [hml]; rfl) (argsL := [(.int (14 : Int32))]) (rest := []) (lenOf pd0 rfl) rfl (by show 2 * 0 + _ ≤ _; exact Nat.le_of_eq rfl) (hb hby at_83) (fun _ _ => ⟨rfl, e7, (by decide : 0 + 0 ≤ _), (by decide : 0 + 0 ≤ _)⟩)
  dsimp only [Pt.U, Pt.locs, Pt.cells, Pt.slots] at X8 l8 y8 z8 st8 hQ8
  subst l8 y8 z8
  obtain ⟨rfl, N8q, e8⟩ := hQ8
  have N8 := Fr.app N7 N8q
  obtain ⟨_, _, ⟨T9, L9, k9, n9⟩, -, X9, ⟨Lc9, hQ9, l9, y9, z9⟩, st9⟩ := Jvm.LawKit.callS X8 hx (y := (⟨"com/example/libreadies/libreadies/SourceText", "isLineBreak", "(I)Z"⟩ : MethodName)) hown (mvT hZ (hw _ (List.mem_of_getElem? (i := 0) rfl))) (mvT hZ (hw _ (List.mem_of_getElem? (i := 1) rfl))) (mvT hZ (hw _ (List.mem_of_getElem? (i := 2) rfl))) (mvT hZ (hw _ (List.mem_of_getElem? (i := 3) rfl))) (by decide) (backOf (W := 0) (rm1 l Z a0 hw [] (133 : Int32) h0 n0 Z0) hZ (hw _ (List.mem_of_getElem? (i := 3) rfl)) (hw _ (List.mem_of_getElem? (i := 2) rfl)) (by decide) (by decide)) (g := (mkF m 92 #[.val (.int p0), .val (.int (F0s_0 p0)), .unset] [(.int (133 : Int32))])) rfl (by rw [hml]; rfl) (argsL := [(.int (133 : Int32))]) (rest := []) (lenOf pd0 rfl) rfl (by show 2 * 0 + _ ≤ _; exact Nat.le_of_eq rfl) (hb hby at_92) (fun _ _ => ⟨rfl, e8, (by decide : 0 + 0 ≤ _), (by decide : 0 + 0 ≤ _)⟩)
  dsimp only [Pt.U, Pt.locs, Pt.cells, Pt.slots] at X9 l9 y9 z9 st9 hQ9
  subst l9 y9 z9
  obtain ⟨rfl, N9q, e9⟩ := hQ9
  have N9 := Fr.app N8 N9q
  obtain ⟨_, _, ⟨T10, L10, k10, n10⟩, -, X10, ⟨Lc10, hQ10, l10, y10, z10⟩, st10⟩ := Jvm.LawKit.callS X9 hx (y := (⟨"com/example/libreadies/libreadies/SourceText", "isLineBreak", "(I)Z"⟩ : MethodName)) hown (mvT hZ (hw _ (List.mem_of_getElem? (i := 0) rfl))) (mvT hZ (hw _ (List.mem_of_getElem? (i := 1) rfl))) (mvT hZ (hw _ (List.mem_of_getElem? (i := 2) rfl))) (mvT hZ (hw _ (List.mem_of_getElem? (i := 3) rfl))) (by decide) (backOf (W := 0) (rm1 l Z a0 hw [] (8232 : Int32) h0 n0 Z0) hZ (hw _ (List.mem_of_getElem? (i := 3) rfl)) (hw _ (List.mem_of_getElem? (i := 2) rfl)) (by decide) (by decide)) (g := (mkF m 101 #[.val (.int p0), .val (.int (F0s_0 p0)), .unset] [(.int (8232 : Int32))])) rfl (by rw [hml]; rfl) (argsL := [(.int (8232 : Int32))]) (rest := []) (lenOf pd0 rfl) rfl (by show 2 * 0 + _ ≤ _; exact Nat.le_of_eq rfl) (hb hby at_101) (fun _ _ => ⟨rfl, e9, (by decide : 0 + 0 ≤ _), (by decide : 0 + 0 ≤ _)⟩)
  dsimp only [Pt.U, Pt.locs, Pt.cells, Pt.slots] at X10 l10 y10 z10 st10 hQ10
  subst l10 y10 z10
  obtain ⟨rfl, N10q, e10⟩ := hQ10
  have N10 := Fr.app N9 N10q
  obtain ⟨_, _, ⟨T11, L11, k11, n11⟩, -, X11, ⟨Lc11, hQ11, l11, y11, z11⟩, st11⟩ := Jvm.LawKit.callS X10 hx (y := (⟨"com/example/libreadies/libreadies/SourceText", "isLineBreak", "(I)Z"⟩ : MethodName)) hown (mvT hZ (hw _ (List.mem_of_getElem? (i := 0) rfl))) (mvT hZ (hw _ (List.mem_of_getElem? (i := 1) rfl))) (mvT hZ (hw _ (List.mem_of_getElem? (i := 2) rfl))) (mvT hZ (hw _ (List.mem_of_getElem? (i := 3) rfl))) (by decide) (backOf (W := 0) (rm1 l Z a0 hw [] (65546 : Int32) h0 n0 Z0) hZ (hw _ (List.mem_of_getElem? (i := 3) rfl)) (hw _ (List.mem_of_getElem? (i := 2) rfl)) (by decide) (by decide)) (g := (mkF m 109 #[.val (.int p0), .val (.int (F0s_0 p0)), .unset] [(.int (65546 : Int32))])) rfl (by rw [hml]; rfl) (argsL := [(.int (65546 : Int32))]) (rest := []) (lenOf pd0 rfl) rfl (by show 2 * 0 + _ ≤ _; exact Nat.le_of_eq rfl) (hb hby at_109) (fun _ _ => ⟨rfl, e10, (by decide : 0 + 0 ≤ _), (by decide : 0 + 0 ≤ _)⟩)
  dsimp only [Pt.U, Pt.locs, Pt.cells, Pt.slots] at X11 l11 y11 z11 st11 hQ11
  subst l11 y11 z11
  obtain ⟨rfl, N11q, e11⟩ := hQ11
  have N11 := Fr.app N10 N11q
  obtain ⟨_, _, ⟨T12, L12, k12, n12⟩, -, X12, ⟨Lc12, hQ12, l12, y12, z12⟩, st12⟩ := Jvm.LawKit.callS X11 hx (y := (⟨"com/example/libreadies/libreadies/SourceText", "isLineBreak", "(I)Z"⟩ : MethodName)) hown (mvT hZ (hw _ (List.mem_of_getElem? (i := 0) rfl))) (mvT hZ (hw _ (List.mem_of_getElem? (i := 1) rfl))) (mvT hZ (hw _ (List.mem_of_getElem? (i := 2) rfl))) (mvT hZ (hw _ (List.mem_of_getElem? (i := 3) rfl))) (by decide) (backOf (W := 0) (rm1 l Z a0 hw [] (-10 : Int32) h0 n0 Z0) hZ (hw _ (List.mem_of_getElem? (i := 3) rfl)) (hw _ (List.mem_of_getElem? (i := 2) rfl)) (by decide) (by decide)) (g := (mkF m 117 #[.val (.int p0), .val (.int (F0s_0 p0)), .unset] [(.int (-10 : Int32))])) rfl (by rw [hml]; rfl) (argsL := [(.int (-10 : Int32))]) (rest := []) (lenOf pd0 rfl) rfl (by show 2 * 0 + _ ≤ _; exact Nat.le_of_eq rfl) (hb hby at_117) (fun _ _ => ⟨rfl, e11, (by decide : 0 + 0 ≤ _), (by decide : 0 + 0 ≤ _)⟩)
  dsimp only [Pt.U, Pt.locs, Pt.cells, Pt.slots] at X12 l12 y12 z12 st12 hQ12
  subst l12 y12 z12
  obtain ⟨rfl, N12q, e12⟩ := hQ12
  have N12 := Fr.app N11 N12q
  obtain ⟨fs, hr, hrun, hended, hW, hsame⟩ := X12.leave (v := some (.int (1 : Int32))) (fun h => by rw [Bd.returns] at h; cases h)
  refine ⟨_, _, pre0 _ ?_, hrun, hended, _, _, rfl, ⟨rfl, N12⟩, ⟨_, rfl⟩, hW, hsame.mono (by decide) (by decide)⟩
  show Steps p.tables e below (s₁.setTop (mkF m 0 #[.val (.int p0), .unset, .unset] [])) _
  refine b0s_0 X0 hx hZ hw hby hown p0 _ ?_
  show Steps p.tables e below (s₁.setTop (mkF m 17 #[.val (.int p0), .unset, .unset] [(.int (F0s_0 p0))])) _
  refine XS.istoreN X0.here hx rfl (hb hby at_17) rfl (l' := #[.val (.int p0), .val (.int (F0s_0 p0)), .unset]) rfl ?_
  show Steps p.tables e below (s₁.setTop (mkF m 18 #[.val (.int p0), .val (.int (F0s_0 p0)), .unset] [])) _
  refine XS.iloadN X0.here hx rfl (hb hby at_18) rfl ?_
  show Steps p.tables e below (s₁.setTop (mkF m 19 #[.val (.int p0), .val (.int (F0s_0 p0)), .unset] [(.int p0)])) _
  refine st1 _ ?_
  show Steps p.tables e below (T1.setTop (mkF m 22 #[.val (.int p0), .val (.int (F0s_0 p0)), .unset] [(.int (F1_0 p0))])) _
  refine XS.iloadN X1.here hx rfl (hb hby at_22) rfl ?_
  show Steps p.tables e below (T1.setTop (mkF m 23 #[.val (.int p0), .val (.int (F0s_0 p0)), .unset] [(.int (F0s_0 p0)), (.int (F1_0 p0))])) _
  refine XS.icmpYes X1.here hx rfl (pc0 := 23) (pc' := 28) rfl (hb hby at_23) rfl (teq hc23).1 (by decide) (by decide) ?_
  show Steps p.tables e below (T1.setTop (mkF m 28 #[.val (.int p0), .val (.int (F0s_0 p0)), .unset] [])) _
  refine XS.iloadN X1.here hx rfl (hb hby at_28) rfl ?_
  show Steps p.tables e below (T1.setTop (mkF m 29 #[.val (.int p0), .val (.int (F0s_0 p0)), .unset] [(.int (F0s_0 p0))])) _
  refine XS.ifNo X1.here hx rfl (hb hby at_29) rfl ((if0 _ _).trans (feq hc29).1) ?_
  show Steps p.tables e below (T1.setTop (mkF m 32 #[.val (.int p0), .val (.int (F0s_0 p0)), .unset] [])) _
  refine XS.iloadN X1.here hx rfl (hb hby at_32) rfl ?_
  show Steps p.tables e below (T1.setTop (mkF m 33 #[.val (.int p0), .val (.int (F0s_0 p0)), .unset] [(.int p0)])) _
  refine st2 _ ?_
  show Steps p.tables e below (T2.setTop (mkF m 36 #[.val (.int p0), .val (.int (F0s_0 p0)), .unset] [(.int (F2_0 p0))])) _
  refine XS.ifYes X2.here hx rfl (pc0 := 36) (pc' := 41) rfl (hb hby at_36) rfl ((if0 _ _).trans (teq hc36).1) (by decide) (by decide) ?_
  show Steps p.tables e below (T2.setTop (mkF m 41 #[.val (.int p0), .val (.int (F0s_0 p0)), .unset] [])) _
  refine XS.bipush X2.here hx rfl (hb hby at_41) ?_
  show Steps p.tables e below (T2.setTop (mkF m 43 #[.val (.int p0), .val (.int (F0s_0 p0)), .unset] [(.int (10 : Int32))])) _
  refine st3 _ ?_
  show Steps p.tables e below (T3.setTop (mkF m 46 #[.val (.int p0), .val (.int (F0s_0 p0)), .unset] [(.int (F1_0 (10 : Int32)))])) _
  refine XS.ifNo X3.here hx rfl (hb hby at_46) rfl ((if0 _ _).trans (feq (by decide +kernel)).1) ?_
  show Steps p.tables e below (T3.setTop (mkF m 49 #[.val (.int p0), .val (.int (F0s_0 p0)), .unset] [])) _
  refine XS.bipush X3.here hx rfl (hb hby at_49) ?_
  show Steps p.tables e below (T3.setTop (mkF m 51 #[.val (.int p0), .val (.int (F0s_0 p0)), .unset] [(.int (13 : Int32))])) _
  refine st4 _ ?_
  show Steps p.tables e below (T4.setTop (mkF m 54 #[.val (.int p0), .val (.int (F0s_0 p0)), .unset] [(.int (F1_0 (13 : Int32)))])) _
  refine XS.ifNo X4.here hx rfl (hb hby at_54) rfl ((if0 _ _).trans (feq (by decide +kernel)).1) ?_
  show Steps p.tables e below (T4.setTop (mkF m 57 #[.val (.int p0), .val (.int (F0s_0 p0)), .unset] [])) _
  refine XS.bipush X4.here hx rfl (hb hby at_57) ?_
  show Steps p.tables e below (T4.setTop (mkF m 59 #[.val (.int p0), .val (.int (F0s_0 p0)), .unset] [(.int (9 : Int32))])) _
  refine st5 _ ?_
  show Steps p.tables e below (T5.setTop (mkF m 62 #[.val (.int p0), .val (.int (F0s_0 p0)), .unset] [(.int (F1_0 (9 : Int32)))])) _
  refine XS.ifNo X5.here hx rfl (hb hby at_62) rfl ((if0 _ _).trans (teq (by decide +kernel)).2) ?_
  show Steps p.tables e below (T5.setTop (mkF m 65 #[.val (.int p0), .val (.int (F0s_0 p0)), .unset] [])) _
  refine XS.bipush X5.here hx rfl (hb hby at_65) ?_
  show Steps p.tables e below (T5.setTop (mkF m 67 #[.val (.int p0), .val (.int (F0s_0 p0)), .unset] [(.int (11 : Int32))])) _
  refine st6 _ ?_
  show Steps p.tables e below (T6.setTop (mkF m 70 #[.val (.int p0), .val (.int (F0s_0 p0)), .unset] [(.int (F1_0 (11 : Int32)))])) _
  refine XS.ifNo X6.here hx rfl (hb hby at_70) rfl ((if0 _ _).trans (teq (by decide +kernel)).2) ?_
  show Steps p.tables e below (T6.setTop (mkF m 73 #[.val (.int p0), .val (.int (F0s_0 p0)), .unset] [])) _
  refine XS.bipush X6.here hx rfl (hb hby at_73) ?_
  show Steps p.tables e below (T6.setTop (mkF m 75 #[.val (.int p0), .val (.int (F0s_0 p0)), .unset] [(.int (12 : Int32))])) _
  refine st7 _ ?_
  show Steps p.tables e below (T7.setTop (mkF m 78 #[.val (.int p0), .val (.int (F0s_0 p0)), .unset] [(.int (F1_0 (12 : Int32)))])) _
  refine XS.ifNo X7.here hx rfl (hb hby at_78) rfl ((if0 _ _).trans (teq (by decide +kernel)).2) ?_
  show Steps p.tables e below (T7.setTop (mkF m 81 #[.val (.int p0), .val (.int (F0s_0 p0)), .unset] [])) _
  refine XS.bipush X7.here hx rfl (hb hby at_81) ?_
  show Steps p.tables e below (T7.setTop (mkF m 83 #[.val (.int p0), .val (.int (F0s_0 p0)), .unset] [(.int (14 : Int32))])) _
  refine st8 _ ?_
  show Steps p.tables e below (T8.setTop (mkF m 86 #[.val (.int p0), .val (.int (F0s_0 p0)), .unset] [(.int (F1_0 (14 : Int32)))])) _
  refine XS.ifNo X8.here hx rfl (hb hby at_86) rfl ((if0 _ _).trans (teq (by decide +kernel)).2) ?_
  show Steps p.tables e below (T8.setTop (mkF m 89 #[.val (.int p0), .val (.int (F0s_0 p0)), .unset] [])) _
  refine XS.sipush X8.here hx rfl (hb hby at_89) ?_
  show Steps p.tables e below (T8.setTop (mkF m 92 #[.val (.int p0), .val (.int (F0s_0 p0)), .unset] [(.int (133 : Int32))])) _
  refine st9 _ ?_
  show Steps p.tables e below (T9.setTop (mkF m 95 #[.val (.int p0), .val (.int (F0s_0 p0)), .unset] [(.int (F1_0 (133 : Int32)))])) _
  refine XS.ifNo X9.here hx rfl (hb hby at_95) rfl ((if0 _ _).trans (teq (by decide +kernel)).2) ?_
  show Steps p.tables e below (T9.setTop (mkF m 98 #[.val (.int p0), .val (.int (F0s_0 p0)), .unset] [])) _
  refine XS.sipush X9.here hx rfl (hb hby at_98) ?_
  show Steps p.tables e below (T9.setTop (mkF m 101 #[.val (.int p0), .val (.int (F0s_0 p0)), .unset] [(.int (8232 : Int32))])) _
  refine st10 _ ?_
  show Steps p.tables e below (T10.setTop (mkF m 104 #[.val (.int p0), .val (.int (F0s_0 p0)), .unset] [(.int (F1_0 (8232 : Int32)))])) _
  refine XS.ifNo X10.here hx rfl (hb hby at_104) rfl ((if0 _ _).trans (teq (by decide +kernel)).2) ?_
  show Steps p.tables e below (T10.setTop (mkF m 107 #[.val (.int p0), .val (.int (F0s_0 p0)), .unset] [])) _
  refine X10.ldcInt hx hown (mvT hZ (hw _ (List.mem_of_getElem? (i := 4) rfl))) (g := (mkF m 107 #[.val (.int p0), .val (.int (F0s_0 p0)), .unset] [])) rfl (hb hby at_107) _ ?_
  show Steps p.tables e below (T10.setTop (mkF m 109 #[.val (.int p0), .val (.int (F0s_0 p0)), .unset] [(.int (65546 : Int32))])) _
  refine st11 _ ?_
  show Steps p.tables e below (T11.setTop (mkF m 112 #[.val (.int p0), .val (.int (F0s_0 p0)), .unset] [(.int (F1_0 (65546 : Int32)))])) _
  refine XS.ifNo X11.here hx rfl (hb hby at_112) rfl ((if0 _ _).trans (teq (by decide +kernel)).2) ?_
  show Steps p.tables e below (T11.setTop (mkF m 115 #[.val (.int p0), .val (.int (F0s_0 p0)), .unset] [])) _
  refine XS.bipush X11.here hx rfl (hb hby at_115) ?_
  show Steps p.tables e below (T11.setTop (mkF m 117 #[.val (.int p0), .val (.int (F0s_0 p0)), .unset] [(.int (-10 : Int32))])) _
  refine st12 _ ?_
  show Steps p.tables e below (T12.setTop (mkF m 120 #[.val (.int p0), .val (.int (F0s_0 p0)), .unset] [(.int (F1_0 (-10 : Int32)))])) _
  refine XS.ifNo X12.here hx rfl (hb hby at_120) rfl ((if0 _ _).trans (teq (by decide +kernel)).2) ?_
  show Steps p.tables e below (T12.setTop (mkF m 123 #[.val (.int p0), .val (.int (F0s_0 p0)), .unset] [])) _
  refine XS.iconst X12.here hx rfl (hb hby at_123) ?_
  show Steps p.tables e below (T12.setTop (mkF m 124 #[.val (.int p0), .val (.int (F0s_0 p0)), .unset] [(.int (1 : Int32))])) _
  refine XS.goto X12.here hx rfl (pc0 := 124) (pc' := 128) rfl (hb hby at_124) (by decide) (by decide) ?_
  show Steps p.tables e below (T12.setTop (mkF m 128 #[.val (.int p0), .val (.int (F0s_0 p0)), .unset] [(.int (1 : Int32))])) _
  refine XS.istoreN X12.here hx rfl (hb hby at_128) rfl (l' := #[.val (.int p0), .val (.int (F0s_0 p0)), .val (.int (1 : Int32))]) rfl ?_
  show Steps p.tables e below (T12.setTop (mkF m 129 #[.val (.int p0), .val (.int (F0s_0 p0)), .val (.int (1 : Int32))] [])) _
  refine XS.iloadN X12.here hx rfl (hb hby at_129) rfl ?_
  show Steps p.tables e below (T12.setTop (mkF m 130 #[.val (.int p0), .val (.int (F0s_0 p0)), .val (.int (1 : Int32))] [(.int (1 : Int32))])) _
  exact retN X12 hx (t := .boolean) Bd.returns (by simp) (hb hby at_130) hr
theorem own_same (v : Int32) : F1_0 v = F0s_0 v := by
  by_cases h : v = (10 : Int32)
  · rw [show F1_0 v = F1_12 from if_pos h, show F0s_0 v = F0s_12 from if_pos h]; rfl
  · rw [show F1_0 v = F1_6 v from if_neg h, show F0s_0 v = F0s_6 v from if_neg h]
    by_cases h2 : v = (13 : Int32)
    · rw [show F1_6 v = F1_12 from if_pos h2, show F0s_6 v = F0s_12 from if_pos h2]; rfl
    · rw [show F1_6 v = F1_16 from if_neg h2, show F0s_6 v = F0s_16 from if_neg h2]; rfl
theorem own_part (v : Int32) (h : ¬ F0s_0 v = (0 : Int32)) : F2_0 v = (0 : Int32) := by
  by_cases h1 : v = (10 : Int32)
  · subst h1; decide +kernel
  · by_cases h2 : v = (13 : Int32)
    · subst h2; decide +kernel
    · exact absurd (show F0s_0 v = 0 from (if_neg h1).trans (if_neg h2)) h

def Q_rm0 (Z : State) (p0 : Int32) (h0 : Heap) (n0 : Nat) (v : Option Value) (h : Heap) (L : List Loc) : Prop := (v = some (.int (1 : Int32)) ∧ Fr n0 L)
set_option maxRecDepth 65536 in
set_option maxHeartbeats 40000000 in
theorem rm0 (l : Launch) (Z : State) (a0 : Array Value) (hw : ∀ d ∈ tables_1, d.before a0 Z = true) (ws : List Jvm.Cond) (p0 : Int32) (h0 : Heap) (n0 : Nat) (Z0 : n0 ≤ h0.size) :
    MetFree l x (head1 (Jvm.Cond.code x code maxLocals ret :: ws) room_1) (fun a U => a = #[(.int p0)] ∧ Z.Warmed39 U.vm ∧ U.heap = h0) (fun _ _ _ _ _ => True) (fun _ U o U' => ∃ v L, o = .returned v ∧ Q_rm0 Z p0 h0 n0 v U'.heap L ∧ FrameEnd U o U' L room_1.cells room_1.slots) := by
  by_cases hc : F0s_0 p0 = (0 : Int32)
  · exact rm0a l Z a0 hw ws p0 h0 n0 Z0 (own_same p0) hc
  · exact rm0b l Z a0 hw ws p0 h0 n0 Z0 (own_same p0) hc (own_part p0 hc)
set_option maxRecDepth 65536 in
set_option maxHeartbeats 40000000 in
theorem comes_1 {Post : Tables → Env → Array Value → State → Outcome → State → Prop} (hpost : ∀ tb e args s v u, (limb_1_1.after args s (.returned v) u = true ∧ limb_1_2.after args s (.returned v) u = true ∧ True) → FrameEnd s (.returned v) u (Jvm.fieldLocs frame_1_writes args s ++ Jvm.arrayLocs frame_1_arrays args s ++ Jvm.staticLocs frame_1_statics s) 0 0 → Post tb e args s (.returned v) u) :
    ArmFor flags0 classFile x code maxLocals ret World_1 tables_1 room_1 Calls_1 rest_1 Pre_1 Post := by
  intro l hfl _ _ p e ha hc hk s m args below hf hA hF happ hP
  obtain ⟨hcalls, hrest, hpre⟩ := hP
  obtain ⟨-, -, -, hnamed, -, -, -, hat⟩ := (Spec.applies_iff hf).mp happ
  obtain ⟨hg, hn⟩ := and_e (Cond.before_iff.mp (show (Jvm.Cond.and given_1 narrow_1).before args s = true from hpre))
  obtain ⟨gc, g0⟩ := and_e hg
  have k0 := g0
  obtain ⟨w0, rfl⟩ : ∃ w0 : Value, args = #[w0] := by
    have hs : args.size = 1 := by simpa [Cond.value, given_1] using gc
    obtain ⟨L⟩ := args
    match L, hs with
    | [w0], _ => exact ⟨w0, rfl⟩
  have hw := fun d (hd : d ∈ tables_1) => atoms_spec (ws := Jvm.Cond.code x code maxLocals ret :: tables_1) hat d (List.mem_cons_of_mem _ hd)
  obtain ⟨i0, ei0⟩ := is_v k0
  obtain rfl : w0 = (.int i0) := Option.some.inj ei0
  obtain ⟨n, o, h1, h2, h3, _, L, rfl, ⟨rfl, N⟩, hq⟩ := rm0 l s _ hw tables_1 i0 s.heap s.heap.size (Nat.le_refl _) p e ha hc hk s m _ below hf ((Spec.applies_iff_loose hf).mp happ).1 ⟨rfl, State.Warmed39.refl s, rfl⟩ trivial
  refine ⟨n, _, h1, h2, h3, hpost _ _ _ _ _ _ ⟨Cond.after_iff.mpr rfl, Cond.after_iff.mpr (eq_i res_at (Term.int_eval (1)) rfl), trivial⟩ ⟨hq.1, hq.2.1, (hq.2.2.sift fun y hy => Or.inr (N y hy)).mono (by decide) (by decide)⟩⟩
theorem main_1_1 : Claimed_1_1 := comes_1 fun _ _ _ _ _ _ h hF => ⟨h.1, hF⟩
theorem main_1_2 : Claimed_1_2 := comes_1 fun _ _ _ _ _ _ h hF => ⟨h.2.1, hF⟩
end Jvm.Pilot.@@N@@
namespace Jvm.Pilot.@@N@@
open Jvm Jvm.ClassFile Sem Op Lib Jvm.Free Jvm.Stand Jvm.Pilot.@@N@@.Jvm.D
/-! MADE BY PROGRAM (witnessworld.py) out of the Statement's table words and the real class files: 9 classes; the members and pool entries that the words name. The judged class is class 1, her method 1. -/
namespace start1
open Jvm.ClassFile
def u (s : String) : CpInfo := .utf8 (stringToUtf16 s)
/-- a pool by its gaps: so many unusable entries, then the entry; so many at the end -/
def gap : Nat → List CpInfo → List CpInfo
  | 0, r => r
  | n + 1, r => .unusable :: gap n r
def poolList (es : List (Nat × CpInfo)) (last : Nat) : List CpInfo := es.foldr (fun e r => gap e.1 (e.2 :: r)) (gap last [])
def pool (es : List (Nat × CpInfo)) (last : Nat) : Array CpInfo := ⟨poolList es last⟩
def fileOf (pool : Array CpInfo) (this : Nat) (attrs : Array Attribute := #[]) (ms : Array MethodInfo := #[]) (fl : Nat := 33) (sup : Nat := 0) (ifs : Array Nat := #[]) (fds : Array FieldInfo := #[]) : ClassFile where
  minorVersion := 0
  majorVersion := 65
  constantPool := pool
  accessFlags := fl
  thisClass := this
  superClass := sup
  interfaces := ifs
  fields := fds
  methods := ms
  attributes := attrs
def plain (name : String) (sup : Option ClassId) : Class where
  name := name
  kind := .ordinary
  loader := none
  accessFlags := 33
  super := sup
  interfaces := #[]
  cf := none
  fields := #[]
  methods := #[]
  instanceTypes := #[]
  staticTypes := #[]
  resolved := #[]
  callSites := []
  init := .initialized
  statics := none
  mirror := none

def pool0 : Array CpInfo := pool [(5, u "<init>"), (0, u "()V"), (1, .class_ 10), (1, u "java/lang/Object")] 113

def k0m0 : Method := { name := "<init>", desc := "()V", sig := { parameters := [], returnType := none }, accessFlags := 1, code := none }
/-- java/lang/Object -/
def k0 : Class := { plain "java/lang/Object" none with
  accessFlags := 33
  interfaces := #[]
  cf := some (fileOf pool0 8 #[] #[{ accessFlags := 1, nameIndex := 5, descriptorIndex := 6, attributes := #[] }] 33 0 #[] #[])
  fields := #[]
  methods := #[k0m0]
  instanceTypes := #[]
  staticTypes := #[]
  resolved := Array.replicate 124 none
  statics := none }

def pool1 : Array CpInfo := pool [(2, .class_ 4), (1, u "java/lang/Object"), (0, u "<init>"), (0, u "()V"), (0, .methodref 8 9), (0, .class_ 10), (0, .nameAndType 11 12), (0, u "com/example/libreadies/libreadies/SourceText"), (0, u "isLineBreak"), (0, u "(I)Z"), (0, .methodref 8 14), (0, .nameAndType 15 12), (0, u "isLabelPart"), (0, .integer 65546), (0, .class_ 18), (0, u "com/example/libreadies/libreadies/SourceTextIsLineBreakPinLaw"), (2, u "law")] 3

def k1m0 : Method := { name := "<init>", desc := "()V", sig := { parameters := [], returnType := none }, accessFlags := 2, code := none }
def k1c1 : Code := { maxStack := 2, maxLocals := 3, code := code, exceptionTable := #[], attributes := #[] }
def k1m1 : Method := { name := "law", desc := "(I)Z", sig := { parameters := [.int], returnType := some .boolean }, accessFlags := 9, code := some k1c1 }
/-- com/example/libreadies/libreadies/SourceTextIsLineBreakPinLaw -/
def k1 : Class := { plain "com/example/libreadies/libreadies/SourceTextIsLineBreakPinLaw" (some 0) with
  accessFlags := 49
  interfaces := #[]
  cf := some (fileOf pool1 17 #[] #[{ accessFlags := 2, nameIndex := 5, descriptorIndex := 6, attributes := #[] }, { accessFlags := 9, nameIndex := 21, descriptorIndex := 12, attributes := #[] }] 49 2 #[] #[])
  fields := #[]
  methods := #[k1m0, k1m1]
  instanceTypes := #[]
  staticTypes := #[]
  resolved := Array.replicate 25 none
  statics := none }

def pool2 : Array CpInfo := pool [(2, .class_ 4), (1, u "java/lang/Object"), (0, u "<init>"), (0, u "()V"), (0, .methodref 8 9), (0, .class_ 10), (0, .nameAndType 11 12), (0, u "com/example/libreadies/libreadies/SourceText"), (0, u "isLabelStart"), (0, u "(I)Z"), (20, u "isLabelPart"), (32, .class_ 67), (0, u "com/example/libreadies/libreadies/SourceText$Lines"), (29, u "LINE_BREAK_IN_LABEL"), (0, u "Ljava/lang/String;"), (3, u "EMPTY_LABEL"), (2, u "QUOTE_HINT"), (2, u "NOT_UTF_8"), (2, u "BYTE_ORDER_MARK"), (5, u "isLineBreak"), (16, .class_ 135), (0, u "com/example/libreadies/libreadies/SourceText$Cursor")] 17

def k2m0 : Method := { name := "<init>", desc := "()V", sig := { parameters := [], returnType := none }, accessFlags := 2, code := none }
def k2c1 : Code := { maxStack := 2, maxLocals := 1, code := prog_55_method_2_code, exceptionTable := #[], attributes := #[] }
def k2m1 : Method := { name := "isLabelStart", desc := "(I)Z", sig := { parameters := [.int], returnType := some .boolean }, accessFlags := 8, code := some k2c1 }
def k2c2 : Code := { maxStack := 2, maxLocals := 1, code := prog_55_method_3_code, exceptionTable := #[], attributes := #[] }
def k2m2 : Method := { name := "isLabelPart", desc := "(I)Z", sig := { parameters := [.int], returnType := some .boolean }, accessFlags := 8, code := some k2c2 }
def k2c3 : Code := { maxStack := 2, maxLocals := 1, code := prog_55_method_4_code, exceptionTable := #[], attributes := #[] }
def k2m3 : Method := { name := "isLineBreak", desc := "(I)Z", sig := { parameters := [.int], returnType := some .boolean }, accessFlags := 8, code := some k2c3 }
/-- com/example/libreadies/libreadies/SourceText -/
def k2 : Class := { plain "com/example/libreadies/libreadies/SourceText" (some 0) with
  accessFlags := 48
  interfaces := #[]
  cf := some (fileOf pool2 8 #[.nestMembers #[134, 66]] #[{ accessFlags := 2, nameIndex := 5, descriptorIndex := 6, attributes := #[] }, { accessFlags := 8, nameIndex := 11, descriptorIndex := 12, attributes := #[] }, { accessFlags := 8, nameIndex := 33, descriptorIndex := 12, attributes := #[] }, { accessFlags := 8, nameIndex := 117, descriptorIndex := 12, attributes := #[] }] 48 2 #[] #[{ accessFlags := 24, nameIndex := 97, descriptorIndex := 98, attributes := #[] }, { accessFlags := 24, nameIndex := 102, descriptorIndex := 98, attributes := #[] }, { accessFlags := 24, nameIndex := 105, descriptorIndex := 98, attributes := #[] }, { accessFlags := 26, nameIndex := 108, descriptorIndex := 98, attributes := #[] }, { accessFlags := 26, nameIndex := 111, descriptorIndex := 98, attributes := #[] }])
  fields := #[{ name := "LINE_BREAK_IN_LABEL", type := (.object "java/lang/String"), accessFlags := 24, slot := 0, constantValue := 0 }, { name := "EMPTY_LABEL", type := (.object "java/lang/String"), accessFlags := 24, slot := 1, constantValue := 0 }, { name := "QUOTE_HINT", type := (.object "java/lang/String"), accessFlags := 24, slot := 2, constantValue := 0 }, { name := "NOT_UTF_8", type := (.object "java/lang/String"), accessFlags := 26, slot := 3, constantValue := 0 }, { name := "BYTE_ORDER_MARK", type := (.object "java/lang/String"), accessFlags := 26, slot := 4, constantValue := 0 }]
  methods := #[k2m0, k2m1, k2m2, k2m3]
  instanceTypes := #[]
  staticTypes := #[(.object "java/lang/String"), (.object "java/lang/String"), (.object "java/lang/String"), (.object "java/lang/String"), (.object "java/lang/String")]
  resolved := Array.replicate 153 none
  statics := none }

def pool3 : Array CpInfo := pool [(1, u "java/lang/Cloneable"), (0, .class_ 1), (0, u "java/lang/Object"), (0, .class_ 3)] 3

/-- java/lang/Cloneable -/
def k3 : Class := { plain "java/lang/Cloneable" (some 0) with
  accessFlags := 1537
  interfaces := #[]
  cf := some (fileOf pool3 2 #[] #[] 1537 4 #[] #[])
  fields := #[]
  methods := #[]
  instanceTypes := #[]
  staticTypes := #[]
  resolved := Array.replicate 8 none
  statics := none }

def pool4 : Array CpInfo := pool [(1, u "java/io/Serializable"), (0, .class_ 1), (0, u "java/lang/Object"), (0, .class_ 3)] 3

/-- java/io/Serializable -/
def k4 : Class := { plain "java/io/Serializable" (some 0) with
  accessFlags := 1537
  interfaces := #[]
  cf := some (fileOf pool4 2 #[] #[] 1537 4 #[] #[])
  fields := #[]
  methods := #[]
  instanceTypes := #[]
  staticTypes := #[]
  resolved := Array.replicate 8 none
  statics := none }

/-- the primitive byte -/
def k5 : Class := { plain "byte" none with kind := .primitive 'B', accessFlags := 0x411 }
/-- [B -/
def k6 : Class := { plain "[B" (some 0) with kind := .array 5 .byte, interfaces := #[3, 4], accessFlags := 1041 }

/-- the primitive int -/
def k7 : Class := { plain "int" none with kind := .primitive 'I', accessFlags := 0x411 }
/-- [I -/
def k8 : Class := { plain "[I" (some 0) with kind := .array 7 .int, interfaces := #[3, 4], accessFlags := 1041 }

def heap : Heap := #[]
def classes : Array Class := #[k0, k1, k2, k3, k4, k5, k6, k7, k8]
def interned : List (Array UInt16 × Addr) := []
def slotsUsed : Nat := 0
def theMethod : MethodId := ⟨1, 1⟩
def args0 : Array Value := #[.int 5]
def aboutOver (below : List Frame) : State where
  vm := { classes := classes, interned := interned.toArray }
  heap := heap
  slotsUsed := slotsUsed
  threads := #[{ frames := .invoking theMethod args0 :: below }]
def below0 : List Frame := [.native { method := ⟨0, 0⟩, args := #[] }]
def about1 : State := aboutOver below0
def p0 : Program := .bare "" "" ""
def e0 : Env := launch0.env 0 0 0
theorem w_frames : about1.frames = Frame.invoking theMethod args0 :: below0 := rfl
set_option maxRecDepth 65536 in
theorem w_args : argsFit about1.vm theMethod args0 = true := by decide +kernel
set_option maxRecDepth 65536 in
theorem w_heap : heapFits about1 = true := by decide +kernel
set_option maxRecDepth 65536 in
theorem w_runnable : about1.curStatus? = some .runnable := by decide +kernel
set_option maxRecDepth 65536 in
theorem w_alone : about1.alone = true := by decide +kernel
set_option maxRecDepth 65536 in
theorem w_named : about1.methodNamed? x = some theMethod := by decide +kernel
set_option maxRecDepth 65536 in
theorem w_hears : about1.hears theMethod below0 = true := by decide +kernel
set_option maxRecDepth 65536 in
theorem w_ripe : about1.ripe theMethod args0 below0 = true := by decide +kernel
theorem w_running : about1.status = .running := rfl
set_option maxRecDepth 65536 in
theorem w_room : about1.hasRoom e0.platform room_1 = true :=
  launch0.hasRoom_least _ room_1 (by decide +kernel) (by decide +kernel) (by decide +kernel) (by decide +kernel) (by decide +kernel) (by decide +kernel)
theorem allAtoms_all (ts : List Jvm.Cond) (a : Array Jvm.Value) (st : Jvm.State) : (allAtoms ts).before a st = ts.all (fun c => c.before a st) := by
  induction ts with
  | nil => rfl
  | cons c t ih =>
    show (Jvm.Cond.and c (allAtoms t)).before a st = _
    rw [Jvm.Cond.before_and, ih, List.all_cons]
def words1 : List Jvm.Cond := Jvm.Cond.code x code maxLocals ret :: tables_1
/-- a 'code' word, met by the world's own term for the bytes: nothing is compared byte by byte -/
theorem code_word {y : MethodName} {bytes : ByteArray} {mx : Nat} {rt : Option FieldType} {a : Array Value} {s : State} {m : MethodId} {meth : Method} {c : Code} (h1 : s.methodNamed? y = some m) (h2 : s.vm.method? m = some meth) (h3 : meth.code = some c) (h4 : c.code = bytes)
    (h5 : (c.maxLocals == mx && c.exceptionTable.isEmpty && decide (c.maxStack ≤ mostOperands) && decide (meth.sig.returnType = rt) && !meth.locks && decide (parseMethodDescriptor y.desc = some meth.sig)) = true) : (Jvm.Cond.code y bytes mx rt).before a s = true := by
  simp only [Bool.and_eq_true, beq_iff_eq, Bool.not_eq_true', decide_eq_true_eq] at h5
  obtain ⟨⟨⟨⟨⟨g1, g2⟩, g3⟩, g4⟩, g5⟩, g6⟩ := h5
  simp [Cond.before, Cond.holds, Cond.value, h1, h2, h3, h4, g1, g2, g3, g4, g5, g6]
def isCode : Jvm.Cond → Bool
  | .code _ _ _ _ => true
  | _ => false
theorem all_split {L : List Jvm.Cond} {P : Jvm.Cond → Bool} (h1 : L.all (fun c => isCode c || P c) = true) (h2 : ∀ c ∈ L.filter isCode, P c = true) : L.all P = true := by
  refine List.all_eq_true.mpr fun c hc => ?_
  have h := List.all_eq_true.mp h1 c hc
  rcases Bool.eq_false_or_eq_true (isCode c) with hi | hi
  · exact h2 c (List.mem_filter.mpr ⟨hc, hi⟩)
  · simpa [hi] using h
set_option maxRecDepth 65536 in
theorem w_c0 : (Jvm.Cond.code x code maxLocals ret).before args0 about1 = true := code_word (m := ⟨1, 1⟩) (meth := k1m1) (c := k1c1) (by decide +kernel) rfl rfl rfl (by decide +kernel)
set_option maxRecDepth 65536 in
theorem w_c1 : (Jvm.Cond.code ({ cls := "com/example/libreadies/libreadies/SourceText", name := "isLineBreak", desc := "(I)Z" } : Jvm.MethodName) prog_55_method_4_code (1 : Nat) (Option.some Jvm.ClassFile.FieldType.boolean)).before args0 about1 = true := code_word (m := ⟨2, 3⟩) (meth := k2m3) (c := k2c3) (by decide +kernel) rfl rfl rfl (by decide +kernel)
set_option maxRecDepth 65536 in
theorem w_c2 : (Jvm.Cond.code ({ cls := "com/example/libreadies/libreadies/SourceText", name := "isLabelPart", desc := "(I)Z" } : Jvm.MethodName) prog_55_method_3_code (1 : Nat) (Option.some Jvm.ClassFile.FieldType.boolean)).before args0 about1 = true := code_word (m := ⟨2, 2⟩) (meth := k2m2) (c := k2c2) (by decide +kernel) rfl rfl rfl (by decide +kernel)
set_option maxRecDepth 65536 in
theorem w_c3 : (Jvm.Cond.code ({ cls := "com/example/libreadies/libreadies/SourceText", name := "isLabelStart", desc := "(I)Z" } : Jvm.MethodName) prog_55_method_2_code (1 : Nat) (Option.some Jvm.ClassFile.FieldType.boolean)).before args0 about1 = true := code_word (m := ⟨2, 1⟩) (meth := k2m1) (c := k2c1) (by decide +kernel) rfl rfl rfl (by decide +kernel)
def codes1 : List Jvm.Cond := [Jvm.Cond.code x code maxLocals ret, Jvm.Cond.code ({ cls := "com/example/libreadies/libreadies/SourceText", name := "isLineBreak", desc := "(I)Z" } : Jvm.MethodName) prog_55_method_4_code (1 : Nat) (Option.some Jvm.ClassFile.FieldType.boolean), Jvm.Cond.code ({ cls := "com/example/libreadies/libreadies/SourceText", name := "isLabelPart", desc := "(I)Z" } : Jvm.MethodName) prog_55_method_3_code (1 : Nat) (Option.some Jvm.ClassFile.FieldType.boolean), Jvm.Cond.code ({ cls := "com/example/libreadies/libreadies/SourceText", name := "isLabelStart", desc := "(I)Z" } : Jvm.MethodName) prog_55_method_2_code (1 : Nat) (Option.some Jvm.ClassFile.FieldType.boolean)]
set_option maxRecDepth 65536 in
theorem codes_eq : words1.filter isCode = codes1 := rfl
theorem w_codes : ∀ c ∈ words1.filter isCode, c.before args0 about1 = true := by
  rw [codes_eq]
  intro c hc
  simp only [codes1, List.mem_cons, List.not_mem_nil, or_false] at hc
  rcases hc with rfl | rfl | rfl | rfl
  · exact w_c0
  · exact w_c1
  · exact w_c2
  · exact w_c3
set_option maxRecDepth 65536 in
theorem w_t1 : words1.all (fun c => isCode c || c.before args0 about1) = true := by decide +kernel
theorem w_tables : (allAtoms (Jvm.Cond.code x code maxLocals ret :: tables_1)).before args0 about1 = true := by
  rw [allAtoms_all]
  show words1.all (fun c => c.before args0 about1) = true
  refine all_split ?_ w_codes
  rw [w_t1]
set_option maxRecDepth 65536 in
theorem w_case : (Jvm.Cond.and given_1 narrow_1).before args0 about1 = true := by decide +kernel
theorem w_applies : (headSpec (Jvm.Cond.code x code maxLocals ret :: tables_1) room_1).applies x e0.platform about1 = true :=
  (Spec.applies_iff w_frames).mpr ⟨w_running, w_runnable, w_alone, w_named, w_hears, w_ripe, w_room, w_tables⟩
theorem atStart : AtStart classFile x code maxLocals ret World_1 tables_1 room_1 Calls_1 rest_1 Pre_1 launch0 p0 e0 about1 theMethod args0 below0 :=
  ⟨lists_1, trivial, launch0.admits_env _ _ _, launch0.least_env, fairChoices_fair.cas, fairChoices_fair.clock, w_frames, w_args, w_heap, w_applies, trivial, trivial, w_case⟩
end start1
theorem witness_1 : WitnessClaimed_1 := ⟨start1.p0, start1.e0, start1.about1, start1.theMethod, start1.args0, start1.below0, start1.atStart⟩
end Jvm.Pilot.@@N@@
