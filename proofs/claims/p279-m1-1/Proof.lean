import JvmDerived
import JvmDerived.Pilot.@@N@@Statement
import JvmDerived.Pilot.@@N@@Code
set_option linter.unusedVariables false
set_option linter.unusedSimpArgs false
namespace Jvm.RoadKit
open Sem ClassFile Op Lib Jvm.Stand Jvm.Free Jvm.LawKit
section New
variable {p : Program} {l : Launch} {e : Env} {R : Room} {s : State} {m : MethodId} {args : Array Value} {below : List Frame} {meth : Method} {c : Code} {T : State} {locs : List Loc} {cells slots : Nat}
theorem retI (X : Stand p l e R s m args below meth c T locs cells slots) (hx : p.tables.exec = Jvm.exec) {pc : Nat} {Ls : Array Slot} {z : Int32} {rest : List Value} (hret : meth.sig.returnType = some .int) (hd : decode c.code pc = .ok (.ireturn, 1)) {fs : List Frame}
    (hl : ∀ (f : JFrame) (acts : List Action), f.method = m → f.locked = none → f.entered = [] → (doReturn e (T.setTop f) acts (some (.int z))).1 = T.setFrames fs) : Steps p.tables e below (T.setTop (mkF m pc Ls (.int z :: rest))) (T.setFrames fs) := by
  have hm' : T.vm.method? m = some meth := X.method'
  have hn : narrow .int (.int z) = .int z := rfl
  show Steps p.tables e below (T.setTop { method := m, pc := pc, locals := Ls, stack := _ :: rest, locked := none }) _
  jvm_step X.here [X.here.top, hx, hd, hm', hret, hn]
  first | (intro acts; rw [hl _ acts rfl rfl rfl]) | rw [hl _ _ rfl rfl rfl]
  exact Steps.refl _
end New
end Jvm.RoadKit
namespace Jvm.Pilot.@@N@@
open Jvm Jvm.ClassFile Sem Op Lib Jvm.Free Jvm.Stand Jvm.LawKit Jvm.RoadKit Bundle Jvm.Pilot.@@N@@.Jvm.D
theorem pd0 : parseMethodDescriptor "(I)Z" = some ⟨[.int], some .boolean⟩ := by decide +kernel
theorem d1_0 : decode prog_55_method_2_code 0 = .ok (.iload_n 0, 1) := by decide +kernel
theorem d1_1 : decode prog_55_method_2_code 1 = .ok (.bipush 97, 2) := by decide +kernel
theorem d1_3 : decode prog_55_method_2_code 3 = .ok (.if_icmp .lt 9, 3) := by decide +kernel
theorem d1_6 : decode prog_55_method_2_code 6 = .ok (.iload_n 0, 1) := by decide +kernel
theorem d1_7 : decode prog_55_method_2_code 7 = .ok (.bipush 122, 2) := by decide +kernel
theorem d1_9 : decode prog_55_method_2_code 9 = .ok (.if_icmp .le 21, 3) := by decide +kernel
theorem d1_12 : decode prog_55_method_2_code 12 = .ok (.iload_n 0, 1) := by decide +kernel
theorem d1_13 : decode prog_55_method_2_code 13 = .ok (.bipush 65, 2) := by decide +kernel
theorem d1_15 : decode prog_55_method_2_code 15 = .ok (.if_icmp .lt 9, 3) := by decide +kernel
theorem d1_18 : decode prog_55_method_2_code 18 = .ok (.iload_n 0, 1) := by decide +kernel
theorem d1_19 : decode prog_55_method_2_code 19 = .ok (.bipush 90, 2) := by decide +kernel
theorem d1_21 : decode prog_55_method_2_code 21 = .ok (.if_icmp .le 9, 3) := by decide +kernel
theorem d1_24 : decode prog_55_method_2_code 24 = .ok (.iload_n 0, 1) := by decide +kernel
theorem d1_25 : decode prog_55_method_2_code 25 = .ok (.bipush 95, 2) := by decide +kernel
theorem d1_27 : decode prog_55_method_2_code 27 = .ok (.if_icmp .ne 7, 3) := by decide +kernel
theorem d1_30 : decode prog_55_method_2_code 30 = .ok (.iconst 1, 1) := by decide +kernel
theorem d1_31 : decode prog_55_method_2_code 31 = .ok (.goto 4, 3) := by decide +kernel
theorem d1_34 : decode prog_55_method_2_code 34 = .ok (.iconst 0, 1) := by decide +kernel
theorem d1_35 : decode prog_55_method_2_code 35 = .ok (.ireturn, 1) := by decide +kernel
def F1_34 : Int32 := (0 : Int32)
theorem b1_34 {p : Program} {l : Launch} {e : Env} {R : Room} {s : State} {m : MethodId} {args : Array Value} {below : List Frame} {meth : Method} {c : Code} {T : State} {locs : List Loc} {cells slots : Nat} {Z : State} {a0 : Array Value} (X : Stand p l e R s m args below meth c T locs cells slots) (hx : p.tables.exec = Jvm.exec) (hZ : Z.Warmed39 s.vm) (hw : ∀ d ∈ tables_1, d.before a0 Z = true) (hby : c.code = prog_55_method_2_code) (hown : s.vm.findClass "com/example/libreadies/libreadies/SourceText" = some m.cls) (v0 : Int32) (hret : meth.sig.returnType = some .boolean) {fs : List Frame} (hr : ∀ (f : JFrame) (acts : List Action), f.method = m → f.locked = none → f.entered = [] → (doReturn e (T.setTop f) acts (some (.int F1_34))).1 = T.setFrames fs) : Steps p.tables e below (T.setTop (mkF m 34 #[.val (.int v0)] [])) (T.setFrames fs) := by
  show Steps p.tables e below (T.setTop (mkF m 34 #[.val (.int v0)] [])) _
  refine XS.iconst X.here hx rfl (hb hby d1_34) ?_
  show Steps p.tables e below (T.setTop (mkF m 35 #[.val (.int v0)] [(.int (0 : Int32))])) _
  rw [show F1_34 = nar .boolean (0 : Int32) from rfl] at hr
  exact retN X hx (t := .boolean) hret (by simp) (hb hby d1_35) hr
def F1_30 : Int32 := (1 : Int32)
theorem b1_30 {p : Program} {l : Launch} {e : Env} {R : Room} {s : State} {m : MethodId} {args : Array Value} {below : List Frame} {meth : Method} {c : Code} {T : State} {locs : List Loc} {cells slots : Nat} {Z : State} {a0 : Array Value} (X : Stand p l e R s m args below meth c T locs cells slots) (hx : p.tables.exec = Jvm.exec) (hZ : Z.Warmed39 s.vm) (hw : ∀ d ∈ tables_1, d.before a0 Z = true) (hby : c.code = prog_55_method_2_code) (hown : s.vm.findClass "com/example/libreadies/libreadies/SourceText" = some m.cls) (v0 : Int32) (hret : meth.sig.returnType = some .boolean) {fs : List Frame} (hr : ∀ (f : JFrame) (acts : List Action), f.method = m → f.locked = none → f.entered = [] → (doReturn e (T.setTop f) acts (some (.int F1_30))).1 = T.setFrames fs) : Steps p.tables e below (T.setTop (mkF m 30 #[.val (.int v0)] [])) (T.setFrames fs) := by
  show Steps p.tables e below (T.setTop (mkF m 30 #[.val (.int v0)] [])) _
  refine XS.iconst X.here hx rfl (hb hby d1_30) ?_
  show Steps p.tables e below (T.setTop (mkF m 31 #[.val (.int v0)] [(.int (1 : Int32))])) _
  refine XS.goto X.here hx rfl (pc0 := 31) (pc' := 35) rfl (hb hby d1_31) (by decide) (by decide) ?_
  show Steps p.tables e below (T.setTop (mkF m 35 #[.val (.int v0)] [(.int (1 : Int32))])) _
  rw [show F1_30 = nar .boolean (1 : Int32) from rfl] at hr
  exact retN X hx (t := .boolean) hret (by simp) (hb hby d1_35) hr
def F1_24 (v0 : Int32) : Int32 := if v0 = (95 : Int32) then F1_30 else F1_34
theorem b1_24 {p : Program} {l : Launch} {e : Env} {R : Room} {s : State} {m : MethodId} {args : Array Value} {below : List Frame} {meth : Method} {c : Code} {T : State} {locs : List Loc} {cells slots : Nat} {Z : State} {a0 : Array Value} (X : Stand p l e R s m args below meth c T locs cells slots) (hx : p.tables.exec = Jvm.exec) (hZ : Z.Warmed39 s.vm) (hw : ∀ d ∈ tables_1, d.before a0 Z = true) (hby : c.code = prog_55_method_2_code) (hown : s.vm.findClass "com/example/libreadies/libreadies/SourceText" = some m.cls) (v0 : Int32) (hret : meth.sig.returnType = some .boolean) {fs : List Frame} (hr : ∀ (f : JFrame) (acts : List Action), f.method = m → f.locked = none → f.entered = [] → (doReturn e (T.setTop f) acts (some (.int (F1_24 v0)))).1 = T.setFrames fs) : Steps p.tables e below (T.setTop (mkF m 24 #[.val (.int v0)] [])) (T.setFrames fs) := by
  show Steps p.tables e below (T.setTop (mkF m 24 #[.val (.int v0)] [])) _
  refine XS.iloadN X.here hx rfl (hb hby d1_24) rfl ?_
  show Steps p.tables e below (T.setTop (mkF m 25 #[.val (.int v0)] [(.int v0)])) _
  refine XS.bipush X.here hx rfl (hb hby d1_25) ?_
  show Steps p.tables e below (T.setTop (mkF m 27 #[.val (.int v0)] [(.int (95 : Int32)), (.int v0)])) _
  by_cases hc : v0 = (95 : Int32)
  · rw [show (F1_24 v0) = F1_30 from if_pos hc] at hr
    refine XS.icmpNo X.here hx rfl (hb hby d1_27) rfl (teq hc).2 ?_
    exact b1_30 X hx hZ hw hby hown v0 hret hr
  · rw [show (F1_24 v0) = F1_34 from if_neg hc] at hr
    refine XS.icmpYes X.here hx rfl (pc0 := 27) (pc' := 34) rfl (hb hby d1_27) rfl (feq hc).2 (by decide) (by decide) ?_
    exact b1_34 X hx hZ hw hby hown v0 hret hr
def F1_18 (v0 : Int32) : Int32 := if (90 : Int32) < v0 then (F1_24 v0) else F1_30
theorem b1_18 {p : Program} {l : Launch} {e : Env} {R : Room} {s : State} {m : MethodId} {args : Array Value} {below : List Frame} {meth : Method} {c : Code} {T : State} {locs : List Loc} {cells slots : Nat} {Z : State} {a0 : Array Value} (X : Stand p l e R s m args below meth c T locs cells slots) (hx : p.tables.exec = Jvm.exec) (hZ : Z.Warmed39 s.vm) (hw : ∀ d ∈ tables_1, d.before a0 Z = true) (hby : c.code = prog_55_method_2_code) (hown : s.vm.findClass "com/example/libreadies/libreadies/SourceText" = some m.cls) (v0 : Int32) (hret : meth.sig.returnType = some .boolean) {fs : List Frame} (hr : ∀ (f : JFrame) (acts : List Action), f.method = m → f.locked = none → f.entered = [] → (doReturn e (T.setTop f) acts (some (.int (F1_18 v0)))).1 = T.setFrames fs) : Steps p.tables e below (T.setTop (mkF m 18 #[.val (.int v0)] [])) (T.setFrames fs) := by
  show Steps p.tables e below (T.setTop (mkF m 18 #[.val (.int v0)] [])) _
  refine XS.iloadN X.here hx rfl (hb hby d1_18) rfl ?_
  show Steps p.tables e below (T.setTop (mkF m 19 #[.val (.int v0)] [(.int v0)])) _
  refine XS.bipush X.here hx rfl (hb hby d1_19) ?_
  show Steps p.tables e below (T.setTop (mkF m 21 #[.val (.int v0)] [(.int (90 : Int32)), (.int v0)])) _
  by_cases hc : (90 : Int32) < v0
  · rw [show (F1_18 v0) = (F1_24 v0) from if_pos hc] at hr
    refine XS.icmpNo X.here hx rfl (hb hby d1_21) rfl (tlt hc).2.2.2 ?_
    exact b1_24 X hx hZ hw hby hown v0 hret hr
  · rw [show (F1_18 v0) = F1_30 from if_neg hc] at hr
    refine XS.icmpYes X.here hx rfl (pc0 := 21) (pc' := 30) rfl (hb hby d1_21) rfl (flt hc).2.2.2 (by decide) (by decide) ?_
    exact b1_30 X hx hZ hw hby hown v0 hret hr
def F1_12 (v0 : Int32) : Int32 := if v0 < (65 : Int32) then (F1_24 v0) else (F1_18 v0)
theorem b1_12 {p : Program} {l : Launch} {e : Env} {R : Room} {s : State} {m : MethodId} {args : Array Value} {below : List Frame} {meth : Method} {c : Code} {T : State} {locs : List Loc} {cells slots : Nat} {Z : State} {a0 : Array Value} (X : Stand p l e R s m args below meth c T locs cells slots) (hx : p.tables.exec = Jvm.exec) (hZ : Z.Warmed39 s.vm) (hw : ∀ d ∈ tables_1, d.before a0 Z = true) (hby : c.code = prog_55_method_2_code) (hown : s.vm.findClass "com/example/libreadies/libreadies/SourceText" = some m.cls) (v0 : Int32) (hret : meth.sig.returnType = some .boolean) {fs : List Frame} (hr : ∀ (f : JFrame) (acts : List Action), f.method = m → f.locked = none → f.entered = [] → (doReturn e (T.setTop f) acts (some (.int (F1_12 v0)))).1 = T.setFrames fs) : Steps p.tables e below (T.setTop (mkF m 12 #[.val (.int v0)] [])) (T.setFrames fs) := by
  show Steps p.tables e below (T.setTop (mkF m 12 #[.val (.int v0)] [])) _
  refine XS.iloadN X.here hx rfl (hb hby d1_12) rfl ?_
  show Steps p.tables e below (T.setTop (mkF m 13 #[.val (.int v0)] [(.int v0)])) _
  refine XS.bipush X.here hx rfl (hb hby d1_13) ?_
  show Steps p.tables e below (T.setTop (mkF m 15 #[.val (.int v0)] [(.int (65 : Int32)), (.int v0)])) _
  by_cases hc : v0 < (65 : Int32)
  · rw [show (F1_12 v0) = (F1_24 v0) from if_pos hc] at hr
    refine XS.icmpYes X.here hx rfl (pc0 := 15) (pc' := 24) rfl (hb hby d1_15) rfl (tlt hc).1 (by decide) (by decide) ?_
    exact b1_24 X hx hZ hw hby hown v0 hret hr
  · rw [show (F1_12 v0) = (F1_18 v0) from if_neg hc] at hr
    refine XS.icmpNo X.here hx rfl (hb hby d1_15) rfl (flt hc).1 ?_
    exact b1_18 X hx hZ hw hby hown v0 hret hr
def F1_6 (v0 : Int32) : Int32 := if (122 : Int32) < v0 then (F1_12 v0) else F1_30
theorem b1_6 {p : Program} {l : Launch} {e : Env} {R : Room} {s : State} {m : MethodId} {args : Array Value} {below : List Frame} {meth : Method} {c : Code} {T : State} {locs : List Loc} {cells slots : Nat} {Z : State} {a0 : Array Value} (X : Stand p l e R s m args below meth c T locs cells slots) (hx : p.tables.exec = Jvm.exec) (hZ : Z.Warmed39 s.vm) (hw : ∀ d ∈ tables_1, d.before a0 Z = true) (hby : c.code = prog_55_method_2_code) (hown : s.vm.findClass "com/example/libreadies/libreadies/SourceText" = some m.cls) (v0 : Int32) (hret : meth.sig.returnType = some .boolean) {fs : List Frame} (hr : ∀ (f : JFrame) (acts : List Action), f.method = m → f.locked = none → f.entered = [] → (doReturn e (T.setTop f) acts (some (.int (F1_6 v0)))).1 = T.setFrames fs) : Steps p.tables e below (T.setTop (mkF m 6 #[.val (.int v0)] [])) (T.setFrames fs) := by
  show Steps p.tables e below (T.setTop (mkF m 6 #[.val (.int v0)] [])) _
  refine XS.iloadN X.here hx rfl (hb hby d1_6) rfl ?_
  show Steps p.tables e below (T.setTop (mkF m 7 #[.val (.int v0)] [(.int v0)])) _
  refine XS.bipush X.here hx rfl (hb hby d1_7) ?_
  show Steps p.tables e below (T.setTop (mkF m 9 #[.val (.int v0)] [(.int (122 : Int32)), (.int v0)])) _
  by_cases hc : (122 : Int32) < v0
  · rw [show (F1_6 v0) = (F1_12 v0) from if_pos hc] at hr
    refine XS.icmpNo X.here hx rfl (hb hby d1_9) rfl (tlt hc).2.2.2 ?_
    exact b1_12 X hx hZ hw hby hown v0 hret hr
  · rw [show (F1_6 v0) = F1_30 from if_neg hc] at hr
    refine XS.icmpYes X.here hx rfl (pc0 := 9) (pc' := 30) rfl (hb hby d1_9) rfl (flt hc).2.2.2 (by decide) (by decide) ?_
    exact b1_30 X hx hZ hw hby hown v0 hret hr
def F1_0 (v0 : Int32) : Int32 := if v0 < (97 : Int32) then (F1_12 v0) else (F1_6 v0)
theorem b1_0 {p : Program} {l : Launch} {e : Env} {R : Room} {s : State} {m : MethodId} {args : Array Value} {below : List Frame} {meth : Method} {c : Code} {T : State} {locs : List Loc} {cells slots : Nat} {Z : State} {a0 : Array Value} (X : Stand p l e R s m args below meth c T locs cells slots) (hx : p.tables.exec = Jvm.exec) (hZ : Z.Warmed39 s.vm) (hw : ∀ d ∈ tables_1, d.before a0 Z = true) (hby : c.code = prog_55_method_2_code) (hown : s.vm.findClass "com/example/libreadies/libreadies/SourceText" = some m.cls) (v0 : Int32) (hret : meth.sig.returnType = some .boolean) {fs : List Frame} (hr : ∀ (f : JFrame) (acts : List Action), f.method = m → f.locked = none → f.entered = [] → (doReturn e (T.setTop f) acts (some (.int (F1_0 v0)))).1 = T.setFrames fs) : Steps p.tables e below (T.setTop (mkF m 0 #[.val (.int v0)] [])) (T.setFrames fs) := by
  show Steps p.tables e below (T.setTop (mkF m 0 #[.val (.int v0)] [])) _
  refine XS.iloadN X.here hx rfl (hb hby d1_0) rfl ?_
  show Steps p.tables e below (T.setTop (mkF m 1 #[.val (.int v0)] [(.int v0)])) _
  refine XS.bipush X.here hx rfl (hb hby d1_1) ?_
  show Steps p.tables e below (T.setTop (mkF m 3 #[.val (.int v0)] [(.int (97 : Int32)), (.int v0)])) _
  by_cases hc : v0 < (97 : Int32)
  · rw [show (F1_0 v0) = (F1_12 v0) from if_pos hc] at hr
    refine XS.icmpYes X.here hx rfl (pc0 := 3) (pc' := 12) rfl (hb hby d1_3) rfl (tlt hc).1 (by decide) (by decide) ?_
    exact b1_12 X hx hZ hw hby hown v0 hret hr
  · rw [show (F1_0 v0) = (F1_6 v0) from if_neg hc] at hr
    refine XS.icmpNo X.here hx rfl (hb hby d1_3) rfl (flt hc).1 ?_
    exact b1_6 X hx hZ hw hby hown v0 hret hr
theorem pn_1 : plainName "com/example/libreadies/libreadies/SourceText" = true := by first | (simp [plainName, overriddenIn]; done) | decide +kernel
theorem ef_1 (m : MethodId) (p0 : Int32) : entryFrame m #[(.int p0)] 1 = mkF m 0 #[.val (.int p0)] [] := by first | (simp [entryFrame, mkF, argsToLocals, Value.category]; done) | rfl
def Q_rm1 (Z : State) (p0 : Int32) (h0 : Heap) (n0 : Nat) (v : Option Value) (h : Heap) (L : List Loc) : Prop := (v = some (.int (F1_0 p0)) ∧ Fr n0 L ∧ h = h0)
set_option maxRecDepth 65536 in
set_option maxHeartbeats 40000000 in
theorem rm1 (l : Launch) (Z : State) (a0 : Array Value) (hw : ∀ d ∈ tables_1, d.before a0 Z = true) (ws : List Jvm.Cond) (p0 : Int32) (h0 : Heap) (n0 : Nat) (Z0 : n0 ≤ h0.size) :
    MetFree l (⟨"com/example/libreadies/libreadies/SourceText", "isLabelStart", "(I)Z"⟩ : MethodName) (head1 (Jvm.Cond.code (⟨"com/example/libreadies/libreadies/SourceText", "isLabelStart", "(I)Z"⟩ : MethodName) prog_55_method_2_code 1 (some .boolean) :: ws) ({ frames := 0, cells := 0, slots := 0, locals := 0 } : Room)) (fun a U => a = #[(.int p0)] ∧ Z.Warmed39 U.vm ∧ U.heap = h0) (fun _ _ _ _ _ => True) (fun _ U o U' => ∃ v L, o = .returned v ∧ Q_rm1 Z p0 h0 n0 v U'.heap L ∧ FrameEnd U o U' L ({ frames := 0, cells := 0, slots := 0, locals := 0 } : Room).cells ({ frames := 0, cells := 0, slots := 0, locals := 0 } : Room).slots) := by
  refine MetFree.of_bodySF (plainFor_of_name pn_1) hisR ?_
  intro p e s m args below meth c s₁ Bd hml0 hP hK
  obtain ⟨rfl, hZ, hh⟩ := hP
  have hx := Bd.exec
  have hby := Bd.bytes
  have hml : c.maxLocals = 1 := hml0
  have hown : s.vm.findClass "com/example/libreadies/libreadies/SourceText" = some m.cls := findClass_of_methodNamed Bd.named
  have hnm := (name_of_methodNamed Bd.named Bd.method).1
  have X0 : Stand p l e ({ frames := 0, cells := 0, slots := 0, locals := 0 } : Room) s m #[(.int p0)] below meth c s₁ [] 0 0 := Stand.of_body Bd
  have e0 : s₁.heap = h0 := by rw [← hh, Bd.state]; rfl
  have N0 := Fr.nil n0
  have pre0 : ∀ t, Steps p.tables e below (s₁.setTop (mkF m 0 #[.val (.int p0)] [])) t → Steps p.tables e below (s₁.setTop (entryFrame m #[(.int p0)] 1)) t := fun t k => castTop (ef_1 m p0) k
  obtain ⟨fs, hr, hrun, hended, hW, hsame⟩ := X0.leave (v := some (.int (F1_0 p0))) (fun h => by rw [Bd.returns] at h; cases h)
  refine ⟨_, _, pre0 _ ?_, hrun, hended, _, _, rfl, ⟨rfl, N0, e0⟩, ⟨_, rfl⟩, hW, hsame.mono (by decide) (by decide)⟩
  exact b1_0 X0 hx hZ hw hby hown p0 Bd.returns hr
def F0s_28 : Int32 := (0 : Int32)
theorem b0s_28 {p : Program} {l : Launch} {e : Env} {R : Room} {s : State} {m : MethodId} {args : Array Value} {below : List Frame} {meth : Method} {c : Code} {T : State} {locs : List Loc} {cells slots : Nat} {Z : State} {a0 : Array Value} (X : Stand p l e R s m args below meth c T locs cells slots) (hx : p.tables.exec = Jvm.exec) (hZ : Z.Warmed39 s.vm) (hw : ∀ d ∈ tables_1, d.before a0 Z = true) (hby : c.code = code) (hown : s.vm.findClass "com/example/libreadies/libreadies/SourceTextIsLabelStartPinLaw" = some m.cls) (v0 : Int32) (v1 : Int64) (target : State) (kt : Steps p.tables e below (T.setTop (mkF m 29 #[.val (.int v0), .val (.long v1), .second, .unset, .unset] [(.int F0s_28)])) target) : Steps p.tables e below (T.setTop (mkF m 28 #[.val (.int v0), .val (.long v1), .second, .unset, .unset] [])) target := by
  show Steps p.tables e below (T.setTop (mkF m 28 #[.val (.int v0), .val (.long v1), .second, .unset, .unset] [])) _
  refine XS.iconst X.here hx rfl (hb hby at_28) ?_
  rw [show F0s_28 = (0 : Int32) from rfl] at kt
  exact kt
def F0s_24 : Int32 := (1 : Int32)
theorem b0s_24 {p : Program} {l : Launch} {e : Env} {R : Room} {s : State} {m : MethodId} {args : Array Value} {below : List Frame} {meth : Method} {c : Code} {T : State} {locs : List Loc} {cells slots : Nat} {Z : State} {a0 : Array Value} (X : Stand p l e R s m args below meth c T locs cells slots) (hx : p.tables.exec = Jvm.exec) (hZ : Z.Warmed39 s.vm) (hw : ∀ d ∈ tables_1, d.before a0 Z = true) (hby : c.code = code) (hown : s.vm.findClass "com/example/libreadies/libreadies/SourceTextIsLabelStartPinLaw" = some m.cls) (v0 : Int32) (v1 : Int64) (target : State) (kt : Steps p.tables e below (T.setTop (mkF m 29 #[.val (.int v0), .val (.long v1), .second, .unset, .unset] [(.int F0s_24)])) target) : Steps p.tables e below (T.setTop (mkF m 24 #[.val (.int v0), .val (.long v1), .second, .unset, .unset] [])) target := by
  show Steps p.tables e below (T.setTop (mkF m 24 #[.val (.int v0), .val (.long v1), .second, .unset, .unset] [])) _
  refine XS.iconst X.here hx rfl (hb hby at_24) ?_
  show Steps p.tables e below (T.setTop (mkF m 25 #[.val (.int v0), .val (.long v1), .second, .unset, .unset] [(.int (1 : Int32))])) _
  refine XS.goto X.here hx rfl (pc0 := 25) (pc' := 29) rfl (hb hby at_25) (by decide) (by decide) ?_
  rw [show F0s_24 = (1 : Int32) from rfl] at kt
  exact kt
def F0s_16 (v1 : Int64) : Int32 := if v1 < (26 : Int64) then F0s_24 else F0s_28
theorem b0s_16 {p : Program} {l : Launch} {e : Env} {R : Room} {s : State} {m : MethodId} {args : Array Value} {below : List Frame} {meth : Method} {c : Code} {T : State} {locs : List Loc} {cells slots : Nat} {Z : State} {a0 : Array Value} (X : Stand p l e R s m args below meth c T locs cells slots) (hx : p.tables.exec = Jvm.exec) (hZ : Z.Warmed39 s.vm) (hw : ∀ d ∈ tables_1, d.before a0 Z = true) (hby : c.code = code) (hown : s.vm.findClass "com/example/libreadies/libreadies/SourceTextIsLabelStartPinLaw" = some m.cls) (v0 : Int32) (v1 : Int64) (target : State) (kt : Steps p.tables e below (T.setTop (mkF m 29 #[.val (.int v0), .val (.long v1), .second, .unset, .unset] [(.int (F0s_16 v1))])) target) : Steps p.tables e below (T.setTop (mkF m 16 #[.val (.int v0), .val (.long v1), .second, .unset, .unset] [])) target := by
  show Steps p.tables e below (T.setTop (mkF m 16 #[.val (.int v0), .val (.long v1), .second, .unset, .unset] [])) _
  refine XS.lloadN X.here hx rfl (hb hby at_16) rfl ?_
  show Steps p.tables e below (T.setTop (mkF m 17 #[.val (.int v0), .val (.long v1), .second, .unset, .unset] [(.long v1)])) _
  refine X.ldc2Long hx hown (mvT hZ (hw _ (List.mem_of_getElem? (i := 5) rfl))) (g := (mkF m 17 #[.val (.int v0), .val (.long v1), .second, .unset, .unset] [(.long v1)])) rfl (hb hby at_17) _ ?_
  show Steps p.tables e below (T.setTop (mkF m 20 #[.val (.int v0), .val (.long v1), .second, .unset, .unset] [(.long (26 : Int64)), (.long v1)])) _
  refine XS.lcmp X.here hx rfl (hb hby at_20) rfl ?_
  show Steps p.tables e below (T.setTop (mkF m 21 #[.val (.int v0), .val (.long v1), .second, .unset, .unset] [(.int (lcmpW v1 (26 : Int64)))])) _
  by_cases hc : v1 < (26 : Int64)
  · rw [show (F0s_16 v1) = F0s_24 from if_pos hc] at kt
    refine XS.ifNo X.here hx rfl (hb hby at_21) rfl ((if0 _ _).trans (tlt ((lw_lt _ _).mpr hc)).2.1) ?_
    exact b0s_24 X hx hZ hw hby hown v0 v1 target kt
  · rw [show (F0s_16 v1) = F0s_28 from if_neg hc] at kt
    refine XS.ifYes X.here hx rfl (pc0 := 21) (pc' := 28) rfl (hb hby at_21) rfl ((if0 _ _).trans (flt (fun q => hc ((lw_lt _ _).mp q))).2.1) (by decide) (by decide) ?_
    exact b0s_28 X hx hZ hw hby hown v0 v1 target kt
def F0s_10 (v1 : Int64) : Int32 := if v1 < (0 : Int64) then F0s_28 else (F0s_16 v1)
theorem b0s_10 {p : Program} {l : Launch} {e : Env} {R : Room} {s : State} {m : MethodId} {args : Array Value} {below : List Frame} {meth : Method} {c : Code} {T : State} {locs : List Loc} {cells slots : Nat} {Z : State} {a0 : Array Value} (X : Stand p l e R s m args below meth c T locs cells slots) (hx : p.tables.exec = Jvm.exec) (hZ : Z.Warmed39 s.vm) (hw : ∀ d ∈ tables_1, d.before a0 Z = true) (hby : c.code = code) (hown : s.vm.findClass "com/example/libreadies/libreadies/SourceTextIsLabelStartPinLaw" = some m.cls) (v0 : Int32) (v1 : Int64) (target : State) (kt : Steps p.tables e below (T.setTop (mkF m 29 #[.val (.int v0), .val (.long v1), .second, .unset, .unset] [(.int (F0s_10 v1))])) target) : Steps p.tables e below (T.setTop (mkF m 10 #[.val (.int v0), .val (.long v1), .second, .unset, .unset] [])) target := by
  show Steps p.tables e below (T.setTop (mkF m 10 #[.val (.int v0), .val (.long v1), .second, .unset, .unset] [])) _
  refine XS.lloadN X.here hx rfl (hb hby at_10) rfl ?_
  show Steps p.tables e below (T.setTop (mkF m 11 #[.val (.int v0), .val (.long v1), .second, .unset, .unset] [(.long v1)])) _
  refine XS.lconst X.here hx rfl (hb hby at_11) ?_
  show Steps p.tables e below (T.setTop (mkF m 12 #[.val (.int v0), .val (.long v1), .second, .unset, .unset] [(.long (0 : Int64)), (.long v1)])) _
  refine XS.lcmp X.here hx rfl (hb hby at_12) rfl ?_
  show Steps p.tables e below (T.setTop (mkF m 13 #[.val (.int v0), .val (.long v1), .second, .unset, .unset] [(.int (lcmpW v1 (0 : Int64)))])) _
  by_cases hc : v1 < (0 : Int64)
  · rw [show (F0s_10 v1) = F0s_28 from if_pos hc] at kt
    refine XS.ifYes X.here hx rfl (pc0 := 13) (pc' := 28) rfl (hb hby at_13) rfl ((if0 _ _).trans (tlt ((lw_lt _ _).mpr hc)).1) (by decide) (by decide) ?_
    exact b0s_28 X hx hZ hw hby hown v0 v1 target kt
  · rw [show (F0s_10 v1) = (F0s_16 v1) from if_neg hc] at kt
    refine XS.ifNo X.here hx rfl (hb hby at_13) rfl ((if0 _ _).trans (flt (fun q => hc ((lw_lt _ _).mp q))).1) ?_
    exact b0s_16 X hx hZ hw hby hown v0 v1 target kt
def F0s_40 : Int32 := (1 : Int32)
theorem b0s_40 {p : Program} {l : Launch} {e : Env} {R : Room} {s : State} {m : MethodId} {args : Array Value} {below : List Frame} {meth : Method} {c : Code} {T : State} {locs : List Loc} {cells slots : Nat} {Z : State} {a0 : Array Value} (X : Stand p l e R s m args below meth c T locs cells slots) (hx : p.tables.exec = Jvm.exec) (hZ : Z.Warmed39 s.vm) (hw : ∀ d ∈ tables_1, d.before a0 Z = true) (hby : c.code = code) (hown : s.vm.findClass "com/example/libreadies/libreadies/SourceTextIsLabelStartPinLaw" = some m.cls) (v0 : Int32) (v1 : Int64) (v3 : Int32) (target : State) (kt : Steps p.tables e below (T.setTop (mkF m 45 #[.val (.int v0), .val (.long v1), .second, .val (.int v3), .unset] [(.int F0s_40)])) target) : Steps p.tables e below (T.setTop (mkF m 40 #[.val (.int v0), .val (.long v1), .second, .val (.int v3), .unset] [])) target := by
  show Steps p.tables e below (T.setTop (mkF m 40 #[.val (.int v0), .val (.long v1), .second, .val (.int v3), .unset] [])) _
  refine XS.iconst X.here hx rfl (hb hby at_40) ?_
  show Steps p.tables e below (T.setTop (mkF m 41 #[.val (.int v0), .val (.long v1), .second, .val (.int v3), .unset] [(.int (1 : Int32))])) _
  refine XS.goto X.here hx rfl (pc0 := 41) (pc' := 45) rfl (hb hby at_41) (by decide) (by decide) ?_
  rw [show F0s_40 = (1 : Int32) from rfl] at kt
  exact kt
def F0s_44 : Int32 := (0 : Int32)
theorem b0s_44 {p : Program} {l : Launch} {e : Env} {R : Room} {s : State} {m : MethodId} {args : Array Value} {below : List Frame} {meth : Method} {c : Code} {T : State} {locs : List Loc} {cells slots : Nat} {Z : State} {a0 : Array Value} (X : Stand p l e R s m args below meth c T locs cells slots) (hx : p.tables.exec = Jvm.exec) (hZ : Z.Warmed39 s.vm) (hw : ∀ d ∈ tables_1, d.before a0 Z = true) (hby : c.code = code) (hown : s.vm.findClass "com/example/libreadies/libreadies/SourceTextIsLabelStartPinLaw" = some m.cls) (v0 : Int32) (v1 : Int64) (v3 : Int32) (target : State) (kt : Steps p.tables e below (T.setTop (mkF m 45 #[.val (.int v0), .val (.long v1), .second, .val (.int v3), .unset] [(.int F0s_44)])) target) : Steps p.tables e below (T.setTop (mkF m 44 #[.val (.int v0), .val (.long v1), .second, .val (.int v3), .unset] [])) target := by
  show Steps p.tables e below (T.setTop (mkF m 44 #[.val (.int v0), .val (.long v1), .second, .val (.int v3), .unset] [])) _
  refine XS.iconst X.here hx rfl (hb hby at_44) ?_
  rw [show F0s_44 = (0 : Int32) from rfl] at kt
  exact kt
def F0s_34 (v0 : Int32) : Int32 := if v0 = (95 : Int32) then F0s_40 else F0s_44
theorem b0s_34 {p : Program} {l : Launch} {e : Env} {R : Room} {s : State} {m : MethodId} {args : Array Value} {below : List Frame} {meth : Method} {c : Code} {T : State} {locs : List Loc} {cells slots : Nat} {Z : State} {a0 : Array Value} (X : Stand p l e R s m args below meth c T locs cells slots) (hx : p.tables.exec = Jvm.exec) (hZ : Z.Warmed39 s.vm) (hw : ∀ d ∈ tables_1, d.before a0 Z = true) (hby : c.code = code) (hown : s.vm.findClass "com/example/libreadies/libreadies/SourceTextIsLabelStartPinLaw" = some m.cls) (v0 : Int32) (v1 : Int64) (v3 : Int32) (target : State) (kt : Steps p.tables e below (T.setTop (mkF m 45 #[.val (.int v0), .val (.long v1), .second, .val (.int v3), .unset] [(.int (F0s_34 v0))])) target) : Steps p.tables e below (T.setTop (mkF m 34 #[.val (.int v0), .val (.long v1), .second, .val (.int v3), .unset] [])) target := by
  show Steps p.tables e below (T.setTop (mkF m 34 #[.val (.int v0), .val (.long v1), .second, .val (.int v3), .unset] [])) _
  refine XS.iloadN X.here hx rfl (hb hby at_34) rfl ?_
  show Steps p.tables e below (T.setTop (mkF m 35 #[.val (.int v0), .val (.long v1), .second, .val (.int v3), .unset] [(.int v0)])) _
  refine XS.bipush X.here hx rfl (hb hby at_35) ?_
  show Steps p.tables e below (T.setTop (mkF m 37 #[.val (.int v0), .val (.long v1), .second, .val (.int v3), .unset] [(.int (95 : Int32)), (.int v0)])) _
  by_cases hc : v0 = (95 : Int32)
  · rw [show (F0s_34 v0) = F0s_40 from if_pos hc] at kt
    refine XS.icmpNo X.here hx rfl (hb hby at_37) rfl (teq hc).2 ?_
    exact b0s_40 X hx hZ hw hby hown v0 v1 v3 target kt
  · rw [show (F0s_34 v0) = F0s_44 from if_neg hc] at kt
    refine XS.icmpYes X.here hx rfl (pc0 := 37) (pc' := 44) rfl (hb hby at_37) rfl (feq hc).2 (by decide) (by decide) ?_
    exact b0s_44 X hx hZ hw hby hown v0 v1 v3 target kt
def F0s_30 (v0 : Int32) (v3 : Int32) : Int32 := if v3 = (0 : Int32) then (F0s_34 v0) else F0s_40
theorem b0s_30 {p : Program} {l : Launch} {e : Env} {R : Room} {s : State} {m : MethodId} {args : Array Value} {below : List Frame} {meth : Method} {c : Code} {T : State} {locs : List Loc} {cells slots : Nat} {Z : State} {a0 : Array Value} (X : Stand p l e R s m args below meth c T locs cells slots) (hx : p.tables.exec = Jvm.exec) (hZ : Z.Warmed39 s.vm) (hw : ∀ d ∈ tables_1, d.before a0 Z = true) (hby : c.code = code) (hown : s.vm.findClass "com/example/libreadies/libreadies/SourceTextIsLabelStartPinLaw" = some m.cls) (v0 : Int32) (v1 : Int64) (v3 : Int32) (target : State) (kt : Steps p.tables e below (T.setTop (mkF m 45 #[.val (.int v0), .val (.long v1), .second, .val (.int v3), .unset] [(.int (F0s_30 v0 v3))])) target) : Steps p.tables e below (T.setTop (mkF m 30 #[.val (.int v0), .val (.long v1), .second, .val (.int v3), .unset] [])) target := by
  show Steps p.tables e below (T.setTop (mkF m 30 #[.val (.int v0), .val (.long v1), .second, .val (.int v3), .unset] [])) _
  refine XS.iloadN X.here hx rfl (hb hby at_30) rfl ?_
  show Steps p.tables e below (T.setTop (mkF m 31 #[.val (.int v0), .val (.long v1), .second, .val (.int v3), .unset] [(.int v3)])) _
  by_cases hc : v3 = (0 : Int32)
  · rw [show (F0s_30 v0 v3) = (F0s_34 v0) from if_pos hc] at kt
    refine XS.ifNo X.here hx rfl (hb hby at_31) rfl ((if0 _ _).trans (teq hc).2) ?_
    exact b0s_34 X hx hZ hw hby hown v0 v1 v3 target kt
  · rw [show (F0s_30 v0 v3) = F0s_40 from if_neg hc] at kt
    refine XS.ifYes X.here hx rfl (pc0 := 31) (pc' := 40) rfl (hb hby at_31) rfl ((if0 _ _).trans (feq hc).2) (by decide) (by decide) ?_
    exact b0s_40 X hx hZ hw hby hown v0 v1 v3 target kt
theorem pn_0 : plainName "com/example/libreadies/libreadies/SourceTextIsLabelStartPinLaw" = true := by first | (simp [plainName, overriddenIn]; done) | decide +kernel
theorem ef_0 (m : MethodId) (p0 : Int32) : entryFrame m #[(.int p0)] maxLocals = mkF m 0 #[.val (.int p0), .unset, .unset, .unset, .unset] [] := by first | (simp [entryFrame, mkF, argsToLocals, Value.category, maxLocals]; done) | rfl
def Q_rm0 (Z : State) (p0 : Int32) (h0 : Heap) (n0 : Nat) (v : Option Value) (h : Heap) (L : List Loc) : Prop := (v = some (.int (1 : Int32)) ∧ Fr n0 L)
set_option maxRecDepth 65536 in
set_option maxHeartbeats 40000000 in
theorem rm0 (l : Launch) (Z : State) (a0 : Array Value) (hw : ∀ d ∈ tables_1, d.before a0 Z = true) (ws : List Jvm.Cond) (p0 : Int32) (h0 : Heap) (n0 : Nat) (Z0 : n0 ≤ h0.size) (hc53 : (F1_0 p0) = (F0s_30 p0 (F0s_10 (((p0 ||| (32 : Int32)).toInt64) - (97 : Int64))))) :
    MetFree l x (head1 (Jvm.Cond.code x code maxLocals ret :: ws) room_1) (fun a U => a = #[(.int p0)] ∧ Z.Warmed39 U.vm ∧ U.heap = h0) (fun _ _ _ _ _ => True) (fun _ U o U' => ∃ v L, o = .returned v ∧ Q_rm0 Z p0 h0 n0 v U'.heap L ∧ FrameEnd U o U' L room_1.cells room_1.slots) := by
  refine MetFree.of_bodySF (plainFor_of_name pn_0) hisR ?_
  intro p e s m args below meth c s₁ Bd hml0 hP hK
  obtain ⟨rfl, hZ, hh⟩ := hP
  have hx := Bd.exec
  have hby := Bd.bytes
  have hml : c.maxLocals = 5 := hml0
  have hown : s.vm.findClass "com/example/libreadies/libreadies/SourceTextIsLabelStartPinLaw" = some m.cls := findClass_of_methodNamed Bd.named
  have hnm := (name_of_methodNamed Bd.named Bd.method).1
  have X0 : Stand p l e room_1 s m #[(.int p0)] below meth c s₁ [] 0 0 := Stand.of_body Bd
  have e0 : s₁.heap = h0 := by rw [← hh, Bd.state]; rfl
  have N0 := Fr.nil n0
  have pre0 : ∀ t, Steps p.tables e below (s₁.setTop (mkF m 0 #[.val (.int p0), .unset, .unset, .unset, .unset] [])) t → Steps p.tables e below (s₁.setTop (entryFrame m #[(.int p0)] maxLocals)) t := fun t k => castTop (ef_0 m p0) k
  obtain ⟨_, _, ⟨T1, L1, k1, n1⟩, -, X1, ⟨Lc1, hQ1, l1, y1, z1⟩, st1⟩ := Jvm.LawKit.callS X0 hx (y := (⟨"com/example/libreadies/libreadies/SourceText", "isLabelStart", "(I)Z"⟩ : MethodName)) hown (mvT hZ (hw _ (List.mem_of_getElem? (i := 1) rfl))) (mvT hZ (hw _ (List.mem_of_getElem? (i := 2) rfl))) (mvT hZ (hw _ (List.mem_of_getElem? (i := 3) rfl))) (mvT hZ (hw _ (List.mem_of_getElem? (i := 4) rfl))) (by decide) (backOf (W := 0) (rm1 l Z a0 hw [] p0 h0 n0 Z0) hZ (hw _ (List.mem_of_getElem? (i := 4) rfl)) (hw _ (List.mem_of_getElem? (i := 3) rfl)) (by decide) (by decide)) (g := (mkF m 48 #[.val (.int p0), .val (.long (((p0 ||| (32 : Int32)).toInt64) - (97 : Int64))), .second, .val (.int (F0s_10 (((p0 ||| (32 : Int32)).toInt64) - (97 : Int64)))), .val (.int (F0s_30 p0 (F0s_10 (((p0 ||| (32 : Int32)).toInt64) - (97 : Int64)))))] [(.int p0)])) rfl (by rw [hml]; rfl) (argsL := [(.int p0)]) (rest := []) (lenOf pd0 rfl) rfl (by show 2 * 0 + _ ≤ _; exact Nat.le_of_eq rfl) (hb hby at_48) (fun _ _ => ⟨rfl, e0, (by decide : 0 + 0 ≤ _), (by decide : 0 + 0 ≤ _)⟩)
  dsimp only [Pt.U, Pt.locs, Pt.cells, Pt.slots] at X1 l1 y1 z1 st1 hQ1
  subst l1 y1 z1
  obtain ⟨rfl, N1q, e1⟩ := hQ1
  have N1 := Fr.app N0 N1q
  obtain ⟨fs, hr, hrun, hended, hW, hsame⟩ := X1.leave (v := some (.int (1 : Int32))) (fun h => by rw [Bd.returns] at h; cases h)
  refine ⟨_, _, pre0 _ ?_, hrun, hended, _, _, rfl, ⟨rfl, N1⟩, ⟨_, rfl⟩, hW, hsame.mono (by decide) (by decide)⟩
  show Steps p.tables e below (s₁.setTop (mkF m 0 #[.val (.int p0), .unset, .unset, .unset, .unset] [])) _
  refine XS.iloadN X0.here hx rfl (hb hby at_0) rfl ?_
  show Steps p.tables e below (s₁.setTop (mkF m 1 #[.val (.int p0), .unset, .unset, .unset, .unset] [(.int p0)])) _
  refine XS.bipush X0.here hx rfl (hb hby at_1) ?_
  show Steps p.tables e below (s₁.setTop (mkF m 3 #[.val (.int p0), .unset, .unset, .unset, .unset] [(.int (32 : Int32)), (.int p0)])) _
  refine XS.ior X0.here hx rfl (hb hby at_3) rfl ?_
  show Steps p.tables e below (s₁.setTop (mkF m 4 #[.val (.int p0), .unset, .unset, .unset, .unset] [(.int (p0 ||| (32 : Int32)))])) _
  refine XS.i2l X0.here hx rfl (hb hby at_4) rfl ?_
  show Steps p.tables e below (s₁.setTop (mkF m 5 #[.val (.int p0), .unset, .unset, .unset, .unset] [(.long ((p0 ||| (32 : Int32)).toInt64))])) _
  refine X0.ldc2Long hx hown (mvT hZ (hw _ (List.mem_of_getElem? (i := 0) rfl))) (g := (mkF m 5 #[.val (.int p0), .unset, .unset, .unset, .unset] [(.long ((p0 ||| (32 : Int32)).toInt64))])) rfl (hb hby at_5) _ ?_
  show Steps p.tables e below (s₁.setTop (mkF m 8 #[.val (.int p0), .unset, .unset, .unset, .unset] [(.long (97 : Int64)), (.long ((p0 ||| (32 : Int32)).toInt64))])) _
  refine XS.lsub X0.here hx rfl (hb hby at_8) rfl ?_
  show Steps p.tables e below (s₁.setTop (mkF m 9 #[.val (.int p0), .unset, .unset, .unset, .unset] [(.long (((p0 ||| (32 : Int32)).toInt64) - (97 : Int64)))])) _
  refine XS.lstoreN X0.here hx rfl (hb hby at_9) rfl (l' := #[.val (.int p0), .val (.long (((p0 ||| (32 : Int32)).toInt64) - (97 : Int64))), .second, .unset, .unset]) rfl ?_
  show Steps p.tables e below (s₁.setTop (mkF m 10 #[.val (.int p0), .val (.long (((p0 ||| (32 : Int32)).toInt64) - (97 : Int64))), .second, .unset, .unset] [])) _
  refine b0s_10 X0 hx hZ hw hby hown p0 (((p0 ||| (32 : Int32)).toInt64) - (97 : Int64)) _ ?_
  show Steps p.tables e below (s₁.setTop (mkF m 29 #[.val (.int p0), .val (.long (((p0 ||| (32 : Int32)).toInt64) - (97 : Int64))), .second, .unset, .unset] [(.int (F0s_10 (((p0 ||| (32 : Int32)).toInt64) - (97 : Int64))))])) _
  refine XS.istoreN X0.here hx rfl (hb hby at_29) rfl (l' := #[.val (.int p0), .val (.long (((p0 ||| (32 : Int32)).toInt64) - (97 : Int64))), .second, .val (.int (F0s_10 (((p0 ||| (32 : Int32)).toInt64) - (97 : Int64)))), .unset]) rfl ?_
  show Steps p.tables e below (s₁.setTop (mkF m 30 #[.val (.int p0), .val (.long (((p0 ||| (32 : Int32)).toInt64) - (97 : Int64))), .second, .val (.int (F0s_10 (((p0 ||| (32 : Int32)).toInt64) - (97 : Int64)))), .unset] [])) _
  refine b0s_30 X0 hx hZ hw hby hown p0 (((p0 ||| (32 : Int32)).toInt64) - (97 : Int64)) (F0s_10 (((p0 ||| (32 : Int32)).toInt64) - (97 : Int64))) _ ?_
  show Steps p.tables e below (s₁.setTop (mkF m 45 #[.val (.int p0), .val (.long (((p0 ||| (32 : Int32)).toInt64) - (97 : Int64))), .second, .val (.int (F0s_10 (((p0 ||| (32 : Int32)).toInt64) - (97 : Int64)))), .unset] [(.int (F0s_30 p0 (F0s_10 (((p0 ||| (32 : Int32)).toInt64) - (97 : Int64)))))])) _
  refine XS.istore X0.here hx rfl (hb hby at_45) rfl (l' := #[.val (.int p0), .val (.long (((p0 ||| (32 : Int32)).toInt64) - (97 : Int64))), .second, .val (.int (F0s_10 (((p0 ||| (32 : Int32)).toInt64) - (97 : Int64)))), .val (.int (F0s_30 p0 (F0s_10 (((p0 ||| (32 : Int32)).toInt64) - (97 : Int64)))))]) rfl ?_
  show Steps p.tables e below (s₁.setTop (mkF m 47 #[.val (.int p0), .val (.long (((p0 ||| (32 : Int32)).toInt64) - (97 : Int64))), .second, .val (.int (F0s_10 (((p0 ||| (32 : Int32)).toInt64) - (97 : Int64)))), .val (.int (F0s_30 p0 (F0s_10 (((p0 ||| (32 : Int32)).toInt64) - (97 : Int64)))))] [])) _
  refine XS.iloadN X0.here hx rfl (hb hby at_47) rfl ?_
  show Steps p.tables e below (s₁.setTop (mkF m 48 #[.val (.int p0), .val (.long (((p0 ||| (32 : Int32)).toInt64) - (97 : Int64))), .second, .val (.int (F0s_10 (((p0 ||| (32 : Int32)).toInt64) - (97 : Int64)))), .val (.int (F0s_30 p0 (F0s_10 (((p0 ||| (32 : Int32)).toInt64) - (97 : Int64)))))] [(.int p0)])) _
  refine st1 _ ?_
  show Steps p.tables e below (T1.setTop (mkF m 51 #[.val (.int p0), .val (.long (((p0 ||| (32 : Int32)).toInt64) - (97 : Int64))), .second, .val (.int (F0s_10 (((p0 ||| (32 : Int32)).toInt64) - (97 : Int64)))), .val (.int (F0s_30 p0 (F0s_10 (((p0 ||| (32 : Int32)).toInt64) - (97 : Int64)))))] [(.int (F1_0 p0))])) _
  refine XS.iload X1.here hx rfl (hb hby at_51) rfl ?_
  show Steps p.tables e below (T1.setTop (mkF m 53 #[.val (.int p0), .val (.long (((p0 ||| (32 : Int32)).toInt64) - (97 : Int64))), .second, .val (.int (F0s_10 (((p0 ||| (32 : Int32)).toInt64) - (97 : Int64)))), .val (.int (F0s_30 p0 (F0s_10 (((p0 ||| (32 : Int32)).toInt64) - (97 : Int64)))))] [(.int (F0s_30 p0 (F0s_10 (((p0 ||| (32 : Int32)).toInt64) - (97 : Int64))))), (.int (F1_0 p0))])) _
  refine XS.icmpNo X1.here hx rfl (hb hby at_53) rfl (teq hc53).2 ?_
  show Steps p.tables e below (T1.setTop (mkF m 56 #[.val (.int p0), .val (.long (((p0 ||| (32 : Int32)).toInt64) - (97 : Int64))), .second, .val (.int (F0s_10 (((p0 ||| (32 : Int32)).toInt64) - (97 : Int64)))), .val (.int (F0s_30 p0 (F0s_10 (((p0 ||| (32 : Int32)).toInt64) - (97 : Int64)))))] [])) _
  refine XS.iconst X1.here hx rfl (hb hby at_56) ?_
  show Steps p.tables e below (T1.setTop (mkF m 57 #[.val (.int p0), .val (.long (((p0 ||| (32 : Int32)).toInt64) - (97 : Int64))), .second, .val (.int (F0s_10 (((p0 ||| (32 : Int32)).toInt64) - (97 : Int64)))), .val (.int (F0s_30 p0 (F0s_10 (((p0 ||| (32 : Int32)).toInt64) - (97 : Int64)))))] [(.int (1 : Int32))])) _
  refine XS.goto X1.here hx rfl (pc0 := 57) (pc' := 61) rfl (hb hby at_57) (by decide) (by decide) ?_
  show Steps p.tables e below (T1.setTop (mkF m 61 #[.val (.int p0), .val (.long (((p0 ||| (32 : Int32)).toInt64) - (97 : Int64))), .second, .val (.int (F0s_10 (((p0 ||| (32 : Int32)).toInt64) - (97 : Int64)))), .val (.int (F0s_30 p0 (F0s_10 (((p0 ||| (32 : Int32)).toInt64) - (97 : Int64)))))] [(.int (1 : Int32))])) _
  exact retN X1 hx (t := .boolean) Bd.returns (by simp) (hb hby at_61) hr
theorem own_small : ∀ k : Fin 128, F1_0 (Int32.ofNat k.val) = F0s_30 (Int32.ofNat k.val) (F0s_10 (((Int32.ofNat k.val ||| (32 : Int32)).toInt64) - (97 : Int64))) := by decide +kernel
theorem own_law (p0 : Int32) : F1_0 p0 = F0s_30 p0 (F0s_10 (((p0 ||| (32 : Int32)).toInt64) - (97 : Int64))) := by
  have hr := rng32 p0
  by_cases h : 0 ≤ p0.toInt ∧ p0.toInt < 128
  · have e : p0 = Int32.ofNat (p0.toInt.toNat) := by
      rw [← Int32.toInt_inj, Int32.toInt_ofNat_of_lt (by omega)]; omega
    have q := own_small ⟨p0.toInt.toNat, by omega⟩
    simp only [← e] at q
    exact q
  · have h0 := c_orS p0 32
    have h1 := c_or0 p0 32
    have e32 : (32 : Int32).toInt = 32 := rfl
    have hq := rng32 (p0 ||| 32)
    have e1 : (((p0 ||| (32 : Int32)).toInt64) - (97 : Int64)).toInt = (p0 ||| 32).toInt - 97 := by
      have a := c_lsub ((p0 ||| (32 : Int32)).toInt64) 97
      have b := rng64 (((p0 ||| (32 : Int32)).toInt64) - (97 : Int64))
      rw [c_i2l] at a
      have e97 : (97 : Int64).toInt = 97 := rfl
      omega
    have z : F0s_10 (((p0 ||| (32 : Int32)).toInt64) - (97 : Int64)) = 0 := by
      generalize (((p0 ||| (32 : Int32)).toInt64) - (97 : Int64)) = w at *
      have e0 : (0 : Int64).toInt = 0 := rfl
      have e26 : (26 : Int64).toInt = 26 := rfl
      by_cases hn : p0.toInt < 0
      · exact if_pos (by rw [Int64.lt_iff_toInt_lt]; omega)
      · rw [show F0s_10 w = F0s_16 w from if_neg (by rw [Int64.lt_iff_toInt_lt]; omega)]
        exact if_neg (by rw [Int64.lt_iff_toInt_lt]; omega)
    rw [z]
    have e95 : (95 : Int32).toInt = 95 := rfl
    have e97 : (97 : Int32).toInt = 97 := rfl
    have e65 : (65 : Int32).toInt = 65 := rfl
    have e90 : (90 : Int32).toInt = 90 := rfl
    have e122 : (122 : Int32).toInt = 122 := rfl
    have n95 : ¬ p0 = (95 : Int32) := by rw [← Int32.toInt_inj]; omega
    rw [show F0s_30 p0 0 = F0s_34 p0 from if_pos rfl, show F0s_34 p0 = 0 from if_neg n95]
    have z24 : F1_24 p0 = 0 := if_neg n95
    have z12 : F1_12 p0 = 0 := by
      by_cases hn : p0.toInt < 0
      · rw [show F1_12 p0 = F1_24 p0 from if_pos (by rw [Int32.lt_iff_toInt_lt]; omega), z24]
      · rw [show F1_12 p0 = F1_18 p0 from if_neg (by rw [Int32.lt_iff_toInt_lt]; omega), show F1_18 p0 = F1_24 p0 from if_pos (by rw [Int32.lt_iff_toInt_lt]; omega), z24]
    by_cases hn : p0.toInt < 0
    · rw [show F1_0 p0 = F1_12 p0 from if_pos (by rw [Int32.lt_iff_toInt_lt]; omega), z12]
    · rw [show F1_0 p0 = F1_6 p0 from if_neg (by rw [Int32.lt_iff_toInt_lt]; omega), show F1_6 p0 = F1_12 p0 from if_pos (by rw [Int32.lt_iff_toInt_lt]; omega), z12]

set_option maxRecDepth 65536 in
set_option maxHeartbeats 40000000 in
theorem comes_1 {Post : Tables → Env → Array Value → State → Outcome → State → Prop} (hpost : ∀ tb e args s v u, (limb_1_1.after args s (.returned v) u = true ∧ limb_1_2.after args s (.returned v) u = true ∧ True) → FrameEnd s (.returned v) u (Jvm.fieldLocs frame_1_writes args s ++ Jvm.arrayLocs frame_1_arrays args s ++ Jvm.staticLocs frame_1_statics s) 0 0 → Post tb e args s (.returned v) u) :
    ArmFor flags0 classFile x code maxLocals ret World_1 tables_1 room_1 Calls_1 rest_1 Pre_1 Post := by
  intro l hfl _ _ p e ha hc hk s m args below hf hA hF happ hP
  obtain ⟨hcalls, hrest, hpre⟩ := hP
  obtain ⟨-, -, -, hnamed, -, -, -, hat⟩ := (Spec.applies_iff hf).mp happ
  obtain ⟨hg, hn⟩ := and_e (Cond.before_iff.mp (show (Jvm.Cond.and given_1 narrow_1).before args s = true from hpre))
  obtain ⟨gc, g0⟩ := and_e hg
  have k0 := g0
  obtain ⟨w0, rfl⟩ : ∃ w0 : Value, args = #[w0] := by
    have hs : args.size = 1 := by simpa [Cond.value, given_1] using gc
    obtain ⟨L⟩ := args
    match L, hs with
    | [w0], _ => exact ⟨w0, rfl⟩
  have hw := fun d (hd : d ∈ tables_1) => atoms_spec (ws := Jvm.Cond.code x code maxLocals ret :: tables_1) hat d (List.mem_cons_of_mem _ hd)
  obtain ⟨i0, ei0⟩ := is_v k0
  obtain rfl : w0 = (.int i0) := Option.some.inj ei0
  obtain ⟨n, o, h1, h2, h3, _, L, rfl, ⟨rfl, N⟩, hq⟩ := rm0 l s _ hw tables_1 i0 s.heap s.heap.size (Nat.le_refl _) (own_law i0) p e ha hc hk s m _ below hf ((Spec.applies_iff_loose hf).mp happ).1 ⟨rfl, State.Warmed39.refl s, rfl⟩ trivial
  refine ⟨n, _, h1, h2, h3, hpost _ _ _ _ _ _ ⟨Cond.after_iff.mpr rfl, Cond.after_iff.mpr (eq_i res_at (Term.int_eval (1)) rfl), trivial⟩ ⟨hq.1, hq.2.1, (hq.2.2.sift fun y hy => Or.inr (N y hy)).mono (by decide) (by decide)⟩⟩
theorem main_1_1 : Claimed_1_1 := comes_1 fun _ _ _ _ _ _ h hF => ⟨h.1, hF⟩
theorem main_1_2 : Claimed_1_2 := comes_1 fun _ _ _ _ _ _ h hF => ⟨h.2.1, hF⟩
end Jvm.Pilot.@@N@@
namespace Jvm.Pilot.@@N@@
open Jvm Jvm.ClassFile Sem Op Lib Jvm.Free Jvm.Stand Jvm.Pilot.@@N@@.Jvm.D
/-! MADE BY PROGRAM (witnessworld.py) out of the Statement's table words and the real class files: 9 classes; the members and pool entries that the words name. The judged class is class 1, her method 1. -/
namespace start1
open Jvm.ClassFile
def u (s : String) : CpInfo := .utf8 (stringToUtf16 s)
/-- a pool by its gaps: so many unusable entries, then the entry; so many at the end -/
def gap : Nat → List CpInfo → List CpInfo
  | 0, r => r
  | n + 1, r => .unusable :: gap n r
def poolList (es : List (Nat × CpInfo)) (last : Nat) : List CpInfo := es.foldr (fun e r => gap e.1 (e.2 :: r)) (gap last [])
def pool (es : List (Nat × CpInfo)) (last : Nat) : Array CpInfo := ⟨poolList es last⟩
def fileOf (pool : Array CpInfo) (this : Nat) (attrs : Array Attribute := #[]) (ms : Array MethodInfo := #[]) (fl : Nat := 33) (sup : Nat := 0) (ifs : Array Nat := #[]) (fds : Array FieldInfo := #[]) : ClassFile where
  minorVersion := 0
  majorVersion := 65
  constantPool := pool
  accessFlags := fl
  thisClass := this
  superClass := sup
  interfaces := ifs
  fields := fds
  methods := ms
  attributes := attrs
def plain (name : String) (sup : Option ClassId) : Class where
  name := name
  kind := .ordinary
  loader := none
  accessFlags := 33
  super := sup
  interfaces := #[]
  cf := none
  fields := #[]
  methods := #[]
  instanceTypes := #[]
  staticTypes := #[]
  resolved := #[]
  callSites := []
  init := .initialized
  statics := none
  mirror := none

def pool0 : Array CpInfo := pool [(5, u "<init>"), (0, u "()V"), (1, .class_ 10), (1, u "java/lang/Object")] 113

def k0m0 : Method := { name := "<init>", desc := "()V", sig := { parameters := [], returnType := none }, accessFlags := 1, code := none }
/-- java/lang/Object -/
def k0 : Class := { plain "java/lang/Object" none with
  accessFlags := 33
  interfaces := #[]
  cf := some (fileOf pool0 8 #[] #[{ accessFlags := 1, nameIndex := 5, descriptorIndex := 6, attributes := #[] }] 33 0 #[] #[])
  fields := #[]
  methods := #[k0m0]
  instanceTypes := #[]
  staticTypes := #[]
  resolved := Array.replicate 124 none
  statics := none }

def pool1 : Array CpInfo := pool [(2, .class_ 4), (1, u "java/lang/Object"), (0, u "<init>"), (0, u "()V"), (0, .long 97), (1, .long 26), (1, .methodref 12 13), (0, .class_ 14), (0, .nameAndType 15 16), (0, u "com/example/libreadies/libreadies/SourceText"), (0, u "isLabelStart"), (0, u "(I)Z"), (0, .class_ 18), (0, u "com/example/libreadies/libreadies/SourceTextIsLabelStartPinLaw"), (2, u "law")] 3

def k1m0 : Method := { name := "<init>", desc := "()V", sig := { parameters := [], returnType := none }, accessFlags := 2, code := none }
def k1c1 : Code := { maxStack := 4, maxLocals := 5, code := code, exceptionTable := #[], attributes := #[] }
def k1m1 : Method := { name := "law", desc := "(I)Z", sig := { parameters := [.int], returnType := some .boolean }, accessFlags := 9, code := some k1c1 }
/-- com/example/libreadies/libreadies/SourceTextIsLabelStartPinLaw -/
def k1 : Class := { plain "com/example/libreadies/libreadies/SourceTextIsLabelStartPinLaw" (some 0) with
  accessFlags := 49
  interfaces := #[]
  cf := some (fileOf pool1 17 #[] #[{ accessFlags := 2, nameIndex := 5, descriptorIndex := 6, attributes := #[] }, { accessFlags := 9, nameIndex := 21, descriptorIndex := 16, attributes := #[] }] 49 2 #[] #[])
  fields := #[]
  methods := #[k1m0, k1m1]
  instanceTypes := #[]
  staticTypes := #[]
  resolved := Array.replicate 25 none
  statics := none }

def pool2 : Array CpInfo := pool [(2, .class_ 4), (1, u "java/lang/Object"), (0, u "<init>"), (0, u "()V"), (1, .class_ 10), (1, u "com/example/libreadies/libreadies/SourceText"), (0, u "isLabelStart"), (0, u "(I)Z"), (53, .class_ 67), (0, u "com/example/libreadies/libreadies/SourceText$Lines"), (29, u "LINE_BREAK_IN_LABEL"), (0, u "Ljava/lang/String;"), (3, u "EMPTY_LABEL"), (2, u "QUOTE_HINT"), (2, u "NOT_UTF_8"), (2, u "BYTE_ORDER_MARK"), (22, .class_ 135), (0, u "com/example/libreadies/libreadies/SourceText$Cursor")] 17

def k2m0 : Method := { name := "<init>", desc := "()V", sig := { parameters := [], returnType := none }, accessFlags := 2, code := none }
def k2c1 : Code := { maxStack := 2, maxLocals := 1, code := prog_55_method_2_code, exceptionTable := #[], attributes := #[] }
def k2m1 : Method := { name := "isLabelStart", desc := "(I)Z", sig := { parameters := [.int], returnType := some .boolean }, accessFlags := 8, code := some k2c1 }
/-- com/example/libreadies/libreadies/SourceText -/
def k2 : Class := { plain "com/example/libreadies/libreadies/SourceText" (some 0) with
  accessFlags := 48
  interfaces := #[]
  cf := some (fileOf pool2 8 #[.nestMembers #[134, 66]] #[{ accessFlags := 2, nameIndex := 5, descriptorIndex := 6, attributes := #[] }, { accessFlags := 8, nameIndex := 11, descriptorIndex := 12, attributes := #[] }] 48 2 #[] #[{ accessFlags := 24, nameIndex := 97, descriptorIndex := 98, attributes := #[] }, { accessFlags := 24, nameIndex := 102, descriptorIndex := 98, attributes := #[] }, { accessFlags := 24, nameIndex := 105, descriptorIndex := 98, attributes := #[] }, { accessFlags := 26, nameIndex := 108, descriptorIndex := 98, attributes := #[] }, { accessFlags := 26, nameIndex := 111, descriptorIndex := 98, attributes := #[] }])
  fields := #[{ name := "LINE_BREAK_IN_LABEL", type := (.object "java/lang/String"), accessFlags := 24, slot := 0, constantValue := 0 }, { name := "EMPTY_LABEL", type := (.object "java/lang/String"), accessFlags := 24, slot := 1, constantValue := 0 }, { name := "QUOTE_HINT", type := (.object "java/lang/String"), accessFlags := 24, slot := 2, constantValue := 0 }, { name := "NOT_UTF_8", type := (.object "java/lang/String"), accessFlags := 26, slot := 3, constantValue := 0 }, { name := "BYTE_ORDER_MARK", type := (.object "java/lang/String"), accessFlags := 26, slot := 4, constantValue := 0 }]
  methods := #[k2m0, k2m1]
  instanceTypes := #[]
  staticTypes := #[(.object "java/lang/String"), (.object "java/lang/String"), (.object "java/lang/String"), (.object "java/lang/String"), (.object "java/lang/String")]
  resolved := Array.replicate 153 none
  statics := none }

def pool3 : Array CpInfo := pool [(1, u "java/lang/Cloneable"), (0, .class_ 1), (0, u "java/lang/Object"), (0, .class_ 3)] 3

/-- java/lang/Cloneable -/
def k3 : Class := { plain "java/lang/Cloneable" (some 0) with
  accessFlags := 1537
  interfaces := #[]
  cf := some (fileOf pool3 2 #[] #[] 1537 4 #[] #[])
  fields := #[]
  methods := #[]
  instanceTypes := #[]
  staticTypes := #[]
  resolved := Array.replicate 8 none
  statics := none }

def pool4 : Array CpInfo := pool [(1, u "java/io/Serializable"), (0, .class_ 1), (0, u "java/lang/Object"), (0, .class_ 3)] 3

/-- java/io/Serializable -/
def k4 : Class := { plain "java/io/Serializable" (some 0) with
  accessFlags := 1537
  interfaces := #[]
  cf := some (fileOf pool4 2 #[] #[] 1537 4 #[] #[])
  fields := #[]
  methods := #[]
  instanceTypes := #[]
  staticTypes := #[]
  resolved := Array.replicate 8 none
  statics := none }

/-- the primitive byte -/
def k5 : Class := { plain "byte" none with kind := .primitive 'B', accessFlags := 0x411 }
/-- [B -/
def k6 : Class := { plain "[B" (some 0) with kind := .array 5 .byte, interfaces := #[3, 4], accessFlags := 1041 }

/-- the primitive int -/
def k7 : Class := { plain "int" none with kind := .primitive 'I', accessFlags := 0x411 }
/-- [I -/
def k8 : Class := { plain "[I" (some 0) with kind := .array 7 .int, interfaces := #[3, 4], accessFlags := 1041 }

def heap : Heap := #[]
def classes : Array Class := #[k0, k1, k2, k3, k4, k5, k6, k7, k8]
def interned : List (Array UInt16 × Addr) := []
def slotsUsed : Nat := 0
def theMethod : MethodId := ⟨1, 1⟩
def args0 : Array Value := #[.int 5]
def aboutOver (below : List Frame) : State where
  vm := { classes := classes, interned := interned.toArray }
  heap := heap
  slotsUsed := slotsUsed
  threads := #[{ frames := .invoking theMethod args0 :: below }]
def below0 : List Frame := [.native { method := ⟨0, 0⟩, args := #[] }]
def about1 : State := aboutOver below0
def p0 : Program := .bare "" "" ""
def e0 : Env := launch0.env 0 0 0
theorem w_frames : about1.frames = Frame.invoking theMethod args0 :: below0 := rfl
set_option maxRecDepth 65536 in
theorem w_args : argsFit about1.vm theMethod args0 = true := by decide +kernel
set_option maxRecDepth 65536 in
theorem w_heap : heapFits about1 = true := by decide +kernel
set_option maxRecDepth 65536 in
theorem w_runnable : about1.curStatus? = some .runnable := by decide +kernel
set_option maxRecDepth 65536 in
theorem w_alone : about1.alone = true := by decide +kernel
set_option maxRecDepth 65536 in
theorem w_named : about1.methodNamed? x = some theMethod := by decide +kernel
set_option maxRecDepth 65536 in
theorem w_hears : about1.hears theMethod below0 = true := by decide +kernel
set_option maxRecDepth 65536 in
theorem w_ripe : about1.ripe theMethod args0 below0 = true := by decide +kernel
theorem w_running : about1.status = .running := rfl
set_option maxRecDepth 65536 in
theorem w_room : about1.hasRoom e0.platform room_1 = true :=
  launch0.hasRoom_least _ room_1 (by decide +kernel) (by decide +kernel) (by decide +kernel) (by decide +kernel) (by decide +kernel) (by decide +kernel)
theorem allAtoms_all (ts : List Jvm.Cond) (a : Array Jvm.Value) (st : Jvm.State) : (allAtoms ts).before a st = ts.all (fun c => c.before a st) := by
  induction ts with
  | nil => rfl
  | cons c t ih =>
    show (Jvm.Cond.and c (allAtoms t)).before a st = _
    rw [Jvm.Cond.before_and, ih, List.all_cons]
def words1 : List Jvm.Cond := Jvm.Cond.code x code maxLocals ret :: tables_1
/-- a 'code' word, met by the world's own term for the bytes: nothing is compared byte by byte -/
theorem code_word {y : MethodName} {bytes : ByteArray} {mx : Nat} {rt : Option FieldType} {a : Array Value} {s : State} {m : MethodId} {meth : Method} {c : Code} (h1 : s.methodNamed? y = some m) (h2 : s.vm.method? m = some meth) (h3 : meth.code = some c) (h4 : c.code = bytes)
    (h5 : (c.maxLocals == mx && c.exceptionTable.isEmpty && decide (c.maxStack ≤ mostOperands) && decide (meth.sig.returnType = rt) && !meth.locks && decide (parseMethodDescriptor y.desc = some meth.sig)) = true) : (Jvm.Cond.code y bytes mx rt).before a s = true := by
  simp only [Bool.and_eq_true, beq_iff_eq, Bool.not_eq_true', decide_eq_true_eq] at h5
  obtain ⟨⟨⟨⟨⟨g1, g2⟩, g3⟩, g4⟩, g5⟩, g6⟩ := h5
  simp [Cond.before, Cond.holds, Cond.value, h1, h2, h3, h4, g1, g2, g3, g4, g5, g6]
def isCode : Jvm.Cond → Bool
  | .code _ _ _ _ => true
  | _ => false
theorem all_split {L : List Jvm.Cond} {P : Jvm.Cond → Bool} (h1 : L.all (fun c => isCode c || P c) = true) (h2 : ∀ c ∈ L.filter isCode, P c = true) : L.all P = true := by
  refine List.all_eq_true.mpr fun c hc => ?_
  have h := List.all_eq_true.mp h1 c hc
  rcases Bool.eq_false_or_eq_true (isCode c) with hi | hi
  · exact h2 c (List.mem_filter.mpr ⟨hc, hi⟩)
  · simpa [hi] using h
set_option maxRecDepth 65536 in
theorem w_c0 : (Jvm.Cond.code x code maxLocals ret).before args0 about1 = true := code_word (m := ⟨1, 1⟩) (meth := k1m1) (c := k1c1) (by decide +kernel) rfl rfl rfl (by decide +kernel)
set_option maxRecDepth 65536 in
theorem w_c1 : (Jvm.Cond.code ({ cls := "com/example/libreadies/libreadies/SourceText", name := "isLabelStart", desc := "(I)Z" } : Jvm.MethodName) prog_55_method_2_code (1 : Nat) (Option.some Jvm.ClassFile.FieldType.boolean)).before args0 about1 = true := code_word (m := ⟨2, 1⟩) (meth := k2m1) (c := k2c1) (by decide +kernel) rfl rfl rfl (by decide +kernel)
def codes1 : List Jvm.Cond := [Jvm.Cond.code x code maxLocals ret, Jvm.Cond.code ({ cls := "com/example/libreadies/libreadies/SourceText", name := "isLabelStart", desc := "(I)Z" } : Jvm.MethodName) prog_55_method_2_code (1 : Nat) (Option.some Jvm.ClassFile.FieldType.boolean)]
set_option maxRecDepth 65536 in
theorem codes_eq : words1.filter isCode = codes1 := rfl
theorem w_codes : ∀ c ∈ words1.filter isCode, c.before args0 about1 = true := by
  rw [codes_eq]
  intro c hc
  simp only [codes1, List.mem_cons, List.not_mem_nil, or_false] at hc
  rcases hc with rfl | rfl
  · exact w_c0
  · exact w_c1
set_option maxRecDepth 65536 in
theorem w_t1 : words1.all (fun c => isCode c || c.before args0 about1) = true := by decide +kernel
theorem w_tables : (allAtoms (Jvm.Cond.code x code maxLocals ret :: tables_1)).before args0 about1 = true := by
  rw [allAtoms_all]
  show words1.all (fun c => c.before args0 about1) = true
  refine all_split ?_ w_codes
  rw [w_t1]
set_option maxRecDepth 65536 in
theorem w_case : (Jvm.Cond.and given_1 narrow_1).before args0 about1 = true := by decide +kernel
theorem w_applies : (headSpec (Jvm.Cond.code x code maxLocals ret :: tables_1) room_1).applies x e0.platform about1 = true :=
  (Spec.applies_iff w_frames).mpr ⟨w_running, w_runnable, w_alone, w_named, w_hears, w_ripe, w_room, w_tables⟩
theorem atStart : AtStart classFile x code maxLocals ret World_1 tables_1 room_1 Calls_1 rest_1 Pre_1 launch0 p0 e0 about1 theMethod args0 below0 :=
  ⟨lists_1, trivial, launch0.admits_env _ _ _, launch0.least_env, fairChoices_fair.cas, fairChoices_fair.clock, w_frames, w_args, w_heap, w_applies, trivial, trivial, w_case⟩
end start1
theorem witness_1 : WitnessClaimed_1 := ⟨start1.p0, start1.e0, start1.about1, start1.theMethod, start1.args0, start1.below0, start1.atStart⟩
end Jvm.Pilot.@@N@@
