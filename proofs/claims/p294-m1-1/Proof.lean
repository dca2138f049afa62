import JvmDerived
import JvmDerived.Pilot.@@N@@Statement
import JvmDerived.Pilot.@@N@@Code
set_option linter.unusedVariables false
set_option linter.unusedSimpArgs false
namespace Jvm.RoadKit
open Sem ClassFile Op Lib Jvm.Stand Jvm.Free Jvm.LawKit
section New
variable {p : Program} {l : Launch} {e : Env} {R : Room} {s : State} {m : MethodId} {args : Array Value} {below : List Frame} {meth : Method} {c : Code} {T : State} {locs : List Loc} {cells slots : Nat}
theorem retI (X : Stand p l e R s m args below meth c T locs cells slots) (hx : p.tables.exec = Jvm.exec) {pc : Nat} {Ls : Array Slot} {z : Int32} {rest : List Value} (hret : meth.sig.returnType = some .int) (hd : decode c.code pc = .ok (.ireturn, 1)) {fs : List Frame}
    (hl : ∀ (f : JFrame) (acts : List Action), f.method = m → f.locked = none → f.entered = [] → (doReturn e (T.setTop f) acts (some (.int z))).1 = T.setFrames fs) : Steps p.tables e below (T.setTop (mkF m pc Ls (.int z :: rest))) (T.setFrames fs) := by
  have hm' : T.vm.method? m = some meth := X.method'
  have hn : narrow .int (.int z) = .int z := rfl
  show Steps p.tables e below (T.setTop { method := m, pc := pc, locals := Ls, stack := _ :: rest, locked := none }) _
  jvm_step X.here [X.here.top, hx, hd, hm', hret, hn]
  first | (intro acts; rw [hl _ acts rfl rfl rfl]) | rw [hl _ _ rfl rfl rfl]
  exact Steps.refl _
end New
end Jvm.RoadKit
namespace Jvm.Pilot.@@N@@
open Jvm Jvm.ClassFile Sem Op Lib Jvm.Free Jvm.Stand Jvm.LawKit Jvm.RoadKit Bundle Jvm.Pilot.@@N@@.Jvm.D
theorem pd0 : parseMethodDescriptor "()V" = some ⟨[], none⟩ := by decide +kernel
theorem pd1 : parseMethodDescriptor "(II)I" = some ⟨[.int, .int], some .int⟩ := by decide +kernel
theorem pd2 : parseMethodDescriptor "(IIII)V" = some ⟨[.int, .int, .int, .int], none⟩ := by decide +kernel
theorem pd3 : parseMethodDescriptor "()I" = some ⟨[], some .int⟩ := by decide +kernel
theorem d1_0 : decode jdk_29_method_65_code 0 = .ok (.iload_n 0, 1) := by decide +kernel
theorem d1_1 : decode jdk_29_method_65_code 1 = .ok (.iload_n 1, 1) := by decide +kernel
theorem d1_2 : decode jdk_29_method_65_code 2 = .ok (.if_icmp .lt 7, 3) := by decide +kernel
theorem d1_5 : decode jdk_29_method_65_code 5 = .ok (.iload_n 0, 1) := by decide +kernel
theorem d1_6 : decode jdk_29_method_65_code 6 = .ok (.goto 4, 3) := by decide +kernel
theorem d1_9 : decode jdk_29_method_65_code 9 = .ok (.iload_n 1, 1) := by decide +kernel
theorem d1_10 : decode jdk_29_method_65_code 10 = .ok (.ireturn, 1) := by decide +kernel
def F1_9 (v1 : Int32) : Int32 := v1
theorem b1_9 {p : Program} {l : Launch} {e : Env} {R : Room} {s : State} {m : MethodId} {args : Array Value} {below : List Frame} {meth : Method} {c : Code} {T : State} {locs : List Loc} {cells slots : Nat} {Z : State} {a0 : Array Value} (X : Stand p l e R s m args below meth c T locs cells slots) (hx : p.tables.exec = Jvm.exec) (hZ : Z.Warmed39 s.vm) (hw : ∀ d ∈ tables_1, d.before a0 Z = true) (hby : c.code = jdk_29_method_65_code) (hown : s.vm.findClass "java/lang/Math" = some m.cls) (v0 : Int32) (v1 : Int32) (hret : meth.sig.returnType = some .int) {fs : List Frame} (hr : ∀ (f : JFrame) (acts : List Action), f.method = m → f.locked = none → f.entered = [] → (doReturn e (T.setTop f) acts (some (.int (F1_9 v1)))).1 = T.setFrames fs) : Steps p.tables e below (T.setTop (mkF m 9 #[.val (.int v0), .val (.int v1)] [])) (T.setFrames fs) := by
  show Steps p.tables e below (T.setTop (mkF m 9 #[.val (.int v0), .val (.int v1)] [])) _
  refine XS.iloadN X.here hx rfl (hb hby d1_9) rfl ?_
  show Steps p.tables e below (T.setTop (mkF m 10 #[.val (.int v0), .val (.int v1)] [(.int v1)])) _
  rw [show (F1_9 v1) = v1 from rfl] at hr
  exact retI X hx hret (hb hby d1_10) hr
def F1_5 (v0 : Int32) : Int32 := v0
theorem b1_5 {p : Program} {l : Launch} {e : Env} {R : Room} {s : State} {m : MethodId} {args : Array Value} {below : List Frame} {meth : Method} {c : Code} {T : State} {locs : List Loc} {cells slots : Nat} {Z : State} {a0 : Array Value} (X : Stand p l e R s m args below meth c T locs cells slots) (hx : p.tables.exec = Jvm.exec) (hZ : Z.Warmed39 s.vm) (hw : ∀ d ∈ tables_1, d.before a0 Z = true) (hby : c.code = jdk_29_method_65_code) (hown : s.vm.findClass "java/lang/Math" = some m.cls) (v0 : Int32) (v1 : Int32) (hret : meth.sig.returnType = some .int) {fs : List Frame} (hr : ∀ (f : JFrame) (acts : List Action), f.method = m → f.locked = none → f.entered = [] → (doReturn e (T.setTop f) acts (some (.int (F1_5 v0)))).1 = T.setFrames fs) : Steps p.tables e below (T.setTop (mkF m 5 #[.val (.int v0), .val (.int v1)] [])) (T.setFrames fs) := by
  show Steps p.tables e below (T.setTop (mkF m 5 #[.val (.int v0), .val (.int v1)] [])) _
  refine XS.iloadN X.here hx rfl (hb hby d1_5) rfl ?_
  show Steps p.tables e below (T.setTop (mkF m 6 #[.val (.int v0), .val (.int v1)] [(.int v0)])) _
  refine XS.goto X.here hx rfl (pc0 := 6) (pc' := 10) rfl (hb hby d1_6) (by decide) (by decide) ?_
  show Steps p.tables e below (T.setTop (mkF m 10 #[.val (.int v0), .val (.int v1)] [(.int v0)])) _
  rw [show (F1_5 v0) = v0 from rfl] at hr
  exact retI X hx hret (hb hby d1_10) hr
def F1_0 (v0 : Int32) (v1 : Int32) : Int32 := if v0 < v1 then (F1_9 v1) else (F1_5 v0)
theorem b1_0 {p : Program} {l : Launch} {e : Env} {R : Room} {s : State} {m : MethodId} {args : Array Value} {below : List Frame} {meth : Method} {c : Code} {T : State} {locs : List Loc} {cells slots : Nat} {Z : State} {a0 : Array Value} (X : Stand p l e R s m args below meth c T locs cells slots) (hx : p.tables.exec = Jvm.exec) (hZ : Z.Warmed39 s.vm) (hw : ∀ d ∈ tables_1, d.before a0 Z = true) (hby : c.code = jdk_29_method_65_code) (hown : s.vm.findClass "java/lang/Math" = some m.cls) (v0 : Int32) (v1 : Int32) (hret : meth.sig.returnType = some .int) {fs : List Frame} (hr : ∀ (f : JFrame) (acts : List Action), f.method = m → f.locked = none → f.entered = [] → (doReturn e (T.setTop f) acts (some (.int (F1_0 v0 v1)))).1 = T.setFrames fs) : Steps p.tables e below (T.setTop (mkF m 0 #[.val (.int v0), .val (.int v1)] [])) (T.setFrames fs) := by
  show Steps p.tables e below (T.setTop (mkF m 0 #[.val (.int v0), .val (.int v1)] [])) _
  refine XS.iloadN X.here hx rfl (hb hby d1_0) rfl ?_
  show Steps p.tables e below (T.setTop (mkF m 1 #[.val (.int v0), .val (.int v1)] [(.int v0)])) _
  refine XS.iloadN X.here hx rfl (hb hby d1_1) rfl ?_
  show Steps p.tables e below (T.setTop (mkF m 2 #[.val (.int v0), .val (.int v1)] [(.int v1), (.int v0)])) _
  by_cases hc : v0 < v1
  · rw [show (F1_0 v0 v1) = (F1_9 v1) from if_pos hc] at hr
    refine XS.icmpYes X.here hx rfl (pc0 := 2) (pc' := 9) rfl (hb hby d1_2) rfl (tlt hc).1 (by decide) (by decide) ?_
    exact b1_9 X hx hZ hw hby hown v0 v1 hret hr
  · rw [show (F1_0 v0 v1) = (F1_5 v0) from if_neg hc] at hr
    refine XS.icmpNo X.here hx rfl (hb hby d1_2) rfl (flt hc).1 ?_
    exact b1_5 X hx hZ hw hby hown v0 v1 hret hr
theorem ef_1 (m : MethodId) (p0 : Int32) (p1 : Int32) : entryFrame m #[(.int p0), (.int p1)] 2 = mkF m 0 #[.val (.int p0), .val (.int p1)] [] := by first | (simp [entryFrame, mkF, argsToLocals, Value.category]; done) | rfl
def Q_rm1 (Z : State) (p0 : Int32) (p1 : Int32) (h0 : Heap) (n0 : Nat) (v : Option Value) (h : Heap) (L : List Loc) : Prop := (v = some (.int (F1_0 p0 p1)) ∧ Fr n0 L ∧ h = h0)
set_option maxRecDepth 65536 in
set_option maxHeartbeats 40000000 in
theorem rm1 (l : Launch) (Z : State) (a0 : Array Value) (hw : ∀ d ∈ tables_1, d.before a0 Z = true) (ws : List Jvm.Cond) (p0 : Int32) (p1 : Int32) (h0 : Heap) (n0 : Nat) (Z0 : n0 ≤ h0.size) :
    MetFree l (⟨"java/lang/Math", "max", "(II)I"⟩ : MethodName) (head1 (Jvm.Cond.code (⟨"java/lang/Math", "max", "(II)I"⟩ : MethodName) jdk_29_method_65_code 2 (some .int) :: ws) ({ frames := 0, cells := 0, slots := 0, locals := 0 } : Room)) (fun a U => a = #[(.int p0), (.int p1)] ∧ Z.Warmed39 U.vm ∧ U.heap = h0) (fun _ _ _ _ _ => True) (fun _ U o U' => ∃ v L, o = .returned v ∧ Q_rm1 Z p0 p1 h0 n0 v U'.heap L ∧ FrameEnd U o U' L ({ frames := 0, cells := 0, slots := 0, locals := 0 } : Room).cells ({ frames := 0, cells := 0, slots := 0, locals := 0 } : Room).slots) := by
  refine MetFree.of_bodySF (Jvm.Free.JP.mathPlain rfl (by decide +kernel)) hisR ?_
  intro p e s m args below meth c s₁ Bd hml0 hP hK
  obtain ⟨rfl, hZ, hh⟩ := hP
  have hx := Bd.exec
  have hby := Bd.bytes
  have hml : c.maxLocals = 2 := hml0
  have hown : s.vm.findClass "java/lang/Math" = some m.cls := findClass_of_methodNamed Bd.named
  have hnm := (name_of_methodNamed Bd.named Bd.method).1
  have X0 : Stand p l e ({ frames := 0, cells := 0, slots := 0, locals := 0 } : Room) s m #[(.int p0), (.int p1)] below meth c s₁ [] 0 0 := Stand.of_body Bd
  have e0 : s₁.heap = h0 := by rw [← hh, Bd.state]; rfl
  have N0 := Fr.nil n0
  have pre0 : ∀ t, Steps p.tables e below (s₁.setTop (mkF m 0 #[.val (.int p0), .val (.int p1)] [])) t → Steps p.tables e below (s₁.setTop (entryFrame m #[(.int p0), (.int p1)] 2)) t := fun t k => castTop (ef_1 m p0 p1) k
  obtain ⟨fs, hr, hrun, hended, hW, hsame⟩ := X0.leave (v := some (.int (F1_0 p0 p1))) (fun h => by rw [Bd.returns] at h; cases h)
  refine ⟨_, _, pre0 _ ?_, hrun, hended, _, _, rfl, ⟨rfl, N0, e0⟩, ⟨_, rfl⟩, hW, hsame.mono (by decide) (by decide)⟩
  exact b1_0 X0 hx hZ hw hby hown p0 p1 Bd.returns hr
theorem d3_0 : decode jdk_30_method_1_code 0 = .ok (.aload_n 0, 1) := by decide +kernel
theorem d3_1 : decode jdk_30_method_1_code 1 = .ok (.invokespecial 1, 3) := by decide +kernel
theorem d3_4 : decode jdk_30_method_1_code 4 = .ok (.return_, 1) := by decide +kernel
theorem pn_3 : plainName "java/lang/Record" = true := by first | (simp [plainName, overriddenIn]; done) | decide +kernel
theorem ef_3 (m : MethodId) (r0 : Addr) : entryFrame m #[(.ref r0)] 1 = mkF m 0 #[.val (.ref r0)] [] := by first | (simp [entryFrame, mkF, argsToLocals, Value.category]; done) | rfl
def Q_rm3 (Z : State) (r0 : Addr) (h0 : Heap) (n0 : Nat) (v : Option Value) (h : Heap) (L : List Loc) : Prop := (v = none ∧ Fr n0 L ∧ h = h0)
set_option maxRecDepth 65536 in
set_option maxHeartbeats 40000000 in
theorem rm3 (l : Launch) (Z : State) (a0 : Array Value) (hw : ∀ d ∈ tables_1, d.before a0 Z = true) (ws : List Jvm.Cond) (r0 : Addr) (h0 : Heap) (n0 : Nat) (Z0 : n0 ≤ h0.size) :
    MetFree l (⟨"java/lang/Record", "<init>", "()V"⟩ : MethodName) (head1 (Jvm.Cond.code (⟨"java/lang/Record", "<init>", "()V"⟩ : MethodName) jdk_30_method_1_code 1 none :: ws) ({ frames := 1, cells := 0, slots := 0, locals := 12 } : Room)) (fun a U => a = #[(.ref r0)] ∧ Z.Warmed39 U.vm ∧ U.heap = h0) (fun _ _ _ _ _ => True) (fun _ U o U' => ∃ v L, o = .returned v ∧ Q_rm3 Z r0 h0 n0 v U'.heap L ∧ FrameEnd U o U' L ({ frames := 1, cells := 0, slots := 0, locals := 12 } : Room).cells ({ frames := 1, cells := 0, slots := 0, locals := 12 } : Room).slots) := by
  refine MetFree.of_bodySF (plainFor_of_name pn_3) hisR ?_
  intro p e s m args below meth c s₁ Bd hml0 hP hK
  obtain ⟨rfl, hZ, hh⟩ := hP
  have hx := Bd.exec
  have hby := Bd.bytes
  have hml : c.maxLocals = 1 := hml0
  have hown : s.vm.findClass "java/lang/Record" = some m.cls := findClass_of_methodNamed Bd.named
  have hnm := (name_of_methodNamed Bd.named Bd.method).1
  have X0 : Stand p l e ({ frames := 1, cells := 0, slots := 0, locals := 12 } : Room) s m #[(.ref r0)] below meth c s₁ [] 0 0 := Stand.of_body Bd
  have e0 : s₁.heap = h0 := by rw [← hh, Bd.state]; rfl
  have N0 := Fr.nil n0
  have pre0 : ∀ t, Steps p.tables e below (s₁.setTop (mkF m 0 #[.val (.ref r0)] [])) t → Steps p.tables e below (s₁.setTop (entryFrame m #[(.ref r0)] 1)) t := fun t k => castTop (ef_3 m r0) k
  obtain ⟨T1, X1, e1, st1⟩ := initO X0 hx hZ hown (hw _ (List.mem_of_getElem? (i := 17) rfl)) (hw _ (List.mem_of_getElem? (i := 18) rfl)) (hw _ (List.mem_of_getElem? (i := 19) rfl)) e0 (g := (mkF m 1 #[.val (.ref r0)] [(.ref r0)])) rfl (by rw [hml]; rfl) rfl (hb hby d3_1) (by decide) (W := 0) (by show 2 * 0 + _ ≤ _; exact Nat.le_of_eq rfl) (by decide)
  obtain ⟨fs, hr, hrun, hended, hW, hsame⟩ := X1.leave (v := none) (fun _ => rfl)
  refine ⟨_, _, pre0 _ ?_, hrun, hended, _, _, rfl, ⟨rfl, N0, e1⟩, ⟨_, rfl⟩, hW, hsame.mono (by decide) (by decide)⟩
  show Steps p.tables e below (s₁.setTop (mkF m 0 #[.val (.ref r0)] [])) _
  refine XS.aloadN X0.here hx rfl (hb hby d3_0) rfl rfl ?_
  show Steps p.tables e below (s₁.setTop (mkF m 1 #[.val (.ref r0)] [(.ref r0)])) _
  refine st1 _ ?_
  show Steps p.tables e below (T1.setTop (mkF m 4 #[.val (.ref r0)] [])) _
  exact X1.returnOut hx Bd.returns (hb hby d3_4) hr
theorem d2_0 : decode prog_12_method_1_code 0 = .ok (.aload_n 0, 1) := by decide +kernel
theorem d2_1 : decode prog_12_method_1_code 1 = .ok (.invokespecial 1, 3) := by decide +kernel
theorem d2_4 : decode prog_12_method_1_code 4 = .ok (.aload_n 0, 1) := by decide +kernel
theorem d2_5 : decode prog_12_method_1_code 5 = .ok (.iload_n 1, 1) := by decide +kernel
theorem d2_6 : decode prog_12_method_1_code 6 = .ok (.putfield 7, 3) := by decide +kernel
theorem d2_9 : decode prog_12_method_1_code 9 = .ok (.aload_n 0, 1) := by decide +kernel
theorem d2_10 : decode prog_12_method_1_code 10 = .ok (.iload_n 2, 1) := by decide +kernel
theorem d2_11 : decode prog_12_method_1_code 11 = .ok (.putfield 13, 3) := by decide +kernel
theorem d2_14 : decode prog_12_method_1_code 14 = .ok (.aload_n 0, 1) := by decide +kernel
theorem d2_15 : decode prog_12_method_1_code 15 = .ok (.iload_n 3, 1) := by decide +kernel
theorem d2_16 : decode prog_12_method_1_code 16 = .ok (.putfield 16, 3) := by decide +kernel
theorem d2_19 : decode prog_12_method_1_code 19 = .ok (.aload_n 0, 1) := by decide +kernel
theorem d2_20 : decode prog_12_method_1_code 20 = .ok (.iload 4, 2) := by decide +kernel
theorem d2_22 : decode prog_12_method_1_code 22 = .ok (.putfield 19, 3) := by decide +kernel
theorem d2_25 : decode prog_12_method_1_code 25 = .ok (.return_, 1) := by decide +kernel
theorem pn_2 : plainName "com/example/reroster/reroster/cli/GtfsFrequencies$Period" = true := by first | (simp [plainName, overriddenIn]; done) | decide +kernel
theorem ef_2 (m : MethodId) (r0 : Addr) (p1 : Int32) (p2 : Int32) (p3 : Int32) (p4 : Int32) : entryFrame m #[(.ref r0), (.int p1), (.int p2), (.int p3), (.int p4)] 5 = mkF m 0 #[.val (.ref r0), .val (.int p1), .val (.int p2), .val (.int p3), .val (.int p4)] [] := by first | (simp [entryFrame, mkF, argsToLocals, Value.category]; done) | rfl
def Q_rm2 (Z : State) (r0 : Addr) (p1 : Int32) (p2 : Int32) (p3 : Int32) (p4 : Int32) (h0 : Heap) (n0 : Nat) (v : Option Value) (h : Heap) (L : List Loc) : Prop := (v = none ∧ Fr n0 L ∧ Keep h0 h [r0] ∧ Exa Z h r0 "com/example/reroster/reroster/cli/GtfsFrequencies$Period" ∧ Fld Z h r0 "com/example/reroster/reroster/cli/GtfsFrequencies$Period" "start" "I" (.int p1) ∧ Fld Z h r0 "com/example/reroster/reroster/cli/GtfsFrequencies$Period" "end" "I" (.int p2) ∧ Fld Z h r0 "com/example/reroster/reroster/cli/GtfsFrequencies$Period" "headway" "I" (.int p3) ∧ Fld Z h r0 "com/example/reroster/reroster/cli/GtfsFrequencies$Period" "line" "I" (.int p4))
set_option maxRecDepth 65536 in
set_option maxHeartbeats 40000000 in
theorem rm2 (l : Launch) (Z : State) (a0 : Array Value) (hw : ∀ d ∈ tables_1, d.before a0 Z = true) (ws : List Jvm.Cond) (r0 : Addr) (p1 : Int32) (p2 : Int32) (p3 : Int32) (p4 : Int32) (h0 : Heap) (n0 : Nat) (Z0 : n0 ≤ h0.size) (E0 : Exa Z h0 r0 "com/example/reroster/reroster/cli/GtfsFrequencies$Period") (F0_start : Fld Z h0 r0 "com/example/reroster/reroster/cli/GtfsFrequencies$Period" "start" "I" (.int (0 : Int32))) (F0_end : Fld Z h0 r0 "com/example/reroster/reroster/cli/GtfsFrequencies$Period" "end" "I" (.int (0 : Int32))) (F0_headway : Fld Z h0 r0 "com/example/reroster/reroster/cli/GtfsFrequencies$Period" "headway" "I" (.int (0 : Int32))) (F0_line : Fld Z h0 r0 "com/example/reroster/reroster/cli/GtfsFrequencies$Period" "line" "I" (.int (0 : Int32))) (G0 : n0 ≤ r0) :
    MetFree l (⟨"com/example/reroster/reroster/cli/GtfsFrequencies$Period", "<init>", "(IIII)V"⟩ : MethodName) (head1 (Jvm.Cond.code (⟨"com/example/reroster/reroster/cli/GtfsFrequencies$Period", "<init>", "(IIII)V"⟩ : MethodName) prog_12_method_1_code 5 none :: ws) ({ frames := 2, cells := 0, slots := 0, locals := 24 } : Room)) (fun a U => a = #[(.ref r0), (.int p1), (.int p2), (.int p3), (.int p4)] ∧ Z.Warmed39 U.vm ∧ U.heap = h0) (fun _ _ _ _ _ => True) (fun _ U o U' => ∃ v L, o = .returned v ∧ Q_rm2 Z r0 p1 p2 p3 p4 h0 n0 v U'.heap L ∧ FrameEnd U o U' L ({ frames := 2, cells := 0, slots := 0, locals := 24 } : Room).cells ({ frames := 2, cells := 0, slots := 0, locals := 24 } : Room).slots) := by
  refine MetFree.of_bodySF (plainFor_of_name pn_2) hisR ?_
  intro p e s m args below meth c s₁ Bd hml0 hP hK
  obtain ⟨rfl, hZ, hh⟩ := hP
  have hx := Bd.exec
  have hby := Bd.bytes
  have hml : c.maxLocals = 5 := hml0
  have hown : s.vm.findClass "com/example/reroster/reroster/cli/GtfsFrequencies$Period" = some m.cls := findClass_of_methodNamed Bd.named
  have hnm := (name_of_methodNamed Bd.named Bd.method).1
  have X0 : Stand p l e ({ frames := 2, cells := 0, slots := 0, locals := 24 } : Room) s m #[(.ref r0), (.int p1), (.int p2), (.int p3), (.int p4)] below meth c s₁ [] 0 0 := Stand.of_body Bd
  have e0 : s₁.heap = h0 := by rw [← hh, Bd.state]; rfl
  have N0 := Fr.nil n0
  have pre0 : ∀ t, Steps p.tables e below (s₁.setTop (mkF m 0 #[.val (.ref r0), .val (.int p1), .val (.int p2), .val (.int p3), .val (.int p4)] [])) t → Steps p.tables e below (s₁.setTop (entryFrame m #[(.ref r0), (.int p1), (.int p2), (.int p3), (.int p4)] 5)) t := fun t k => castTop (ef_2 m r0 p1 p2 p3 p4) k
  obtain ⟨_, _, ⟨T1, L1, k1, n1⟩, -, X1, ⟨Lc1, hQ1, l1, y1, z1⟩, st1⟩ := X0.specialBack hx (y := (⟨"java/lang/Record", "<init>", "()V"⟩ : MethodName)) rfl hown (mvT hZ (hw _ (List.mem_of_getElem? (i := 12) rfl))) (mvT hZ (hw _ (List.mem_of_getElem? (i := 13) rfl))) (mvT hZ (hw _ (List.mem_of_getElem? (i := 16) rfl))) (by decide) (backOf (W := 0) (rm3 l Z a0 hw [] r0 h0 n0 Z0) hZ (hw _ (List.mem_of_getElem? (i := 16) rfl)) (hw _ (List.mem_of_getElem? (i := 15) rfl)) (by decide) (by decide)) (g := (mkF m 1 #[.val (.ref r0), .val (.int p1), .val (.int p2), .val (.int p3), .val (.int p4)] [(.ref r0)])) rfl (by rw [hml]; rfl) (Steps.refl _) (a := r0) (argsL := []) (rest := []) (lenOf pd0 rfl) rfl (by show 2 * 0 + _ ≤ _; exact Nat.le_of_eq rfl) (hb hby d2_1) (fun _ _ => ⟨rfl, e0, (by decide : 0 + 0 ≤ _), (by decide : 0 + 0 ≤ _)⟩)
  dsimp only [Pt.U, Pt.locs, Pt.cells, Pt.slots] at X1 l1 y1 z1 st1 hQ1
  subst l1 y1 z1
  obtain ⟨rfl, N1q, e1⟩ := hQ1
  have N1 := Fr.app N0 N1q
  obtain ⟨T2, h2, X2, e2, W2, st2⟩ := putF X1 hx hZ hown (host := "") (Or.inl (hw _ (List.mem_of_getElem? (i := 20) rfl))) Via.refl e1 F0_start E0 (Or.inr ⟨(hw _ (List.mem_of_getElem? (i := 21) rfl)), rfl, hnm⟩) (hw _ (List.mem_of_getElem? (i := 7) rfl)) (ty := .int) (by decide) rfl rfl (g := (mkF m 6 #[.val (.ref r0), .val (.int p1), .val (.int p2), .val (.int p3), .val (.int p4)] [(.int p1), (.ref r0)])) rfl rfl (hb hby d2_6)
  have Fw2 : Fld Z h2 r0 "com/example/reroster/reroster/cli/GtfsFrequencies$Period" "start" "I" (.int p1) := F0_start.same W2
  have N2 := Fr.snoc X2 N1 G0
  have f2_E_r0 : Exa Z h2 r0 "com/example/reroster/reroster/cli/GtfsFrequencies$Period" := E0.wr W2
  have f2_K : Keep h0 h2 [r0] := (Keep.refl h0 [r0]).wr W2 (Or.inl (List.mem_of_getElem? (i := 0) rfl))
  have f2_F_r0_end : Fld Z h2 r0 "com/example/reroster/reroster/cli/GtfsFrequencies$Period" "end" "I" (.int (0 : Int32)) := F0_end.other W2 (Or.inr (slot_ne (Or.inr (hw _ (List.mem_of_getElem? (i := 23) rfl))) (Or.inr (hw _ (List.mem_of_getElem? (i := 21) rfl))) (by decide) (t := .int) (t' := .int) (by decide) (by decide)))
  have f2_F_r0_headway : Fld Z h2 r0 "com/example/reroster/reroster/cli/GtfsFrequencies$Period" "headway" "I" (.int (0 : Int32)) := F0_headway.other W2 (Or.inr (slot_ne (Or.inr (hw _ (List.mem_of_getElem? (i := 25) rfl))) (Or.inr (hw _ (List.mem_of_getElem? (i := 21) rfl))) (by decide) (t := .int) (t' := .int) (by decide) (by decide)))
  have f2_F_r0_line : Fld Z h2 r0 "com/example/reroster/reroster/cli/GtfsFrequencies$Period" "line" "I" (.int (0 : Int32)) := F0_line.other W2 (Or.inr (slot_ne (Or.inr (hw _ (List.mem_of_getElem? (i := 27) rfl))) (Or.inr (hw _ (List.mem_of_getElem? (i := 21) rfl))) (by decide) (t := .int) (t' := .int) (by decide) (by decide)))
  have Z2 : n0 ≤ Array.size h2 := Nat.le_trans Z0 (Keep.of_wr W2).1
  obtain ⟨T3, h3, X3, e3, W3, st3⟩ := putF X2 hx hZ hown (host := "") (Or.inl (hw _ (List.mem_of_getElem? (i := 22) rfl))) Via.refl e2 f2_F_r0_end f2_E_r0 (Or.inr ⟨(hw _ (List.mem_of_getElem? (i := 23) rfl)), rfl, hnm⟩) (hw _ (List.mem_of_getElem? (i := 7) rfl)) (ty := .int) (by decide) rfl rfl (g := (mkF m 11 #[.val (.ref r0), .val (.int p1), .val (.int p2), .val (.int p3), .val (.int p4)] [(.int p2), (.ref r0)])) rfl rfl (hb hby d2_11)
  have Fw3 : Fld Z h3 r0 "com/example/reroster/reroster/cli/GtfsFrequencies$Period" "end" "I" (.int p2) := f2_F_r0_end.same W3
  have N3 := Fr.snoc X3 N2 G0
  have f3_E_r0 : Exa Z h3 r0 "com/example/reroster/reroster/cli/GtfsFrequencies$Period" := f2_E_r0.wr W3
  have f3_K : Keep h0 h3 [r0] := f2_K.wr W3 (Or.inl (List.mem_of_getElem? (i := 0) rfl))
  have f3_F_r0_start : Fld Z h3 r0 "com/example/reroster/reroster/cli/GtfsFrequencies$Period" "start" "I" (.int p1) := Fw2.other W3 (Or.inr (slot_ne (Or.inr (hw _ (List.mem_of_getElem? (i := 21) rfl))) (Or.inr (hw _ (List.mem_of_getElem? (i := 23) rfl))) (by decide) (t := .int) (t' := .int) (by decide) (by decide)))
  have f3_F_r0_headway : Fld Z h3 r0 "com/example/reroster/reroster/cli/GtfsFrequencies$Period" "headway" "I" (.int (0 : Int32)) := f2_F_r0_headway.other W3 (Or.inr (slot_ne (Or.inr (hw _ (List.mem_of_getElem? (i := 25) rfl))) (Or.inr (hw _ (List.mem_of_getElem? (i := 23) rfl))) (by decide) (t := .int) (t' := .int) (by decide) (by decide)))
  have f3_F_r0_line : Fld Z h3 r0 "com/example/reroster/reroster/cli/GtfsFrequencies$Period" "line" "I" (.int (0 : Int32)) := f2_F_r0_line.other W3 (Or.inr (slot_ne (Or.inr (hw _ (List.mem_of_getElem? (i := 27) rfl))) (Or.inr (hw _ (List.mem_of_getElem? (i := 23) rfl))) (by decide) (t := .int) (t' := .int) (by decide) (by decide)))
  have Z3 : n0 ≤ Array.size h3 := Nat.le_trans Z2 (Keep.of_wr W3).1
  obtain ⟨T4, h4, X4, e4, W4, st4⟩ := putF X3 hx hZ hown (host := "") (Or.inl (hw _ (List.mem_of_getElem? (i := 24) rfl))) Via.refl e3 f3_F_r0_headway f3_E_r0 (Or.inr ⟨(hw _ (List.mem_of_getElem? (i := 25) rfl)), rfl, hnm⟩) (hw _ (List.mem_of_getElem? (i := 7) rfl)) (ty := .int) (by decide) rfl rfl (g := (mkF m 16 #[.val (.ref r0), .val (.int p1), .val (.int p2), .val (.int p3), .val (.int p4)] [(.int p3), (.ref r0)])) rfl rfl (hb hby d2_16)
  have Fw4 : Fld Z h4 r0 "com/example/reroster/reroster/cli/GtfsFrequencies$Period" "headway" "I" (.int p3) := f3_F_r0_headway.same W4
  have N4 := Fr.snoc X4 N3 G0
  have f4_E_r0 : Exa Z h4 r0 "com/example/reroster/reroster/cli/GtfsFrequencies$Period" := f3_E_r0.wr W4
  have f4_K : Keep h0 h4 [r0] := f3_K.wr W4 (Or.inl (List.mem_of_getElem? (i := 0) rfl))
  have f4_F_r0_start : Fld Z h4 r0 "com/example/reroster/reroster/cli/GtfsFrequencies$Period" "start" "I" (.int p1) := f3_F_r0_start.other W4 (Or.inr (slot_ne (Or.inr (hw _ (List.mem_of_getElem? (i := 21) rfl))) (Or.inr (hw _ (List.mem_of_getElem? (i := 25) rfl))) (by decide) (t := .int) (t' := .int) (by decide) (by decide)))
  have f4_F_r0_end : Fld Z h4 r0 "com/example/reroster/reroster/cli/GtfsFrequencies$Period" "end" "I" (.int p2) := Fw3.other W4 (Or.inr (slot_ne (Or.inr (hw _ (List.mem_of_getElem? (i := 23) rfl))) (Or.inr (hw _ (List.mem_of_getElem? (i := 25) rfl))) (by decide) (t := .int) (t' := .int) (by decide) (by decide)))
  have f4_F_r0_line : Fld Z h4 r0 "com/example/reroster/reroster/cli/GtfsFrequencies$Period" "line" "I" (.int (0 : Int32)) := f3_F_r0_line.other W4 (Or.inr (slot_ne (Or.inr (hw _ (List.mem_of_getElem? (i := 27) rfl))) (Or.inr (hw _ (List.mem_of_getElem? (i := 25) rfl))) (by decide) (t := .int) (t' := .int) (by decide) (by decide)))
  have Z4 : n0 ≤ Array.size h4 := Nat.le_trans Z3 (Keep.of_wr W4).1
  obtain ⟨T5, h5, X5, e5, W5, st5⟩ := putF X4 hx hZ hown (host := "") (Or.inl (hw _ (List.mem_of_getElem? (i := 26) rfl))) Via.refl e4 f4_F_r0_line f4_E_r0 (Or.inr ⟨(hw _ (List.mem_of_getElem? (i := 27) rfl)), rfl, hnm⟩) (hw _ (List.mem_of_getElem? (i := 7) rfl)) (ty := .int) (by decide) rfl rfl (g := (mkF m 22 #[.val (.ref r0), .val (.int p1), .val (.int p2), .val (.int p3), .val (.int p4)] [(.int p4), (.ref r0)])) rfl rfl (hb hby d2_22)
  have Fw5 : Fld Z h5 r0 "com/example/reroster/reroster/cli/GtfsFrequencies$Period" "line" "I" (.int p4) := f4_F_r0_line.same W5
  have N5 := Fr.snoc X5 N4 G0
  have f5_E_r0 : Exa Z h5 r0 "com/example/reroster/reroster/cli/GtfsFrequencies$Period" := f4_E_r0.wr W5
  have f5_K : Keep h0 h5 [r0] := f4_K.wr W5 (Or.inl (List.mem_of_getElem? (i := 0) rfl))
  have f5_F_r0_start : Fld Z h5 r0 "com/example/reroster/reroster/cli/GtfsFrequencies$Period" "start" "I" (.int p1) := f4_F_r0_start.other W5 (Or.inr (slot_ne (Or.inr (hw _ (List.mem_of_getElem? (i := 21) rfl))) (Or.inr (hw _ (List.mem_of_getElem? (i := 27) rfl))) (by decide) (t := .int) (t' := .int) (by decide) (by decide)))
  have f5_F_r0_end : Fld Z h5 r0 "com/example/reroster/reroster/cli/GtfsFrequencies$Period" "end" "I" (.int p2) := f4_F_r0_end.other W5 (Or.inr (slot_ne (Or.inr (hw _ (List.mem_of_getElem? (i := 23) rfl))) (Or.inr (hw _ (List.mem_of_getElem? (i := 27) rfl))) (by decide) (t := .int) (t' := .int) (by decide) (by decide)))
  have f5_F_r0_headway : Fld Z h5 r0 "com/example/reroster/reroster/cli/GtfsFrequencies$Period" "headway" "I" (.int p3) := Fw4.other W5 (Or.inr (slot_ne (Or.inr (hw _ (List.mem_of_getElem? (i := 25) rfl))) (Or.inr (hw _ (List.mem_of_getElem? (i := 27) rfl))) (by decide) (t := .int) (t' := .int) (by decide) (by decide)))
  have Z5 : n0 ≤ Array.size h5 := Nat.le_trans Z4 (Keep.of_wr W5).1
  obtain ⟨fs, hr, hrun, hended, hW, hsame⟩ := X5.leave (v := none) (fun _ => rfl)
  refine ⟨_, _, pre0 _ ?_, hrun, hended, _, _, rfl, ⟨rfl, N5, (show Keep h0 T5.heap [r0] from by rw [e5]; exact f5_K), (show Exa Z T5.heap r0 "com/example/reroster/reroster/cli/GtfsFrequencies$Period" from by rw [e5]; exact f5_E_r0), (show Fld Z T5.heap r0 "com/example/reroster/reroster/cli/GtfsFrequencies$Period" "start" "I" (.int p1) from by rw [e5]; exact f5_F_r0_start), (show Fld Z T5.heap r0 "com/example/reroster/reroster/cli/GtfsFrequencies$Period" "end" "I" (.int p2) from by rw [e5]; exact f5_F_r0_end), (show Fld Z T5.heap r0 "com/example/reroster/reroster/cli/GtfsFrequencies$Period" "headway" "I" (.int p3) from by rw [e5]; exact f5_F_r0_headway), (show Fld Z T5.heap r0 "com/example/reroster/reroster/cli/GtfsFrequencies$Period" "line" "I" (.int p4) from by rw [e5]; exact Fw5)⟩, ⟨_, rfl⟩, hW, hsame.mono (by decide) (by decide)⟩
  show Steps p.tables e below (s₁.setTop (mkF m 0 #[.val (.ref r0), .val (.int p1), .val (.int p2), .val (.int p3), .val (.int p4)] [])) _
  refine XS.aloadN X0.here hx rfl (hb hby d2_0) rfl rfl ?_
  show Steps p.tables e below (s₁.setTop (mkF m 1 #[.val (.ref r0), .val (.int p1), .val (.int p2), .val (.int p3), .val (.int p4)] [(.ref r0)])) _
  refine st1.trans ?_
  show Steps p.tables e below (T1.setTop (mkF m 4 #[.val (.ref r0), .val (.int p1), .val (.int p2), .val (.int p3), .val (.int p4)] [])) _
  refine XS.aloadN X1.here hx rfl (hb hby d2_4) rfl rfl ?_
  show Steps p.tables e below (T1.setTop (mkF m 5 #[.val (.ref r0), .val (.int p1), .val (.int p2), .val (.int p3), .val (.int p4)] [(.ref r0)])) _
  refine XS.iloadN X1.here hx rfl (hb hby d2_5) rfl ?_
  show Steps p.tables e below (T1.setTop (mkF m 6 #[.val (.ref r0), .val (.int p1), .val (.int p2), .val (.int p3), .val (.int p4)] [(.int p1), (.ref r0)])) _
  refine st2 _ ?_
  show Steps p.tables e below (T2.setTop (mkF m 9 #[.val (.ref r0), .val (.int p1), .val (.int p2), .val (.int p3), .val (.int p4)] [])) _
  refine XS.aloadN X2.here hx rfl (hb hby d2_9) rfl rfl ?_
  show Steps p.tables e below (T2.setTop (mkF m 10 #[.val (.ref r0), .val (.int p1), .val (.int p2), .val (.int p3), .val (.int p4)] [(.ref r0)])) _
  refine XS.iloadN X2.here hx rfl (hb hby d2_10) rfl ?_
  show Steps p.tables e below (T2.setTop (mkF m 11 #[.val (.ref r0), .val (.int p1), .val (.int p2), .val (.int p3), .val (.int p4)] [(.int p2), (.ref r0)])) _
  refine st3 _ ?_
  show Steps p.tables e below (T3.setTop (mkF m 14 #[.val (.ref r0), .val (.int p1), .val (.int p2), .val (.int p3), .val (.int p4)] [])) _
  refine XS.aloadN X3.here hx rfl (hb hby d2_14) rfl rfl ?_
  show Steps p.tables e below (T3.setTop (mkF m 15 #[.val (.ref r0), .val (.int p1), .val (.int p2), .val (.int p3), .val (.int p4)] [(.ref r0)])) _
  refine XS.iloadN X3.here hx rfl (hb hby d2_15) rfl ?_
  show Steps p.tables e below (T3.setTop (mkF m 16 #[.val (.ref r0), .val (.int p1), .val (.int p2), .val (.int p3), .val (.int p4)] [(.int p3), (.ref r0)])) _
  refine st4 _ ?_
  show Steps p.tables e below (T4.setTop (mkF m 19 #[.val (.ref r0), .val (.int p1), .val (.int p2), .val (.int p3), .val (.int p4)] [])) _
  refine XS.aloadN X4.here hx rfl (hb hby d2_19) rfl rfl ?_
  show Steps p.tables e below (T4.setTop (mkF m 20 #[.val (.ref r0), .val (.int p1), .val (.int p2), .val (.int p3), .val (.int p4)] [(.ref r0)])) _
  refine XS.iload X4.here hx rfl (hb hby d2_20) rfl ?_
  show Steps p.tables e below (T4.setTop (mkF m 22 #[.val (.ref r0), .val (.int p1), .val (.int p2), .val (.int p3), .val (.int p4)] [(.int p4), (.ref r0)])) _
  refine st5 _ ?_
  show Steps p.tables e below (T5.setTop (mkF m 25 #[.val (.ref r0), .val (.int p1), .val (.int p2), .val (.int p3), .val (.int p4)] [])) _
  exact X5.returnOut hx Bd.returns (hb hby d2_25) hr
theorem d5_0 : decode prog_12_method_2_code 0 = .ok (.aload_n 0, 1) := by decide +kernel
theorem d5_1 : decode prog_12_method_2_code 1 = .ok (.getfield 13, 3) := by decide +kernel
theorem d5_4 : decode prog_12_method_2_code 4 = .ok (.aload_n 0, 1) := by decide +kernel
theorem d5_5 : decode prog_12_method_2_code 5 = .ok (.getfield 7, 3) := by decide +kernel
theorem d5_8 : decode prog_12_method_2_code 8 = .ok (.isub, 1) := by decide +kernel
theorem d5_9 : decode prog_12_method_2_code 9 = .ok (.iconst 1, 1) := by decide +kernel
theorem d5_10 : decode prog_12_method_2_code 10 = .ok (.isub, 1) := by decide +kernel
theorem d5_11 : decode prog_12_method_2_code 11 = .ok (.aload_n 0, 1) := by decide +kernel
theorem d5_12 : decode prog_12_method_2_code 12 = .ok (.getfield 16, 3) := by decide +kernel
theorem d5_15 : decode prog_12_method_2_code 15 = .ok (.idiv, 1) := by decide +kernel
theorem d5_16 : decode prog_12_method_2_code 16 = .ok (.iconst 1, 1) := by decide +kernel
theorem d5_17 : decode prog_12_method_2_code 17 = .ok (.iadd, 1) := by decide +kernel
theorem d5_18 : decode prog_12_method_2_code 18 = .ok (.ireturn, 1) := by decide +kernel
def F5_0 (w_start : Int32) (w_end : Int32) (w_headway : Int32) : Int32 := ((((w_end - w_start) - (1 : Int32)) / w_headway) + (1 : Int32))
theorem pn_5 : plainName "com/example/reroster/reroster/cli/GtfsFrequencies$Period" = true := by first | (simp [plainName, overriddenIn]; done) | decide +kernel
theorem ef_5 (m : MethodId) (r0 : Addr) : entryFrame m #[(.ref r0)] 1 = mkF m 0 #[.val (.ref r0)] [] := by first | (simp [entryFrame, mkF, argsToLocals, Value.category]; done) | rfl
def Q_rm5 (Z : State) (r0 : Addr) (w_start : Int32) (w_end : Int32) (w_headway : Int32) (h0 : Heap) (n0 : Nat) (v : Option Value) (h : Heap) (L : List Loc) : Prop := (v = some (.int (F5_0 w_start w_end w_headway)) ∧ Fr n0 L ∧ h = h0)
set_option maxRecDepth 65536 in
set_option maxHeartbeats 40000000 in
theorem rm5 (l : Launch) (Z : State) (a0 : Array Value) (hw : ∀ d ∈ tables_1, d.before a0 Z = true) (ws : List Jvm.Cond) (r0 : Addr) (w_start : Int32) (w_end : Int32) (w_headway : Int32) (h0 : Heap) (n0 : Nat) (Z0 : n0 ≤ h0.size) (F0_start : Fld Z h0 r0 "com/example/reroster/reroster/cli/GtfsFrequencies$Period" "start" "I" (.int w_start)) (F0_end : Fld Z h0 r0 "com/example/reroster/reroster/cli/GtfsFrequencies$Period" "end" "I" (.int w_end)) (F0_headway : Fld Z h0 r0 "com/example/reroster/reroster/cli/GtfsFrequencies$Period" "headway" "I" (.int w_headway)) (hnz : ¬ w_headway = (0 : Int32)) :
    MetFree l (⟨"com/example/reroster/reroster/cli/GtfsFrequencies$Period", "runCount", "()I"⟩ : MethodName) (head1 (Jvm.Cond.code (⟨"com/example/reroster/reroster/cli/GtfsFrequencies$Period", "runCount", "()I"⟩ : MethodName) prog_12_method_2_code 1 (some .int) :: ws) ({ frames := 0, cells := 0, slots := 0, locals := 0 } : Room)) (fun a U => a = #[(.ref r0)] ∧ Z.Warmed39 U.vm ∧ U.heap = h0) (fun _ _ _ _ _ => True) (fun _ U o U' => ∃ v L, o = .returned v ∧ Q_rm5 Z r0 w_start w_end w_headway h0 n0 v U'.heap L ∧ FrameEnd U o U' L ({ frames := 0, cells := 0, slots := 0, locals := 0 } : Room).cells ({ frames := 0, cells := 0, slots := 0, locals := 0 } : Room).slots) := by
  refine MetFree.of_bodySF (plainFor_of_name pn_5) hisR ?_
  intro p e s m args below meth c s₁ Bd hml0 hP hK
  obtain ⟨rfl, hZ, hh⟩ := hP
  have hx := Bd.exec
  have hby := Bd.bytes
  have hml : c.maxLocals = 1 := hml0
  have hown : s.vm.findClass "com/example/reroster/reroster/cli/GtfsFrequencies$Period" = some m.cls := findClass_of_methodNamed Bd.named
  have hnm := (name_of_methodNamed Bd.named Bd.method).1
  have X0 : Stand p l e ({ frames := 0, cells := 0, slots := 0, locals := 0 } : Room) s m #[(.ref r0)] below meth c s₁ [] 0 0 := Stand.of_body Bd
  have e0 : s₁.heap = h0 := by rw [← hh, Bd.state]; rfl
  have N0 := Fr.nil n0
  have pre0 : ∀ t, Steps p.tables e below (s₁.setTop (mkF m 0 #[.val (.ref r0)] [])) t → Steps p.tables e below (s₁.setTop (entryFrame m #[(.ref r0)] 1)) t := fun t k => castTop (ef_5 m r0) k
  obtain ⟨T1, X1, e1, st1⟩ := getF X0 hx hZ hown (host := "") (Or.inl (hw _ (List.mem_of_getElem? (i := 22) rfl))) Via.refl e0 F0_end (g := (mkF m 1 #[.val (.ref r0)] [(.ref r0)])) rfl rfl (hb hby d5_1)
  obtain ⟨T2, X2, e2, st2⟩ := getF X1 hx hZ hown (host := "") (Or.inl (hw _ (List.mem_of_getElem? (i := 20) rfl))) Via.refl e1 F0_start (g := (mkF m 5 #[.val (.ref r0)] [(.ref r0), (.int w_end)])) rfl rfl (hb hby d5_5)
  obtain ⟨T3, X3, e3, st3⟩ := getF X2 hx hZ hown (host := "") (Or.inl (hw _ (List.mem_of_getElem? (i := 24) rfl))) Via.refl e2 F0_headway (g := (mkF m 12 #[.val (.ref r0)] [(.ref r0), (.int ((w_end - w_start) - (1 : Int32)))])) rfl rfl (hb hby d5_12)
  obtain ⟨fs, hr, hrun, hended, hW, hsame⟩ := X3.leave (v := some (.int ((((w_end - w_start) - (1 : Int32)) / w_headway) + (1 : Int32)))) (fun h => by rw [Bd.returns] at h; cases h)
  refine ⟨_, _, pre0 _ ?_, hrun, hended, _, _, rfl, ⟨rfl, N0, e3⟩, ⟨_, rfl⟩, hW, hsame.mono (by decide) (by decide)⟩
  show Steps p.tables e below (s₁.setTop (mkF m 0 #[.val (.ref r0)] [])) _
  refine XS.aloadN X0.here hx rfl (hb hby d5_0) rfl rfl ?_
  show Steps p.tables e below (s₁.setTop (mkF m 1 #[.val (.ref r0)] [(.ref r0)])) _
  refine st1 _ ?_
  show Steps p.tables e below (T1.setTop (mkF m 4 #[.val (.ref r0)] [(.int w_end)])) _
  refine XS.aloadN X1.here hx rfl (hb hby d5_4) rfl rfl ?_
  show Steps p.tables e below (T1.setTop (mkF m 5 #[.val (.ref r0)] [(.ref r0), (.int w_end)])) _
  refine st2 _ ?_
  show Steps p.tables e below (T2.setTop (mkF m 8 #[.val (.ref r0)] [(.int w_start), (.int w_end)])) _
  refine XS.isub X2.here hx rfl (hb hby d5_8) rfl ?_
  show Steps p.tables e below (T2.setTop (mkF m 9 #[.val (.ref r0)] [(.int (w_end - w_start))])) _
  refine XS.iconst X2.here hx rfl (hb hby d5_9) ?_
  show Steps p.tables e below (T2.setTop (mkF m 10 #[.val (.ref r0)] [(.int (1 : Int32)), (.int (w_end - w_start))])) _
  refine XS.isub X2.here hx rfl (hb hby d5_10) rfl ?_
  show Steps p.tables e below (T2.setTop (mkF m 11 #[.val (.ref r0)] [(.int ((w_end - w_start) - (1 : Int32)))])) _
  refine XS.aloadN X2.here hx rfl (hb hby d5_11) rfl rfl ?_
  show Steps p.tables e below (T2.setTop (mkF m 12 #[.val (.ref r0)] [(.ref r0), (.int ((w_end - w_start) - (1 : Int32)))])) _
  refine st3 _ ?_
  show Steps p.tables e below (T3.setTop (mkF m 15 #[.val (.ref r0)] [(.int w_headway), (.int ((w_end - w_start) - (1 : Int32)))])) _
  refine XS.idiv X3.here hx rfl (hb hby d5_15) rfl hnz ?_
  show Steps p.tables e below (T3.setTop (mkF m 16 #[.val (.ref r0)] [(.int (((w_end - w_start) - (1 : Int32)) / w_headway))])) _
  refine XS.iconst X3.here hx rfl (hb hby d5_16) ?_
  show Steps p.tables e below (T3.setTop (mkF m 17 #[.val (.ref r0)] [(.int (1 : Int32)), (.int (((w_end - w_start) - (1 : Int32)) / w_headway))])) _
  refine XS.iadd X3.here hx rfl (hb hby d5_17) rfl ?_
  show Steps p.tables e below (T3.setTop (mkF m 18 #[.val (.ref r0)] [(.int ((((w_end - w_start) - (1 : Int32)) / w_headway) + (1 : Int32)))])) _
  exact retI X3 hx Bd.returns (hb hby d5_18) hr
def vS (p0 : Int32) : Int32 := (p0 &&& (1073741823 : Int32))
def vE (p0 p1 : Int32) : Int32 := (((vS p0) + (1 : Int32)) + (p1 &&& (1073741823 : Int32)))
def vH (p2 : Int32) : Int32 := (F1_0 (1 : Int32) (p2 &&& (2147483647 : Int32)))
def vN (p0 p1 p2 : Int32) : Int32 := (F5_0 (vS p0) (vE p0 p1) (vH p2))
def vL (p0 p1 p2 : Int32) : Int64 := (((vS p0).toInt64) + (((vN p0 p1 p2) - (1 : Int32)).toInt64 * ((vH p2).toInt64)))
theorem pn_0 : plainName "com/example/reroster/reroster/cli/PeriodRunCountPinLaw" = true := by first | (simp [plainName, overriddenIn]; done) | decide +kernel
theorem ef_0 (m : MethodId) (p0 : Int32) (p1 : Int32) (p2 : Int32) (p3 : Int32) : entryFrame m #[(.int p0), (.int p1), (.int p2), (.int p3)] maxLocals = mkF m 0 #[.val (.int p0), .val (.int p1), .val (.int p2), .val (.int p3), .unset, .unset, .unset, .unset, .unset, .unset, .unset, .unset, .unset] [] := by first | (simp [entryFrame, mkF, argsToLocals, Value.category, maxLocals]; done) | rfl
def Q_rm0 (Z : State) (p0 : Int32) (p1 : Int32) (p2 : Int32) (p3 : Int32) (h0 : Heap) (n0 : Nat) (v : Option Value) (h : Heap) (L : List Loc) : Prop := (v = some (.int (1 : Int32)) ∧ Fr n0 L)
set_option maxRecDepth 65536 in
set_option maxHeartbeats 40000000 in
theorem rm0 (l : Launch) (Z : State) (a0 : Array Value) (hw : ∀ d ∈ tables_1, d.before a0 Z = true) (ws : List Jvm.Cond) (p0 : Int32) (p1 : Int32) (p2 : Int32) (p3 : Int32) (h0 : Heap) (n0 : Nat) (Z0 : n0 ≤ h0.size) (hnz : ¬ (vH p2) = (0 : Int32)) (hc53 : ¬ ((vN p0 p1 p2) < (1 : Int32))) (hc87 : (vL p0 p1 p2) < ((vE p0 p1).toInt64)) (hc96 : ¬ (((vL p0 p1 p2) + ((vH p2).toInt64)) < ((vE p0 p1).toInt64))) :
    MetFree l x (head1 (Jvm.Cond.code x code maxLocals ret :: ws) room_1) (fun a U => a = #[(.int p0), (.int p1), (.int p2), (.int p3)] ∧ Z.Warmed39 U.vm ∧ U.heap = h0) (fun _ _ _ _ _ => True) (fun _ U o U' => ∃ v L, o = .returned v ∧ Q_rm0 Z p0 p1 p2 p3 h0 n0 v U'.heap L ∧ FrameEnd U o U' L room_1.cells room_1.slots) := by
  refine MetFree.of_bodySF (plainFor_of_name pn_0) hisR ?_
  intro p e s m args below meth c s₁ Bd hml0 hP hK
  obtain ⟨rfl, hZ, hh⟩ := hP
  have hx := Bd.exec
  have hby := Bd.bytes
  have hml : c.maxLocals = 13 := hml0
  have hown : s.vm.findClass "com/example/reroster/reroster/cli/PeriodRunCountPinLaw" = some m.cls := findClass_of_methodNamed Bd.named
  have hnm := (name_of_methodNamed Bd.named Bd.method).1
  have X0 : Stand p l e room_1 s m #[(.int p0), (.int p1), (.int p2), (.int p3)] below meth c s₁ [] 0 0 := Stand.of_body Bd
  have e0 : s₁.heap = h0 := by rw [← hh, Bd.state]; rfl
  have N0 := Fr.nil n0
  have pre0 : ∀ t, Steps p.tables e below (s₁.setTop (mkF m 0 #[.val (.int p0), .val (.int p1), .val (.int p2), .val (.int p3), .unset, .unset, .unset, .unset, .unset, .unset, .unset, .unset, .unset] [])) t → Steps p.tables e below (s₁.setTop (entryFrame m #[(.int p0), (.int p1), (.int p2), (.int p3)] maxLocals)) t := fun t k => castTop (ef_0 m p0 p1 p2 p3) k
  obtain ⟨_, _, ⟨T1, L1, k1, n1⟩, -, X1, ⟨Lc1, hQ1, l1, y1, z1⟩, st1⟩ := Jvm.LawKit.callS X0 hx (y := (⟨"java/lang/Math", "max", "(II)I"⟩ : MethodName)) hown (mvT hZ (hw _ (List.mem_of_getElem? (i := 2) rfl))) (mvT hZ (hw _ (List.mem_of_getElem? (i := 3) rfl))) (mvT hZ (hw _ (List.mem_of_getElem? (i := 4) rfl))) (mvT hZ (hw _ (List.mem_of_getElem? (i := 5) rfl))) (by decide) (backOf (W := 0) (rm1 l Z a0 hw [] (1 : Int32) (p2 &&& (2147483647 : Int32)) h0 n0 Z0) hZ (hw _ (List.mem_of_getElem? (i := 5) rfl)) (hw _ (List.mem_of_getElem? (i := 4) rfl)) (by decide) (by decide)) (g := (mkF m 22 #[.val (.int p0), .val (.int p1), .val (.int p2), .val (.int p3), .val (.int (vS p0)), .val (.int (vE p0 p1)), .unset, .unset, .unset, .unset, .unset, .unset, .unset] [(.int (p2 &&& (2147483647 : Int32))), (.int (1 : Int32))])) rfl (by rw [hml]; rfl) (argsL := [(.int (1 : Int32)), (.int (p2 &&& (2147483647 : Int32)))]) (rest := []) (lenOf pd1 rfl) rfl (by show 2 * 0 + _ ≤ _; exact Nat.le_of_eq rfl) (hb hby at_22) (fun _ _ => ⟨rfl, e0, (by decide : 0 + 0 ≤ _), (by decide : 0 + 0 ≤ _)⟩)
  dsimp only [Pt.U, Pt.locs, Pt.cells, Pt.slots] at X1 l1 y1 z1 st1 hQ1
  subst l1 y1 z1
  obtain ⟨rfl, N1q, e1⟩ := hQ1
  have N1 := Fr.app N0 N1q
  obtain ⟨T2, h2, X2, e2, E2, A2, D2, -, st2⟩ := newO X1 hx hZ hown (hw _ (List.mem_of_getElem? (i := 6) rfl)) (hw _ (List.mem_of_getElem? (i := 7) rfl)) (hw _ (List.mem_of_getElem? (i := 8) rfl)) e1 (g := (mkF m 27 #[.val (.int p0), .val (.int p1), .val (.int p2), .val (.int p3), .val (.int (vS p0)), .val (.int (vE p0 p1)), .val (.int (vH p2)), .unset, .unset, .unset, .unset, .unset, .unset] [])) rfl (hb hby at_27) (by decide) (by decide)
  obtain ⟨b2, g2⟩ : ∃ z, z = Array.size h0 := ⟨_, rfl⟩
  rw [← g2] at A2 D2 st2
  have G2 : n0 ≤ b2 := Nat.le_trans Z0 (Nat.le_of_eq g2.symm)
  have Z2 : n0 ≤ Array.size h2 := Nat.le_trans Z0 E2.1
  have F2_start : Fld Z h2 b2 "com/example/reroster/reroster/cli/GtfsFrequencies$Period" "start" "I" (.int (0 : Int32)) := D2 (Or.inr (hw _ (List.mem_of_getElem? (i := 21) rfl))) (ty := .int) (by decide)
  have F2_end : Fld Z h2 b2 "com/example/reroster/reroster/cli/GtfsFrequencies$Period" "end" "I" (.int (0 : Int32)) := D2 (Or.inr (hw _ (List.mem_of_getElem? (i := 23) rfl))) (ty := .int) (by decide)
  have F2_headway : Fld Z h2 b2 "com/example/reroster/reroster/cli/GtfsFrequencies$Period" "headway" "I" (.int (0 : Int32)) := D2 (Or.inr (hw _ (List.mem_of_getElem? (i := 25) rfl))) (ty := .int) (by decide)
  have F2_line : Fld Z h2 b2 "com/example/reroster/reroster/cli/GtfsFrequencies$Period" "line" "I" (.int (0 : Int32)) := D2 (Or.inr (hw _ (List.mem_of_getElem? (i := 27) rfl))) (ty := .int) (by decide)
  obtain ⟨_, _, ⟨T3, L3, k3, n3⟩, -, X3, ⟨Lc3, hQ3, l3, y3, z3⟩, st3⟩ := X2.specialBack hx (y := (⟨"com/example/reroster/reroster/cli/GtfsFrequencies$Period", "<init>", "(IIII)V"⟩ : MethodName)) rfl hown (mvT hZ (hw _ (List.mem_of_getElem? (i := 9) rfl))) (mvT hZ (hw _ (List.mem_of_getElem? (i := 10) rfl))) (mvT hZ (hw _ (List.mem_of_getElem? (i := 11) rfl))) (by decide) (backOf (W := 1) (rm2 l Z a0 hw [] b2 (vS p0) (vE p0 p1) (vH p2) p3 h2 n0 Z2 A2 F2_start F2_end F2_headway F2_line G2) hZ (hw _ (List.mem_of_getElem? (i := 11) rfl)) (hw _ (List.mem_of_getElem? (i := 8) rfl)) (by decide) (by decide)) (g := (mkF m 38 #[.val (.int p0), .val (.int p1), .val (.int p2), .val (.int p3), .val (.int (vS p0)), .val (.int (vE p0 p1)), .val (.int (vH p2)), .unset, .unset, .unset, .unset, .unset, .unset] [(.int p3), (.int (vH p2)), (.int (vE p0 p1)), (.int (vS p0)), (.ref b2), (.ref b2)])) rfl (by rw [hml]; rfl) (Steps.refl _) (a := b2) (argsL := [(.int (vS p0)), (.int (vE p0 p1)), (.int (vH p2)), (.int p3)]) (rest := [(.ref b2)]) (lenOf pd2 rfl) rfl (by show 2 * 0 + _ ≤ _; exact Nat.le_of_eq rfl) (hb hby at_38) (fun _ _ => ⟨rfl, e2, (by decide : 1 + 0 ≤ _), (by decide : 4 + 0 ≤ _)⟩)
  dsimp only [Pt.U, Pt.locs, Pt.cells, Pt.slots] at X3 l3 y3 z3 st3 hQ3
  subst l3 y3 z3
  obtain ⟨rfl, N3q, K3, Ec3, Fc3_start, Fc3_end, Fc3_headway, Fc3_line⟩ := hQ3
  have Z3 : n0 ≤ Array.size T3.heap := Nat.le_trans Z2 K3.1
  have N3 := Fr.app N1 N3q
  obtain ⟨cq4, kq4, q4a, q4b, q4c⟩ := isOf hZ rfl Ec3
  obtain ⟨_, _, ⟨T4, L4, k4, n4⟩, -, X4, ⟨Lc4, hQ4, l4, y4, z4⟩, st4⟩ := X3.virtualBack hx (y := (⟨"com/example/reroster/reroster/cli/GtfsFrequencies$Period", "runCount", "()I"⟩ : MethodName)) (z := (⟨"com/example/reroster/reroster/cli/GtfsFrequencies$Period", "runCount", "()I"⟩ : MethodName)) hown (mvT hZ (hw _ (List.mem_of_getElem? (i := 28) rfl))) (mvT hZ (hw _ (List.mem_of_getElem? (i := 29) rfl))) (notFace_of_selects (args := #[]) (mvT hZ (hw _ (List.mem_of_getElem? (i := 31) rfl)))) (mvT hZ (hw _ (List.mem_of_getElem? (i := 31) rfl))) (mvT hZ (hw _ (List.mem_of_getElem? (i := 30) rfl))) (by decide) (backOf (W := 0) (rm5 l Z a0 hw [] b2 (vS p0) (vE p0 p1) (vH p2) T3.heap n0 Z3 Fc3_start Fc3_end Fc3_headway hnz) hZ (hw _ (List.mem_of_getElem? (i := 32) rfl)) (hw _ (List.mem_of_getElem? (i := 8) rfl)) (by decide) (by decide)) q4a q4c (g := (mkF m 45 #[.val (.int p0), .val (.int p1), .val (.int p2), .val (.int p3), .val (.int (vS p0)), .val (.int (vE p0 p1)), .val (.int (vH p2)), .val (.ref b2), .unset, .unset, .unset, .unset, .unset] [(.ref b2)])) rfl (by rw [hml]; rfl) (Steps.refl _) (argsL := []) (rest := []) (lenOf pd3 rfl) rfl (by show 2 * 0 + _ ≤ _; exact Nat.le_of_eq rfl) (hb hby at_45) (fun _ _ => ⟨rfl, rfl, (by decide : 1 + 0 ≤ _), (by decide : 4 + 0 ≤ _)⟩)
  dsimp only [Pt.U, Pt.locs, Pt.cells, Pt.slots] at X4 l4 y4 z4 st4 hQ4
  subst l4 y4 z4
  obtain ⟨rfl, N4q, e4⟩ := hQ4
  have N4 := Fr.app N3 N4q
  obtain ⟨fs, hr, hrun, hended, hW, hsame⟩ := X4.leave (v := some (.int (1 : Int32))) (fun h => by rw [Bd.returns] at h; cases h)
  refine ⟨_, _, pre0 _ ?_, hrun, hended, _, _, rfl, ⟨rfl, N4⟩, ⟨_, rfl⟩, hW, hsame.mono (by decide) (by decide)⟩
  show Steps p.tables e below (s₁.setTop (mkF m 0 #[.val (.int p0), .val (.int p1), .val (.int p2), .val (.int p3), .unset, .unset, .unset, .unset, .unset, .unset, .unset, .unset, .unset] [])) _
  refine XS.iloadN X0.here hx rfl (hb hby at_0) rfl ?_
  show Steps p.tables e below (s₁.setTop (mkF m 1 #[.val (.int p0), .val (.int p1), .val (.int p2), .val (.int p3), .unset, .unset, .unset, .unset, .unset, .unset, .unset, .unset, .unset] [(.int p0)])) _
  refine X0.ldcInt hx hown (mvT hZ (hw _ (List.mem_of_getElem? (i := 0) rfl))) (g := (mkF m 1 #[.val (.int p0), .val (.int p1), .val (.int p2), .val (.int p3), .unset, .unset, .unset, .unset, .unset, .unset, .unset, .unset, .unset] [(.int p0)])) rfl (hb hby at_1) _ ?_
  show Steps p.tables e below (s₁.setTop (mkF m 3 #[.val (.int p0), .val (.int p1), .val (.int p2), .val (.int p3), .unset, .unset, .unset, .unset, .unset, .unset, .unset, .unset, .unset] [(.int (1073741823 : Int32)), (.int p0)])) _
  refine XS.iand X0.here hx rfl (hb hby at_3) rfl ?_
  show Steps p.tables e below (s₁.setTop (mkF m 4 #[.val (.int p0), .val (.int p1), .val (.int p2), .val (.int p3), .unset, .unset, .unset, .unset, .unset, .unset, .unset, .unset, .unset] [(.int (p0 &&& (1073741823 : Int32)))])) _
  refine XS.istore X0.here hx rfl (hb hby at_4) rfl (l' := #[.val (.int p0), .val (.int p1), .val (.int p2), .val (.int p3), .val (.int (p0 &&& (1073741823 : Int32))), .unset, .unset, .unset, .unset, .unset, .unset, .unset, .unset]) rfl ?_
  show Steps p.tables e below (s₁.setTop (mkF m 6 #[.val (.int p0), .val (.int p1), .val (.int p2), .val (.int p3), .val (.int (vS p0)), .unset, .unset, .unset, .unset, .unset, .unset, .unset, .unset] [])) _
  refine XS.iload X0.here hx rfl (hb hby at_6) rfl ?_
  show Steps p.tables e below (s₁.setTop (mkF m 8 #[.val (.int p0), .val (.int p1), .val (.int p2), .val (.int p3), .val (.int (vS p0)), .unset, .unset, .unset, .unset, .unset, .unset, .unset, .unset] [(.int (vS p0))])) _
  refine XS.iconst X0.here hx rfl (hb hby at_8) ?_
  show Steps p.tables e below (s₁.setTop (mkF m 9 #[.val (.int p0), .val (.int p1), .val (.int p2), .val (.int p3), .val (.int (vS p0)), .unset, .unset, .unset, .unset, .unset, .unset, .unset, .unset] [(.int (1 : Int32)), (.int (vS p0))])) _
  refine XS.iadd X0.here hx rfl (hb hby at_9) rfl ?_
  show Steps p.tables e below (s₁.setTop (mkF m 10 #[.val (.int p0), .val (.int p1), .val (.int p2), .val (.int p3), .val (.int (vS p0)), .unset, .unset, .unset, .unset, .unset, .unset, .unset, .unset] [(.int ((vS p0) + (1 : Int32)))])) _
  refine XS.iloadN X0.here hx rfl (hb hby at_10) rfl ?_
  show Steps p.tables e below (s₁.setTop (mkF m 11 #[.val (.int p0), .val (.int p1), .val (.int p2), .val (.int p3), .val (.int (vS p0)), .unset, .unset, .unset, .unset, .unset, .unset, .unset, .unset] [(.int p1), (.int ((vS p0) + (1 : Int32)))])) _
  refine X0.ldcInt hx hown (mvT hZ (hw _ (List.mem_of_getElem? (i := 0) rfl))) (g := (mkF m 11 #[.val (.int p0), .val (.int p1), .val (.int p2), .val (.int p3), .val (.int (vS p0)), .unset, .unset, .unset, .unset, .unset, .unset, .unset, .unset] [(.int p1), (.int ((vS p0) + (1 : Int32)))])) rfl (hb hby at_11) _ ?_
  show Steps p.tables e below (s₁.setTop (mkF m 13 #[.val (.int p0), .val (.int p1), .val (.int p2), .val (.int p3), .val (.int (vS p0)), .unset, .unset, .unset, .unset, .unset, .unset, .unset, .unset] [(.int (1073741823 : Int32)), (.int p1), (.int ((vS p0) + (1 : Int32)))])) _
  refine XS.iand X0.here hx rfl (hb hby at_13) rfl ?_
  show Steps p.tables e below (s₁.setTop (mkF m 14 #[.val (.int p0), .val (.int p1), .val (.int p2), .val (.int p3), .val (.int (vS p0)), .unset, .unset, .unset, .unset, .unset, .unset, .unset, .unset] [(.int (p1 &&& (1073741823 : Int32))), (.int ((vS p0) + (1 : Int32)))])) _
  refine XS.iadd X0.here hx rfl (hb hby at_14) rfl ?_
  show Steps p.tables e below (s₁.setTop (mkF m 15 #[.val (.int p0), .val (.int p1), .val (.int p2), .val (.int p3), .val (.int (vS p0)), .unset, .unset, .unset, .unset, .unset, .unset, .unset, .unset] [(.int (((vS p0) + (1 : Int32)) + (p1 &&& (1073741823 : Int32))))])) _
  refine XS.istore X0.here hx rfl (hb hby at_15) rfl (l' := #[.val (.int p0), .val (.int p1), .val (.int p2), .val (.int p3), .val (.int (vS p0)), .val (.int (((vS p0) + (1 : Int32)) + (p1 &&& (1073741823 : Int32)))), .unset, .unset, .unset, .unset, .unset, .unset, .unset]) rfl ?_
  show Steps p.tables e below (s₁.setTop (mkF m 17 #[.val (.int p0), .val (.int p1), .val (.int p2), .val (.int p3), .val (.int (vS p0)), .val (.int (vE p0 p1)), .unset, .unset, .unset, .unset, .unset, .unset, .unset] [])) _
  refine XS.iconst X0.here hx rfl (hb hby at_17) ?_
  show Steps p.tables e below (s₁.setTop (mkF m 18 #[.val (.int p0), .val (.int p1), .val (.int p2), .val (.int p3), .val (.int (vS p0)), .val (.int (vE p0 p1)), .unset, .unset, .unset, .unset, .unset, .unset, .unset] [(.int (1 : Int32))])) _
  refine XS.iloadN X0.here hx rfl (hb hby at_18) rfl ?_
  show Steps p.tables e below (s₁.setTop (mkF m 19 #[.val (.int p0), .val (.int p1), .val (.int p2), .val (.int p3), .val (.int (vS p0)), .val (.int (vE p0 p1)), .unset, .unset, .unset, .unset, .unset, .unset, .unset] [(.int p2), (.int (1 : Int32))])) _
  refine X0.ldcInt hx hown (mvT hZ (hw _ (List.mem_of_getElem? (i := 1) rfl))) (g := (mkF m 19 #[.val (.int p0), .val (.int p1), .val (.int p2), .val (.int p3), .val (.int (vS p0)), .val (.int (vE p0 p1)), .unset, .unset, .unset, .unset, .unset, .unset, .unset] [(.int p2), (.int (1 : Int32))])) rfl (hb hby at_19) _ ?_
  show Steps p.tables e below (s₁.setTop (mkF m 21 #[.val (.int p0), .val (.int p1), .val (.int p2), .val (.int p3), .val (.int (vS p0)), .val (.int (vE p0 p1)), .unset, .unset, .unset, .unset, .unset, .unset, .unset] [(.int (2147483647 : Int32)), (.int p2), (.int (1 : Int32))])) _
  refine XS.iand X0.here hx rfl (hb hby at_21) rfl ?_
  show Steps p.tables e below (s₁.setTop (mkF m 22 #[.val (.int p0), .val (.int p1), .val (.int p2), .val (.int p3), .val (.int (vS p0)), .val (.int (vE p0 p1)), .unset, .unset, .unset, .unset, .unset, .unset, .unset] [(.int (p2 &&& (2147483647 : Int32))), (.int (1 : Int32))])) _
  refine st1 _ ?_
  show Steps p.tables e below (T1.setTop (mkF m 25 #[.val (.int p0), .val (.int p1), .val (.int p2), .val (.int p3), .val (.int (vS p0)), .val (.int (vE p0 p1)), .unset, .unset, .unset, .unset, .unset, .unset, .unset] [(.int (F1_0 (1 : Int32) (p2 &&& (2147483647 : Int32))))])) _
  refine XS.istore X1.here hx rfl (hb hby at_25) rfl (l' := #[.val (.int p0), .val (.int p1), .val (.int p2), .val (.int p3), .val (.int (vS p0)), .val (.int (vE p0 p1)), .val (.int (F1_0 (1 : Int32) (p2 &&& (2147483647 : Int32)))), .unset, .unset, .unset, .unset, .unset, .unset]) rfl ?_
  show Steps p.tables e below (T1.setTop (mkF m 27 #[.val (.int p0), .val (.int p1), .val (.int p2), .val (.int p3), .val (.int (vS p0)), .val (.int (vE p0 p1)), .val (.int (vH p2)), .unset, .unset, .unset, .unset, .unset, .unset] [])) _
  refine st2 _ ?_
  show Steps p.tables e below (T2.setTop (mkF m 30 #[.val (.int p0), .val (.int p1), .val (.int p2), .val (.int p3), .val (.int (vS p0)), .val (.int (vE p0 p1)), .val (.int (vH p2)), .unset, .unset, .unset, .unset, .unset, .unset] [(.ref b2)])) _
  refine XS.dup X2.here hx rfl (hb hby at_30) rfl rfl ?_
  show Steps p.tables e below (T2.setTop (mkF m 31 #[.val (.int p0), .val (.int p1), .val (.int p2), .val (.int p3), .val (.int (vS p0)), .val (.int (vE p0 p1)), .val (.int (vH p2)), .unset, .unset, .unset, .unset, .unset, .unset] [(.ref b2), (.ref b2)])) _
  refine XS.iload X2.here hx rfl (hb hby at_31) rfl ?_
  show Steps p.tables e below (T2.setTop (mkF m 33 #[.val (.int p0), .val (.int p1), .val (.int p2), .val (.int p3), .val (.int (vS p0)), .val (.int (vE p0 p1)), .val (.int (vH p2)), .unset, .unset, .unset, .unset, .unset, .unset] [(.int (vS p0)), (.ref b2), (.ref b2)])) _
  refine XS.iload X2.here hx rfl (hb hby at_33) rfl ?_
  show Steps p.tables e below (T2.setTop (mkF m 35 #[.val (.int p0), .val (.int p1), .val (.int p2), .val (.int p3), .val (.int (vS p0)), .val (.int (vE p0 p1)), .val (.int (vH p2)), .unset, .unset, .unset, .unset, .unset, .unset] [(.int (vE p0 p1)), (.int (vS p0)), (.ref b2), (.ref b2)])) _
  refine XS.iload X2.here hx rfl (hb hby at_35) rfl ?_
  show Steps p.tables e below (T2.setTop (mkF m 37 #[.val (.int p0), .val (.int p1), .val (.int p2), .val (.int p3), .val (.int (vS p0)), .val (.int (vE p0 p1)), .val (.int (vH p2)), .unset, .unset, .unset, .unset, .unset, .unset] [(.int (vH p2)), (.int (vE p0 p1)), (.int (vS p0)), (.ref b2), (.ref b2)])) _
  refine XS.iloadN X2.here hx rfl (hb hby at_37) rfl ?_
  show Steps p.tables e below (T2.setTop (mkF m 38 #[.val (.int p0), .val (.int p1), .val (.int p2), .val (.int p3), .val (.int (vS p0)), .val (.int (vE p0 p1)), .val (.int (vH p2)), .unset, .unset, .unset, .unset, .unset, .unset] [(.int p3), (.int (vH p2)), (.int (vE p0 p1)), (.int (vS p0)), (.ref b2), (.ref b2)])) _
  refine st3.trans ?_
  show Steps p.tables e below (T3.setTop (mkF m 41 #[.val (.int p0), .val (.int p1), .val (.int p2), .val (.int p3), .val (.int (vS p0)), .val (.int (vE p0 p1)), .val (.int (vH p2)), .unset, .unset, .unset, .unset, .unset, .unset] [(.ref b2)])) _
  refine XS.astore X3.here hx rfl (hb hby at_41) rfl rfl (l' := #[.val (.int p0), .val (.int p1), .val (.int p2), .val (.int p3), .val (.int (vS p0)), .val (.int (vE p0 p1)), .val (.int (vH p2)), .val (.ref b2), .unset, .unset, .unset, .unset, .unset]) rfl ?_
  show Steps p.tables e below (T3.setTop (mkF m 43 #[.val (.int p0), .val (.int p1), .val (.int p2), .val (.int p3), .val (.int (vS p0)), .val (.int (vE p0 p1)), .val (.int (vH p2)), .val (.ref b2), .unset, .unset, .unset, .unset, .unset] [])) _
  refine XS.aload X3.here hx rfl (hb hby at_43) rfl rfl ?_
  show Steps p.tables e below (T3.setTop (mkF m 45 #[.val (.int p0), .val (.int p1), .val (.int p2), .val (.int p3), .val (.int (vS p0)), .val (.int (vE p0 p1)), .val (.int (vH p2)), .val (.ref b2), .unset, .unset, .unset, .unset, .unset] [(.ref b2)])) _
  refine st4.trans ?_
  show Steps p.tables e below (T4.setTop (mkF m 48 #[.val (.int p0), .val (.int p1), .val (.int p2), .val (.int p3), .val (.int (vS p0)), .val (.int (vE p0 p1)), .val (.int (vH p2)), .val (.ref b2), .unset, .unset, .unset, .unset, .unset] [(.int (F5_0 (vS p0) (vE p0 p1) (vH p2)))])) _
  refine XS.istore X4.here hx rfl (hb hby at_48) rfl (l' := #[.val (.int p0), .val (.int p1), .val (.int p2), .val (.int p3), .val (.int (vS p0)), .val (.int (vE p0 p1)), .val (.int (vH p2)), .val (.ref b2), .val (.int (F5_0 (vS p0) (vE p0 p1) (vH p2))), .unset, .unset, .unset, .unset]) rfl ?_
  show Steps p.tables e below (T4.setTop (mkF m 50 #[.val (.int p0), .val (.int p1), .val (.int p2), .val (.int p3), .val (.int (vS p0)), .val (.int (vE p0 p1)), .val (.int (vH p2)), .val (.ref b2), .val (.int (vN p0 p1 p2)), .unset, .unset, .unset, .unset] [])) _
  refine XS.iload X4.here hx rfl (hb hby at_50) rfl ?_
  show Steps p.tables e below (T4.setTop (mkF m 52 #[.val (.int p0), .val (.int p1), .val (.int p2), .val (.int p3), .val (.int (vS p0)), .val (.int (vE p0 p1)), .val (.int (vH p2)), .val (.ref b2), .val (.int (vN p0 p1 p2)), .unset, .unset, .unset, .unset] [(.int (vN p0 p1 p2))])) _
  refine XS.iconst X4.here hx rfl (hb hby at_52) ?_
  show Steps p.tables e below (T4.setTop (mkF m 53 #[.val (.int p0), .val (.int p1), .val (.int p2), .val (.int p3), .val (.int (vS p0)), .val (.int (vE p0 p1)), .val (.int (vH p2)), .val (.ref b2), .val (.int (vN p0 p1 p2)), .unset, .unset, .unset, .unset] [(.int (1 : Int32)), (.int (vN p0 p1 p2))])) _
  refine XS.icmpYes X4.here hx rfl (pc0 := 53) (pc' := 58) rfl (hb hby at_53) rfl (flt hc53).2.1 (by decide) (by decide) ?_
  show Steps p.tables e below (T4.setTop (mkF m 58 #[.val (.int p0), .val (.int p1), .val (.int p2), .val (.int p3), .val (.int (vS p0)), .val (.int (vE p0 p1)), .val (.int (vH p2)), .val (.ref b2), .val (.int (vN p0 p1 p2)), .unset, .unset, .unset, .unset] [])) _
  refine XS.iload X4.here hx rfl (hb hby at_58) rfl ?_
  show Steps p.tables e below (T4.setTop (mkF m 60 #[.val (.int p0), .val (.int p1), .val (.int p2), .val (.int p3), .val (.int (vS p0)), .val (.int (vE p0 p1)), .val (.int (vH p2)), .val (.ref b2), .val (.int (vN p0 p1 p2)), .unset, .unset, .unset, .unset] [(.int (vS p0))])) _
  refine XS.i2l X4.here hx rfl (hb hby at_60) rfl ?_
  show Steps p.tables e below (T4.setTop (mkF m 61 #[.val (.int p0), .val (.int p1), .val (.int p2), .val (.int p3), .val (.int (vS p0)), .val (.int (vE p0 p1)), .val (.int (vH p2)), .val (.ref b2), .val (.int (vN p0 p1 p2)), .unset, .unset, .unset, .unset] [(.long ((vS p0).toInt64))])) _
  refine XS.iload X4.here hx rfl (hb hby at_61) rfl ?_
  show Steps p.tables e below (T4.setTop (mkF m 63 #[.val (.int p0), .val (.int p1), .val (.int p2), .val (.int p3), .val (.int (vS p0)), .val (.int (vE p0 p1)), .val (.int (vH p2)), .val (.ref b2), .val (.int (vN p0 p1 p2)), .unset, .unset, .unset, .unset] [(.int (vN p0 p1 p2)), (.long ((vS p0).toInt64))])) _
  refine XS.iconst X4.here hx rfl (hb hby at_63) ?_
  show Steps p.tables e below (T4.setTop (mkF m 64 #[.val (.int p0), .val (.int p1), .val (.int p2), .val (.int p3), .val (.int (vS p0)), .val (.int (vE p0 p1)), .val (.int (vH p2)), .val (.ref b2), .val (.int (vN p0 p1 p2)), .unset, .unset, .unset, .unset] [(.int (1 : Int32)), (.int (vN p0 p1 p2)), (.long ((vS p0).toInt64))])) _
  refine XS.isub X4.here hx rfl (hb hby at_64) rfl ?_
  show Steps p.tables e below (T4.setTop (mkF m 65 #[.val (.int p0), .val (.int p1), .val (.int p2), .val (.int p3), .val (.int (vS p0)), .val (.int (vE p0 p1)), .val (.int (vH p2)), .val (.ref b2), .val (.int (vN p0 p1 p2)), .unset, .unset, .unset, .unset] [(.int ((vN p0 p1 p2) - (1 : Int32))), (.long ((vS p0).toInt64))])) _
  refine XS.i2l X4.here hx rfl (hb hby at_65) rfl ?_
  show Steps p.tables e below (T4.setTop (mkF m 66 #[.val (.int p0), .val (.int p1), .val (.int p2), .val (.int p3), .val (.int (vS p0)), .val (.int (vE p0 p1)), .val (.int (vH p2)), .val (.ref b2), .val (.int (vN p0 p1 p2)), .unset, .unset, .unset, .unset] [(.long (((vN p0 p1 p2) - (1 : Int32)).toInt64)), (.long ((vS p0).toInt64))])) _
  refine XS.iload X4.here hx rfl (hb hby at_66) rfl ?_
  show Steps p.tables e below (T4.setTop (mkF m 68 #[.val (.int p0), .val (.int p1), .val (.int p2), .val (.int p3), .val (.int (vS p0)), .val (.int (vE p0 p1)), .val (.int (vH p2)), .val (.ref b2), .val (.int (vN p0 p1 p2)), .unset, .unset, .unset, .unset] [(.int (vH p2)), (.long (((vN p0 p1 p2) - (1 : Int32)).toInt64)), (.long ((vS p0).toInt64))])) _
  refine XS.i2l X4.here hx rfl (hb hby at_68) rfl ?_
  show Steps p.tables e below (T4.setTop (mkF m 69 #[.val (.int p0), .val (.int p1), .val (.int p2), .val (.int p3), .val (.int (vS p0)), .val (.int (vE p0 p1)), .val (.int (vH p2)), .val (.ref b2), .val (.int (vN p0 p1 p2)), .unset, .unset, .unset, .unset] [(.long ((vH p2).toInt64)), (.long (((vN p0 p1 p2) - (1 : Int32)).toInt64)), (.long ((vS p0).toInt64))])) _
  refine XS.lmul X4.here hx rfl (hb hby at_69) rfl ?_
  show Steps p.tables e below (T4.setTop (mkF m 70 #[.val (.int p0), .val (.int p1), .val (.int p2), .val (.int p3), .val (.int (vS p0)), .val (.int (vE p0 p1)), .val (.int (vH p2)), .val (.ref b2), .val (.int (vN p0 p1 p2)), .unset, .unset, .unset, .unset] [(.long ((((vN p0 p1 p2) - (1 : Int32)).toInt64) * ((vH p2).toInt64))), (.long ((vS p0).toInt64))])) _
  refine XS.ladd X4.here hx rfl (hb hby at_70) rfl ?_
  show Steps p.tables e below (T4.setTop (mkF m 71 #[.val (.int p0), .val (.int p1), .val (.int p2), .val (.int p3), .val (.int (vS p0)), .val (.int (vE p0 p1)), .val (.int (vH p2)), .val (.ref b2), .val (.int (vN p0 p1 p2)), .unset, .unset, .unset, .unset] [(.long (((vS p0).toInt64) + ((((vN p0 p1 p2) - (1 : Int32)).toInt64) * ((vH p2).toInt64))))])) _
  refine XS.lstore X4.here hx rfl (hb hby at_71) rfl (l' := #[.val (.int p0), .val (.int p1), .val (.int p2), .val (.int p3), .val (.int (vS p0)), .val (.int (vE p0 p1)), .val (.int (vH p2)), .val (.ref b2), .val (.int (vN p0 p1 p2)), .val (.long (((vS p0).toInt64) + ((((vN p0 p1 p2) - (1 : Int32)).toInt64) * ((vH p2).toInt64)))), .second, .unset, .unset]) rfl ?_
  show Steps p.tables e below (T4.setTop (mkF m 73 #[.val (.int p0), .val (.int p1), .val (.int p2), .val (.int p3), .val (.int (vS p0)), .val (.int (vE p0 p1)), .val (.int (vH p2)), .val (.ref b2), .val (.int (vN p0 p1 p2)), .val (.long (vL p0 p1 p2)), .second, .unset, .unset] [])) _
  refine XS.lload X4.here hx rfl (hb hby at_73) rfl ?_
  show Steps p.tables e below (T4.setTop (mkF m 75 #[.val (.int p0), .val (.int p1), .val (.int p2), .val (.int p3), .val (.int (vS p0)), .val (.int (vE p0 p1)), .val (.int (vH p2)), .val (.ref b2), .val (.int (vN p0 p1 p2)), .val (.long (vL p0 p1 p2)), .second, .unset, .unset] [(.long (vL p0 p1 p2))])) _
  refine XS.iload X4.here hx rfl (hb hby at_75) rfl ?_
  show Steps p.tables e below (T4.setTop (mkF m 77 #[.val (.int p0), .val (.int p1), .val (.int p2), .val (.int p3), .val (.int (vS p0)), .val (.int (vE p0 p1)), .val (.int (vH p2)), .val (.ref b2), .val (.int (vN p0 p1 p2)), .val (.long (vL p0 p1 p2)), .second, .unset, .unset] [(.int (vH p2)), (.long (vL p0 p1 p2))])) _
  refine XS.i2l X4.here hx rfl (hb hby at_77) rfl ?_
  show Steps p.tables e below (T4.setTop (mkF m 78 #[.val (.int p0), .val (.int p1), .val (.int p2), .val (.int p3), .val (.int (vS p0)), .val (.int (vE p0 p1)), .val (.int (vH p2)), .val (.ref b2), .val (.int (vN p0 p1 p2)), .val (.long (vL p0 p1 p2)), .second, .unset, .unset] [(.long ((vH p2).toInt64)), (.long (vL p0 p1 p2))])) _
  refine XS.ladd X4.here hx rfl (hb hby at_78) rfl ?_
  show Steps p.tables e below (T4.setTop (mkF m 79 #[.val (.int p0), .val (.int p1), .val (.int p2), .val (.int p3), .val (.int (vS p0)), .val (.int (vE p0 p1)), .val (.int (vH p2)), .val (.ref b2), .val (.int (vN p0 p1 p2)), .val (.long (vL p0 p1 p2)), .second, .unset, .unset] [(.long ((vL p0 p1 p2) + ((vH p2).toInt64)))])) _
  refine XS.lstore X4.here hx rfl (hb hby at_79) rfl (l' := #[.val (.int p0), .val (.int p1), .val (.int p2), .val (.int p3), .val (.int (vS p0)), .val (.int (vE p0 p1)), .val (.int (vH p2)), .val (.ref b2), .val (.int (vN p0 p1 p2)), .val (.long (vL p0 p1 p2)), .second, .val (.long ((vL p0 p1 p2) + ((vH p2).toInt64))), .second]) rfl ?_
  show Steps p.tables e below (T4.setTop (mkF m 81 #[.val (.int p0), .val (.int p1), .val (.int p2), .val (.int p3), .val (.int (vS p0)), .val (.int (vE p0 p1)), .val (.int (vH p2)), .val (.ref b2), .val (.int (vN p0 p1 p2)), .val (.long (vL p0 p1 p2)), .second, .val (.long ((vL p0 p1 p2) + ((vH p2).toInt64))), .second] [])) _
  refine XS.lload X4.here hx rfl (hb hby at_81) rfl ?_
  show Steps p.tables e below (T4.setTop (mkF m 83 #[.val (.int p0), .val (.int p1), .val (.int p2), .val (.int p3), .val (.int (vS p0)), .val (.int (vE p0 p1)), .val (.int (vH p2)), .val (.ref b2), .val (.int (vN p0 p1 p2)), .val (.long (vL p0 p1 p2)), .second, .val (.long ((vL p0 p1 p2) + ((vH p2).toInt64))), .second] [(.long (vL p0 p1 p2))])) _
  refine XS.iload X4.here hx rfl (hb hby at_83) rfl ?_
  show Steps p.tables e below (T4.setTop (mkF m 85 #[.val (.int p0), .val (.int p1), .val (.int p2), .val (.int p3), .val (.int (vS p0)), .val (.int (vE p0 p1)), .val (.int (vH p2)), .val (.ref b2), .val (.int (vN p0 p1 p2)), .val (.long (vL p0 p1 p2)), .second, .val (.long ((vL p0 p1 p2) + ((vH p2).toInt64))), .second] [(.int (vE p0 p1)), (.long (vL p0 p1 p2))])) _
  refine XS.i2l X4.here hx rfl (hb hby at_85) rfl ?_
  show Steps p.tables e below (T4.setTop (mkF m 86 #[.val (.int p0), .val (.int p1), .val (.int p2), .val (.int p3), .val (.int (vS p0)), .val (.int (vE p0 p1)), .val (.int (vH p2)), .val (.ref b2), .val (.int (vN p0 p1 p2)), .val (.long (vL p0 p1 p2)), .second, .val (.long ((vL p0 p1 p2) + ((vH p2).toInt64))), .second] [(.long ((vE p0 p1).toInt64)), (.long (vL p0 p1 p2))])) _
  refine XS.lcmp X4.here hx rfl (hb hby at_86) rfl ?_
  show Steps p.tables e below (T4.setTop (mkF m 87 #[.val (.int p0), .val (.int p1), .val (.int p2), .val (.int p3), .val (.int (vS p0)), .val (.int (vE p0 p1)), .val (.int (vH p2)), .val (.ref b2), .val (.int (vN p0 p1 p2)), .val (.long (vL p0 p1 p2)), .second, .val (.long ((vL p0 p1 p2) + ((vH p2).toInt64))), .second] [(.int (lcmpW (vL p0 p1 p2) ((vE p0 p1).toInt64)))])) _
  refine XS.ifNo X4.here hx rfl (hb hby at_87) rfl ((if0 _ _).trans (tlt ((lw_lt _ _).mpr hc87)).2.1) ?_
  show Steps p.tables e below (T4.setTop (mkF m 90 #[.val (.int p0), .val (.int p1), .val (.int p2), .val (.int p3), .val (.int (vS p0)), .val (.int (vE p0 p1)), .val (.int (vH p2)), .val (.ref b2), .val (.int (vN p0 p1 p2)), .val (.long (vL p0 p1 p2)), .second, .val (.long ((vL p0 p1 p2) + ((vH p2).toInt64))), .second] [])) _
  refine XS.lload X4.here hx rfl (hb hby at_90) rfl ?_
  show Steps p.tables e below (T4.setTop (mkF m 92 #[.val (.int p0), .val (.int p1), .val (.int p2), .val (.int p3), .val (.int (vS p0)), .val (.int (vE p0 p1)), .val (.int (vH p2)), .val (.ref b2), .val (.int (vN p0 p1 p2)), .val (.long (vL p0 p1 p2)), .second, .val (.long ((vL p0 p1 p2) + ((vH p2).toInt64))), .second] [(.long ((vL p0 p1 p2) + ((vH p2).toInt64)))])) _
  refine XS.iload X4.here hx rfl (hb hby at_92) rfl ?_
  show Steps p.tables e below (T4.setTop (mkF m 94 #[.val (.int p0), .val (.int p1), .val (.int p2), .val (.int p3), .val (.int (vS p0)), .val (.int (vE p0 p1)), .val (.int (vH p2)), .val (.ref b2), .val (.int (vN p0 p1 p2)), .val (.long (vL p0 p1 p2)), .second, .val (.long ((vL p0 p1 p2) + ((vH p2).toInt64))), .second] [(.int (vE p0 p1)), (.long ((vL p0 p1 p2) + ((vH p2).toInt64)))])) _
  refine XS.i2l X4.here hx rfl (hb hby at_94) rfl ?_
  show Steps p.tables e below (T4.setTop (mkF m 95 #[.val (.int p0), .val (.int p1), .val (.int p2), .val (.int p3), .val (.int (vS p0)), .val (.int (vE p0 p1)), .val (.int (vH p2)), .val (.ref b2), .val (.int (vN p0 p1 p2)), .val (.long (vL p0 p1 p2)), .second, .val (.long ((vL p0 p1 p2) + ((vH p2).toInt64))), .second] [(.long ((vE p0 p1).toInt64)), (.long ((vL p0 p1 p2) + ((vH p2).toInt64)))])) _
  refine XS.lcmp X4.here hx rfl (hb hby at_95) rfl ?_
  show Steps p.tables e below (T4.setTop (mkF m 96 #[.val (.int p0), .val (.int p1), .val (.int p2), .val (.int p3), .val (.int (vS p0)), .val (.int (vE p0 p1)), .val (.int (vH p2)), .val (.ref b2), .val (.int (vN p0 p1 p2)), .val (.long (vL p0 p1 p2)), .second, .val (.long ((vL p0 p1 p2) + ((vH p2).toInt64))), .second] [(.int (lcmpW ((vL p0 p1 p2) + ((vH p2).toInt64)) ((vE p0 p1).toInt64)))])) _
  refine XS.ifNo X4.here hx rfl (hb hby at_96) rfl ((if0 _ _).trans (flt (fun q => hc96 ((lw_lt _ _).mp q))).1) ?_
  show Steps p.tables e below (T4.setTop (mkF m 99 #[.val (.int p0), .val (.int p1), .val (.int p2), .val (.int p3), .val (.int (vS p0)), .val (.int (vE p0 p1)), .val (.int (vH p2)), .val (.ref b2), .val (.int (vN p0 p1 p2)), .val (.long (vL p0 p1 p2)), .second, .val (.long ((vL p0 p1 p2) + ((vH p2).toInt64))), .second] [])) _
  refine XS.iconst X4.here hx rfl (hb hby at_99) ?_
  show Steps p.tables e below (T4.setTop (mkF m 100 #[.val (.int p0), .val (.int p1), .val (.int p2), .val (.int p3), .val (.int (vS p0)), .val (.int (vE p0 p1)), .val (.int (vH p2)), .val (.ref b2), .val (.int (vN p0 p1 p2)), .val (.long (vL p0 p1 p2)), .second, .val (.long ((vL p0 p1 p2) + ((vH p2).toInt64))), .second] [(.int (1 : Int32))])) _
  refine XS.goto X4.here hx rfl (pc0 := 100) (pc' := 104) rfl (hb hby at_100) (by decide) (by decide) ?_
  show Steps p.tables e below (T4.setTop (mkF m 104 #[.val (.int p0), .val (.int p1), .val (.int p2), .val (.int p3), .val (.int (vS p0)), .val (.int (vE p0 p1)), .val (.int (vH p2)), .val (.ref b2), .val (.int (vN p0 p1 p2)), .val (.long (vL p0 p1 p2)), .second, .val (.long ((vL p0 p1 p2) + ((vH p2).toInt64))), .second] [(.int (1 : Int32))])) _
  exact retN X4 hx (t := .boolean) Bd.returns (by simp) (hb hby at_104) hr
theorem own_vS (p0 : Int32) : 0 ≤ (vS p0).toInt ∧ (vS p0).toInt < 1073741824 := by
  show 0 ≤ (p0 &&& (1073741823 : Int32)).toInt ∧ (p0 &&& (1073741823 : Int32)).toInt < 1073741824
  rw [c_mask p0 1073741823 30 (by decide) (by decide)]
  exact ⟨Int.emod_nonneg _ (by decide), Int.emod_lt_of_pos _ (by decide)⟩
theorem own_vE (p0 p1 : Int32) : (vE p0 p1).toInt = (vS p0).toInt + 1 + (vS p1).toInt := by
  have a := own_vS p0
  have b := own_vS p1
  have c := c_iadd (vS p0) 1
  have d := c_iadd (vS p0 + 1) (vS p1)
  have r1 := rng32 (vS p0 + 1)
  have r2 := rng32 (vS p0 + 1 + vS p1)
  have e1 : (1 : Int32).toInt = 1 := rfl
  show (vS p0 + 1 + vS p1).toInt = _
  omega
theorem own_vH (p2 : Int32) : 1 ≤ (vH p2).toInt ∧ (vH p2).toInt < 2147483648 := by
  have a : 0 ≤ (p2 &&& (2147483647 : Int32)).toInt := by
    rw [c_mask p2 2147483647 31 (by decide) (by decide)]; exact Int.emod_nonneg _ (by decide)
  have r := rng32 (p2 &&& (2147483647 : Int32))
  have e1 : (1 : Int32).toInt = 1 := rfl
  show 1 ≤ (F1_0 (1 : Int32) (p2 &&& (2147483647 : Int32))).toInt ∧ (F1_0 (1 : Int32) (p2 &&& (2147483647 : Int32))).toInt < 2147483648
  by_cases h : (1 : Int32) < (p2 &&& (2147483647 : Int32))
  · rw [show F1_0 (1 : Int32) (p2 &&& (2147483647 : Int32)) = (p2 &&& (2147483647 : Int32)) from if_pos h]
    rw [Int32.lt_iff_toInt_lt] at h; omega
  · rw [show F1_0 (1 : Int32) (p2 &&& (2147483647 : Int32)) = 1 from if_neg h]; omega
theorem own_nz (p2 : Int32) : ¬ (vH p2) = (0 : Int32) := by
  intro h
  have a := own_vH p2
  rw [h] at a
  have e0 : (0 : Int32).toInt = 0 := rfl
  omega
theorem own_vN (p0 p1 p2 : Int32) : (vN p0 p1 p2).toInt = (vS p1).toInt / (vH p2).toInt + 1 := by
  have a := own_vS p0
  have b := own_vS p1
  have c := own_vH p2
  have e := own_vE p0 p1
  have e1 : (1 : Int32).toInt = 1 := rfl
  have em1 : (-1 : Int32).toInt = -1 := rfl
  have d1 := c_isub (vE p0 p1) (vS p0)
  have r1 := rng32 (vE p0 p1 - vS p0)
  have d2 := c_isub (vE p0 p1 - vS p0) 1
  have r2 := rng32 (vE p0 p1 - vS p0 - 1)
  have t : (vE p0 p1 - vS p0 - 1).toInt = (vS p1).toInt := by omega
  have q := (c_idiv (vE p0 p1 - vS p0 - 1) (vH p2) _ rfl (fun z => by rw [z] at c; omega)).1 (by omega)
  rw [t] at q
  have q0 : 0 ≤ (vS p1).toInt / (vH p2).toInt := Int.ediv_nonneg b.1 (by omega)
  have q1 : (vS p1).toInt / (vH p2).toInt ≤ (vS p1).toInt := Int.ediv_le_self _ b.1
  have d3 := c_iadd ((vE p0 p1 - vS p0 - 1) / vH p2) 1
  have r3 := rng32 ((vE p0 p1 - vS p0 - 1) / vH p2 + 1)
  show ((vE p0 p1 - vS p0 - 1) / vH p2 + 1).toInt = _
  omega
theorem own_n (p0 p1 p2 : Int32) : ¬ (vN p0 p1 p2) < (1 : Int32) := by
  have a := own_vN p0 p1 p2
  have b := own_vS p1
  have c := own_vH p2
  have q0 : 0 ≤ (vS p1).toInt / (vH p2).toInt := Int.ediv_nonneg b.1 (by omega)
  have e1 : (1 : Int32).toInt = 1 := rfl
  rw [Int32.lt_iff_toInt_lt]; omega
theorem own_vL (p0 p1 p2 : Int32) : (vL p0 p1 p2).toInt = (vS p0).toInt + (vS p1).toInt / (vH p2).toInt * (vH p2).toInt := by
  have a := own_vS p0
  have b := own_vS p1
  have c := own_vH p2
  have n := own_vN p0 p1 p2
  have q0 : 0 ≤ (vS p1).toInt / (vH p2).toInt := Int.ediv_nonneg b.1 (by omega)
  have q1 : (vS p1).toInt / (vH p2).toInt ≤ (vS p1).toInt := Int.ediv_le_self _ b.1
  have q2 : (vS p1).toInt / (vH p2).toInt * (vH p2).toInt ≤ (vS p1).toInt := Int.ediv_mul_le _ (by omega)
  have q3 : 0 ≤ (vS p1).toInt / (vH p2).toInt * (vH p2).toInt := Int.mul_nonneg q0 (by omega)
  have e1 : (1 : Int32).toInt = 1 := rfl
  have d1 := c_isub (vN p0 p1 p2) 1
  have r1 := rng32 (vN p0 p1 p2 - 1)
  have t1 : (vN p0 p1 p2 - 1).toInt = (vS p1).toInt / (vH p2).toInt := by omega
  have d2 := c_lmul (vN p0 p1 p2 - 1).toInt64 (vH p2).toInt64
  rw [c_i2l, c_i2l, t1] at d2
  have r2 := rng64 ((vN p0 p1 p2 - 1).toInt64 * (vH p2).toInt64)
  have d3 := c_ladd (vS p0).toInt64 ((vN p0 p1 p2 - 1).toInt64 * (vH p2).toInt64)
  rw [c_i2l] at d3
  have r3 := rng64 ((vS p0).toInt64 + (vN p0 p1 p2 - 1).toInt64 * (vH p2).toInt64)
  show ((vS p0).toInt64 + (vN p0 p1 p2 - 1).toInt64 * (vH p2).toInt64).toInt = _
  omega
theorem own_last (p0 p1 p2 : Int32) : (vL p0 p1 p2) < ((vE p0 p1).toInt64) := by
  have c := own_vH p2
  have q2 : (vS p1).toInt / (vH p2).toInt * (vH p2).toInt ≤ (vS p1).toInt := Int.ediv_mul_le _ (by omega)
  have e := own_vE p0 p1
  have l := own_vL p0 p1 p2
  rw [Int64.lt_iff_toInt_lt, c_i2l]; omega
theorem own_next (p0 p1 p2 : Int32) : ¬ ((vL p0 p1 p2) + ((vH p2).toInt64)) < ((vE p0 p1).toInt64) := by
  have a := own_vS p0
  have b := own_vS p1
  have c := own_vH p2
  have e := own_vE p0 p1
  have l := own_vL p0 p1 p2
  have q2 : (vS p1).toInt / (vH p2).toInt * (vH p2).toInt ≤ (vS p1).toInt := Int.ediv_mul_le _ (by omega)
  have q3 : 0 ≤ (vS p1).toInt / (vH p2).toInt * (vH p2).toInt := Int.mul_nonneg (Int.ediv_nonneg b.1 (by omega)) (by omega)
  have q4 : (vS p1).toInt < (vS p1).toInt / (vH p2).toInt * (vH p2).toInt + (vH p2).toInt := by have h1 := Int.emod_add_mul_ediv (vS p1).toInt (vH p2).toInt; have h2 := Int.emod_lt_of_pos (vS p1).toInt (b := (vH p2).toInt) (by omega); rw [Int.mul_comm] at h1; omega
  have d := c_ladd (vL p0 p1 p2) (vH p2).toInt64
  have r := rng64 ((vL p0 p1 p2) + (vH p2).toInt64)
  rw [c_i2l] at d
  rw [Int64.lt_iff_toInt_lt, c_i2l]; omega

set_option maxRecDepth 65536 in
set_option maxHeartbeats 40000000 in
theorem comes_1 {Post : Tables → Env → Array Value → State → Outcome → State → Prop} (hpost : ∀ tb e args s v u, (limb_1_1.after args s (.returned v) u = true ∧ limb_1_2.after args s (.returned v) u = true ∧ True) → FrameEnd s (.returned v) u (Jvm.fieldLocs frame_1_writes args s ++ Jvm.arrayLocs frame_1_arrays args s ++ Jvm.staticLocs frame_1_statics s) 16 128 → Post tb e args s (.returned v) u) :
    ArmFor flags0 classFile x code maxLocals ret World_1 tables_1 room_1 Calls_1 rest_1 Pre_1 Post := by
  intro l hfl _ _ p e ha hc hk s m args below hf hA hF happ hP
  obtain ⟨hcalls, hrest, hpre⟩ := hP
  obtain ⟨-, -, -, hnamed, -, -, -, hat⟩ := (Spec.applies_iff hf).mp happ
  obtain ⟨hg, hn⟩ := and_e (Cond.before_iff.mp (show (Jvm.Cond.and given_1 narrow_1).before args s = true from hpre))
  obtain ⟨gc, g0⟩ := and_e hg
  obtain ⟨k0, g1⟩ := and_e g0
  obtain ⟨k1, g2⟩ := and_e g1
  obtain ⟨k2, g3⟩ := and_e g2
  have k3 := g3
  obtain ⟨w0, w1, w2, w3, rfl⟩ : ∃ w0 w1 w2 w3 : Value, args = #[w0, w1, w2, w3] := by
    have hs : args.size = 4 := by simpa [Cond.value, given_1] using gc
    obtain ⟨L⟩ := args
    match L, hs with
    | [w0, w1, w2, w3], _ => exact ⟨w0, w1, w2, w3, rfl⟩
  have hw := fun d (hd : d ∈ tables_1) => atoms_spec (ws := Jvm.Cond.code x code maxLocals ret :: tables_1) hat d (List.mem_cons_of_mem _ hd)
  obtain ⟨i0, ei0⟩ := is_v k0
  obtain rfl : w0 = (.int i0) := Option.some.inj ei0
  obtain ⟨i1, ei1⟩ := is_v k1
  obtain rfl : w1 = (.int i1) := Option.some.inj ei1
  obtain ⟨i2, ei2⟩ := is_v k2
  obtain rfl : w2 = (.int i2) := Option.some.inj ei2
  obtain ⟨i3, ei3⟩ := is_v k3
  obtain rfl : w3 = (.int i3) := Option.some.inj ei3
  obtain ⟨n, o, h1, h2, h3, _, L, rfl, ⟨rfl, N⟩, hq⟩ := rm0 l s _ hw tables_1 i0 i1 i2 i3 s.heap s.heap.size (Nat.le_refl _) (own_nz i2) (own_n i0 i1 i2) (own_last i0 i1 i2) (own_next i0 i1 i2) p e ha hc hk s m _ below hf ((Spec.applies_iff_loose hf).mp happ).1 ⟨rfl, State.Warmed39.refl s, rfl⟩ trivial
  refine ⟨n, _, h1, h2, h3, hpost _ _ _ _ _ _ ⟨Cond.after_iff.mpr rfl, Cond.after_iff.mpr (eq_i res_at (Term.int_eval (1)) rfl), trivial⟩ ⟨hq.1, hq.2.1, (hq.2.2.sift fun y hy => Or.inr (N y hy)).mono (by decide) (by decide)⟩⟩
theorem main_1_1 : Claimed_1_1 := comes_1 fun _ _ _ _ _ _ h hF => ⟨h.1, hF⟩
theorem main_1_2 : Claimed_1_2 := comes_1 fun _ _ _ _ _ _ h hF => ⟨h.2.1, hF⟩
end Jvm.Pilot.@@N@@
namespace Jvm.Pilot.@@N@@
open Jvm Jvm.ClassFile Sem Op Lib Jvm.Free Jvm.Stand Jvm.Pilot.@@N@@.Jvm.D
/-! MADE BY PROGRAM (witnessworld.py) out of the Statement's table words and the real class files: 11 classes; the members and pool entries that the words name. The judged class is class 1, her method 1. -/
namespace start1
open Jvm.ClassFile
def u (s : String) : CpInfo := .utf8 (stringToUtf16 s)
/-- a pool by its gaps: so many unusable entries, then the entry; so many at the end -/
def gap : Nat → List CpInfo → List CpInfo
  | 0, r => r
  | n + 1, r => .unusable :: gap n r
def poolList (es : List (Nat × CpInfo)) (last : Nat) : List CpInfo := es.foldr (fun e r => gap e.1 (e.2 :: r)) (gap last [])
def pool (es : List (Nat × CpInfo)) (last : Nat) : Array CpInfo := ⟨poolList es last⟩
def fileOf (pool : Array CpInfo) (this : Nat) (attrs : Array Attribute := #[]) (ms : Array MethodInfo := #[]) (fl : Nat := 33) (sup : Nat := 0) (ifs : Array Nat := #[]) (fds : Array FieldInfo := #[]) : ClassFile where
  minorVersion := 0
  majorVersion := 65
  constantPool := pool
  accessFlags := fl
  thisClass := this
  superClass := sup
  interfaces := ifs
  fields := fds
  methods := ms
  attributes := attrs
def plain (name : String) (sup : Option ClassId) : Class where
  name := name
  kind := .ordinary
  loader := none
  accessFlags := 33
  super := sup
  interfaces := #[]
  cf := none
  fields := #[]
  methods := #[]
  instanceTypes := #[]
  staticTypes := #[]
  resolved := #[]
  callSites := []
  init := .initialized
  statics := none
  mirror := none

def pool0 : Array CpInfo := pool [(5, u "<init>"), (0, u "()V"), (1, .class_ 10), (1, u "java/lang/Object")] 113

def k0c0 : Code := { maxStack := 0, maxLocals := 1, code := object_method_1_code, exceptionTable := #[], attributes := #[] }
def k0m0 : Method := { name := "<init>", desc := "()V", sig := { parameters := [], returnType := none }, accessFlags := 1, code := some k0c0 }
/-- java/lang/Object -/
def k0 : Class := { plain "java/lang/Object" none with
  accessFlags := 33
  interfaces := #[]
  cf := some (fileOf pool0 8 #[] #[{ accessFlags := 1, nameIndex := 5, descriptorIndex := 6, attributes := #[] }] 33 0 #[] #[])
  fields := #[]
  methods := #[k0m0]
  instanceTypes := #[]
  staticTypes := #[]
  resolved := Array.replicate 124 none
  statics := none }

def pool1 : Array CpInfo := pool [(2, .class_ 4), (1, u "java/lang/Object"), (0, u "<init>"), (0, u "()V"), (0, .integer 1073741823), (0, .integer 2147483647), (0, .methodref 10 11), (0, .class_ 12), (0, .nameAndType 13 14), (0, u "java/lang/Math"), (0, u "max"), (0, u "(II)I"), (0, .class_ 16), (0, u "com/example/reroster/reroster/cli/GtfsFrequencies$Period"), (0, .methodref 15 18), (0, .nameAndType 5 19), (0, u "(IIII)V"), (0, .methodref 15 21), (0, .nameAndType 22 23), (0, u "runCount"), (0, u "()I"), (0, .class_ 25), (0, u "com/example/reroster/reroster/cli/PeriodRunCountPinLaw"), (2, u "law"), (0, u "(IIII)Z")] 7

def k1m0 : Method := { name := "<init>", desc := "()V", sig := { parameters := [], returnType := none }, accessFlags := 1, code := none }
def k1c1 : Code := { maxStack := 6, maxLocals := 13, code := code, exceptionTable := #[], attributes := #[] }
def k1m1 : Method := { name := "law", desc := "(IIII)Z", sig := { parameters := [.int, .int, .int, .int], returnType := some .boolean }, accessFlags := 9, code := some k1c1 }
/-- com/example/reroster/reroster/cli/PeriodRunCountPinLaw -/
def k1 : Class := { plain "com/example/reroster/reroster/cli/PeriodRunCountPinLaw" (some 0) with
  accessFlags := 49
  interfaces := #[]
  cf := some (fileOf pool1 24 #[] #[{ accessFlags := 1, nameIndex := 5, descriptorIndex := 6, attributes := #[] }, { accessFlags := 9, nameIndex := 28, descriptorIndex := 29, attributes := #[] }] 49 2 #[] #[])
  fields := #[]
  methods := #[k1m0, k1m1]
  instanceTypes := #[]
  staticTypes := #[]
  resolved := Array.replicate 37 none
  statics := none }

def pool2 : Array CpInfo := pool [(1, .class_ 2), (0, u "java/lang/Math"), (1, .class_ 6), (1, u "java/lang/Object"), (0, u "<init>"), (0, u "()V"), (89, .class_ 100), (1, u "java/lang/Math$RandomNumberGeneratorHolder"), (71, u "negativeZeroFloatBits"), (0, u "J"), (2, u "negativeZeroDoubleBits"), (21, u "max"), (46, u "$assertionsDisabled"), (0, u "Z"), (88, u "(II)I"), (2, u "twoToTheDoubleScaleDown"), (0, u "D"), (4, u "twoToTheDoubleScaleUp"), (9, u "E"), (3, u "PI"), (2, u "TAU"), (2, u "DEGREES_TO_RADIANS"), (0, u "RADIANS_TO_DEGREES")] 94

def k2m0 : Method := { name := "<init>", desc := "()V", sig := { parameters := [], returnType := none }, accessFlags := 2, code := none }
def k2c1 : Code := { maxStack := 2, maxLocals := 2, code := jdk_29_method_65_code, exceptionTable := #[], attributes := #[] }
def k2m1 : Method := { name := "max", desc := "(II)I", sig := { parameters := [.int, .int], returnType := some .int }, accessFlags := 9, code := some k2c1 }
/-- java/lang/Math -/
def k2 : Class := { plain "java/lang/Math" (some 0) with
  accessFlags := 49
  interfaces := #[]
  cf := some (fileOf pool2 1 #[.nestMembers #[98]] #[{ accessFlags := 2, nameIndex := 7, descriptorIndex := 8, attributes := #[] }, { accessFlags := 9, nameIndex := 198, descriptorIndex := 335, attributes := #[] }] 49 4 #[] #[{ accessFlags := 25, nameIndex := 354, descriptorIndex := 339, attributes := #[] }, { accessFlags := 25, nameIndex := 358, descriptorIndex := 339, attributes := #[] }, { accessFlags := 25, nameIndex := 361, descriptorIndex := 339, attributes := #[] }, { accessFlags := 26, nameIndex := 364, descriptorIndex := 339, attributes := #[] }, { accessFlags := 26, nameIndex := 365, descriptorIndex := 339, attributes := #[] }, { accessFlags := 26, nameIndex := 172, descriptorIndex := 173, attributes := #[] }, { accessFlags := 26, nameIndex := 176, descriptorIndex := 173, attributes := #[] }, { accessFlags := 8, nameIndex := 344, descriptorIndex := 339, attributes := #[] }, { accessFlags := 8, nameIndex := 338, descriptorIndex := 339, attributes := #[] }, { accessFlags := 4120, nameIndex := 245, descriptorIndex := 246, attributes := #[] }])
  fields := #[{ name := "E", type := .double, accessFlags := 25, slot := 0, constantValue := 0 }, { name := "PI", type := .double, accessFlags := 25, slot := 1, constantValue := 0 }, { name := "TAU", type := .double, accessFlags := 25, slot := 2, constantValue := 0 }, { name := "DEGREES_TO_RADIANS", type := .double, accessFlags := 26, slot := 3, constantValue := 0 }, { name := "RADIANS_TO_DEGREES", type := .double, accessFlags := 26, slot := 4, constantValue := 0 }, { name := "negativeZeroFloatBits", type := .long, accessFlags := 26, slot := 5, constantValue := 0 }, { name := "negativeZeroDoubleBits", type := .long, accessFlags := 26, slot := 6, constantValue := 0 }, { name := "twoToTheDoubleScaleUp", type := .double, accessFlags := 8, slot := 7, constantValue := 0 }, { name := "twoToTheDoubleScaleDown", type := .double, accessFlags := 8, slot := 8, constantValue := 0 }, { name := "$assertionsDisabled", type := .boolean, accessFlags := 4120, slot := 9, constantValue := 0 }]
  methods := #[k2m0, k2m1]
  instanceTypes := #[]
  staticTypes := #[.double, .double, .double, .double, .double, .long, .long, .double, .double, .boolean]
  resolved := Array.replicate 460 none
  statics := none }

def pool3 : Array CpInfo := pool [(1, .methodref 2 3), (0, .class_ 4), (0, .nameAndType 5 6), (0, u "java/lang/Object"), (0, u "<init>"), (0, u "()V"), (0, .class_ 8), (0, u "java/lang/Record")] 13

def k3c0 : Code := { maxStack := 1, maxLocals := 1, code := jdk_30_method_1_code, exceptionTable := #[], attributes := #[] }
def k3m0 : Method := { name := "<init>", desc := "()V", sig := { parameters := [], returnType := none }, accessFlags := 4, code := some k3c0 }
/-- java/lang/Record -/
def k3 : Class := { plain "java/lang/Record" (some 0) with
  accessFlags := 1057
  interfaces := #[]
  cf := some (fileOf pool3 7 #[] #[{ accessFlags := 4, nameIndex := 5, descriptorIndex := 6, attributes := #[] }] 1057 2 #[] #[])
  fields := #[]
  methods := #[k3m0]
  instanceTypes := #[]
  staticTypes := #[]
  resolved := Array.replicate 22 none
  statics := none }

def pool4 : Array CpInfo := pool [(1, .methodref 2 3), (0, .class_ 4), (0, .nameAndType 5 6), (0, u "java/lang/Record"), (0, u "<init>"), (0, u "()V"), (0, .fieldref 8 9), (0, .class_ 10), (0, .nameAndType 11 12), (0, u "com/example/reroster/reroster/cli/GtfsFrequencies$Period"), (0, u "start"), (0, u "I"), (0, .fieldref 8 14), (0, .nameAndType 15 12), (0, u "end"), (0, .fieldref 8 17), (0, .nameAndType 18 12), (0, u "headway"), (0, .fieldref 8 20), (0, .nameAndType 21 12), (0, u "line"), (2, u "runCount"), (0, u "()I"), (30, u "(IIII)V"), (11, .class_ 69), (0, u "com/example/reroster/reroster/cli/GtfsFrequencies")] 33

def k4c0 : Code := { maxStack := 2, maxLocals := 5, code := prog_12_method_1_code, exceptionTable := #[], attributes := #[] }
def k4m0 : Method := { name := "<init>", desc := "(IIII)V", sig := { parameters := [.int, .int, .int, .int], returnType := none }, accessFlags := 0, code := some k4c0 }
def k4c1 : Code := { maxStack := 2, maxLocals := 1, code := prog_12_method_2_code, exceptionTable := #[], attributes := #[] }
def k4m1 : Method := { name := "runCount", desc := "()I", sig := { parameters := [], returnType := some .int }, accessFlags := 0, code := some k4c1 }
/-- com/example/reroster/reroster/cli/GtfsFrequencies$Period -/
def k4 : Class := { plain "com/example/reroster/reroster/cli/GtfsFrequencies$Period" (some 3) with
  accessFlags := 48
  interfaces := #[]
  cf := some (fileOf pool4 8 #[.nestHost 68] #[{ accessFlags := 0, nameIndex := 5, descriptorIndex := 56, attributes := #[] }, { accessFlags := 0, nameIndex := 24, descriptorIndex := 25, attributes := #[] }] 48 2 #[] #[{ accessFlags := 18, nameIndex := 11, descriptorIndex := 12, attributes := #[] }, { accessFlags := 18, nameIndex := 15, descriptorIndex := 12, attributes := #[] }, { accessFlags := 18, nameIndex := 18, descriptorIndex := 12, attributes := #[] }, { accessFlags := 18, nameIndex := 21, descriptorIndex := 12, attributes := #[] }])
  fields := #[{ name := "start", type := .int, accessFlags := 18, slot := 0, constantValue := 0 }, { name := "end", type := .int, accessFlags := 18, slot := 1, constantValue := 0 }, { name := "headway", type := .int, accessFlags := 18, slot := 2, constantValue := 0 }, { name := "line", type := .int, accessFlags := 18, slot := 3, constantValue := 0 }]
  methods := #[k4m0, k4m1]
  instanceTypes := #[.int, .int, .int, .int]
  staticTypes := #[]
  resolved := Array.replicate 103 none
  statics := none }

def pool5 : Array CpInfo := pool [(1, u "java/lang/Cloneable"), (0, .class_ 1), (0, u "java/lang/Object"), (0, .class_ 3)] 3

/-- java/lang/Cloneable -/
def k5 : Class := { plain "java/lang/Cloneable" (some 0) with
  accessFlags := 1537
  interfaces := #[]
  cf := some (fileOf pool5 2 #[] #[] 1537 4 #[] #[])
  fields := #[]
  methods := #[]
  instanceTypes := #[]
  staticTypes := #[]
  resolved := Array.replicate 8 none
  statics := none }

def pool6 : Array CpInfo := pool [(1, u "java/io/Serializable"), (0, .class_ 1), (0, u "java/lang/Object"), (0, .class_ 3)] 3

/-- java/io/Serializable -/
def k6 : Class := { plain "java/io/Serializable" (some 0) with
  accessFlags := 1537
  interfaces := #[]
  cf := some (fileOf pool6 2 #[] #[] 1537 4 #[] #[])
  fields := #[]
  methods := #[]
  instanceTypes := #[]
  staticTypes := #[]
  resolved := Array.replicate 8 none
  statics := none }

/-- the primitive byte -/
def k7 : Class := { plain "byte" none with kind := .primitive 'B', accessFlags := 0x411 }
/-- [B -/
def k8 : Class := { plain "[B" (some 0) with kind := .array 7 .byte, interfaces := #[5, 6], accessFlags := 1041 }

/-- the primitive int -/
def k9 : Class := { plain "int" none with kind := .primitive 'I', accessFlags := 0x411 }
/-- [I -/
def k10 : Class := { plain "[I" (some 0) with kind := .array 9 .int, interfaces := #[5, 6], accessFlags := 1041 }

def heap : Heap := #[]
def classes : Array Class := #[k0, k1, k2, k3, k4, k5, k6, k7, k8, k9, k10]
def interned : List (Array UInt16 × Addr) := []
def slotsUsed : Nat := 0
def theMethod : MethodId := ⟨1, 1⟩
def args0 : Array Value := #[.int 5, .int 5, .int 5, .int 5]
def aboutOver (below : List Frame) : State where
  vm := { classes := classes, interned := interned.toArray }
  heap := heap
  slotsUsed := slotsUsed
  threads := #[{ frames := .invoking theMethod args0 :: below }]
def below0 : List Frame := [.native { method := ⟨0, 0⟩, args := #[] }]
def about1 : State := aboutOver below0
def p0 : Program := .bare "" "" ""
def e0 : Env := launch0.env 0 0 0
theorem w_frames : about1.frames = Frame.invoking theMethod args0 :: below0 := rfl
set_option maxRecDepth 65536 in
theorem w_args : argsFit about1.vm theMethod args0 = true := by decide +kernel
set_option maxRecDepth 65536 in
theorem w_heap : heapFits about1 = true := by decide +kernel
set_option maxRecDepth 65536 in
theorem w_runnable : about1.curStatus? = some .runnable := by decide +kernel
set_option maxRecDepth 65536 in
theorem w_alone : about1.alone = true := by decide +kernel
set_option maxRecDepth 65536 in
theorem w_named : about1.methodNamed? x = some theMethod := by decide +kernel
set_option maxRecDepth 65536 in
theorem w_hears : about1.hears theMethod below0 = true := by decide +kernel
set_option maxRecDepth 65536 in
theorem w_ripe : about1.ripe theMethod args0 below0 = true := by decide +kernel
theorem w_running : about1.status = .running := rfl
set_option maxRecDepth 65536 in
theorem w_room : about1.hasRoom e0.platform room_1 = true :=
  launch0.hasRoom_least _ room_1 (by decide +kernel) (by decide +kernel) (by decide +kernel) (by decide +kernel) (by decide +kernel) (by decide +kernel)
theorem allAtoms_all (ts : List Jvm.Cond) (a : Array Jvm.Value) (st : Jvm.State) : (allAtoms ts).before a st = ts.all (fun c => c.before a st) := by
  induction ts with
  | nil => rfl
  | cons c t ih =>
    show (Jvm.Cond.and c (allAtoms t)).before a st = _
    rw [Jvm.Cond.before_and, ih, List.all_cons]
def words1 : List Jvm.Cond := Jvm.Cond.code x code maxLocals ret :: tables_1
/-- a 'code' word, met by the world's own term for the bytes: nothing is compared byte by byte -/
theorem code_word {y : MethodName} {bytes : ByteArray} {mx : Nat} {rt : Option FieldType} {a : Array Value} {s : State} {m : MethodId} {meth : Method} {c : Code} (h1 : s.methodNamed? y = some m) (h2 : s.vm.method? m = some meth) (h3 : meth.code = some c) (h4 : c.code = bytes)
    (h5 : (c.maxLocals == mx && c.exceptionTable.isEmpty && decide (c.maxStack ≤ mostOperands) && decide (meth.sig.returnType = rt) && !meth.locks && decide (parseMethodDescriptor y.desc = some meth.sig)) = true) : (Jvm.Cond.code y bytes mx rt).before a s = true := by
  simp only [Bool.and_eq_true, beq_iff_eq, Bool.not_eq_true', decide_eq_true_eq] at h5
  obtain ⟨⟨⟨⟨⟨g1, g2⟩, g3⟩, g4⟩, g5⟩, g6⟩ := h5
  simp [Cond.before, Cond.holds, Cond.value, h1, h2, h3, h4, g1, g2, g3, g4, g5, g6]
def isCode : Jvm.Cond → Bool
  | .code _ _ _ _ => true
  | _ => false
theorem all_split {L : List Jvm.Cond} {P : Jvm.Cond → Bool} (h1 : L.all (fun c => isCode c || P c) = true) (h2 : ∀ c ∈ L.filter isCode, P c = true) : L.all P = true := by
  refine List.all_eq_true.mpr fun c hc => ?_
  have h := List.all_eq_true.mp h1 c hc
  rcases Bool.eq_false_or_eq_true (isCode c) with hi | hi
  · exact h2 c (List.mem_filter.mpr ⟨hc, hi⟩)
  · simpa [hi] using h
set_option maxRecDepth 65536 in
theorem w_c0 : (Jvm.Cond.code x code maxLocals ret).before args0 about1 = true := code_word (m := ⟨1, 1⟩) (meth := k1m1) (c := k1c1) (by decide +kernel) rfl rfl rfl (by decide +kernel)
set_option maxRecDepth 65536 in
theorem w_c1 : (Jvm.Cond.code ({ cls := "java/lang/Math", name := "max", desc := "(II)I" } : Jvm.MethodName) jdk_29_method_65_code (2 : Nat) (Option.some Jvm.ClassFile.FieldType.int)).before args0 about1 = true := code_word (m := ⟨2, 1⟩) (meth := k2m1) (c := k2c1) (by decide +kernel) rfl rfl rfl (by decide +kernel)
set_option maxRecDepth 65536 in
theorem w_c2 : (Jvm.Cond.code ({ cls := "com/example/reroster/reroster/cli/GtfsFrequencies$Period", name := "<init>", desc := "(IIII)V" } : Jvm.MethodName) prog_12_method_1_code (5 : Nat) (Option.none : Option Jvm.ClassFile.FieldType)).before args0 about1 = true := code_word (m := ⟨4, 0⟩) (meth := k4m0) (c := k4c0) (by decide +kernel) rfl rfl rfl (by decide +kernel)
set_option maxRecDepth 65536 in
theorem w_c3 : (Jvm.Cond.code ({ cls := "java/lang/Record", name := "<init>", desc := "()V" } : Jvm.MethodName) jdk_30_method_1_code (1 : Nat) (Option.none : Option Jvm.ClassFile.FieldType)).before args0 about1 = true := code_word (m := ⟨3, 0⟩) (meth := k3m0) (c := k3c0) (by decide +kernel) rfl rfl rfl (by decide +kernel)
set_option maxRecDepth 65536 in
theorem w_c4 : (Jvm.Cond.code ({ cls := "java/lang/Object", name := "<init>", desc := "()V" } : Jvm.MethodName) object_method_1_code (1 : Nat) (Option.none : Option Jvm.ClassFile.FieldType)).before args0 about1 = true := code_word (m := ⟨0, 0⟩) (meth := k0m0) (c := k0c0) (by decide +kernel) rfl rfl rfl (by decide +kernel)
set_option maxRecDepth 65536 in
theorem w_c5 : (Jvm.Cond.code ({ cls := "com/example/reroster/reroster/cli/GtfsFrequencies$Period", name := "runCount", desc := "()I" } : Jvm.MethodName) prog_12_method_2_code (1 : Nat) (Option.some Jvm.ClassFile.FieldType.int)).before args0 about1 = true := code_word (m := ⟨4, 1⟩) (meth := k4m1) (c := k4c1) (by decide +kernel) rfl rfl rfl (by decide +kernel)
def codes1 : List Jvm.Cond := [Jvm.Cond.code x code maxLocals ret, Jvm.Cond.code ({ cls := "java/lang/Math", name := "max", desc := "(II)I" } : Jvm.MethodName) jdk_29_method_65_code (2 : Nat) (Option.some Jvm.ClassFile.FieldType.int), Jvm.Cond.code ({ cls := "com/example/reroster/reroster/cli/GtfsFrequencies$Period", name := "<init>", desc := "(IIII)V" } : Jvm.MethodName) prog_12_method_1_code (5 : Nat) (Option.none : Option Jvm.ClassFile.FieldType), Jvm.Cond.code ({ cls := "java/lang/Record", name := "<init>", desc := "()V" } : Jvm.MethodName) jdk_30_method_1_code (1 : Nat) (Option.none : Option Jvm.ClassFile.FieldType), Jvm.Cond.code ({ cls := "java/lang/Object", name := "<init>", desc := "()V" } : Jvm.MethodName) object_method_1_code (1 : Nat) (Option.none : Option Jvm.ClassFile.FieldType), Jvm.Cond.code ({ cls := "com/example/reroster/reroster/cli/GtfsFrequencies$Period", name := "runCount", desc := "()I" } : Jvm.MethodName) prog_12_method_2_code (1 : Nat) (Option.some Jvm.ClassFile.FieldType.int)]
set_option maxRecDepth 65536 in
theorem codes_eq : words1.filter isCode = codes1 := rfl
theorem w_codes : ∀ c ∈ words1.filter isCode, c.before args0 about1 = true := by
  rw [codes_eq]
  intro c hc
  simp only [codes1, List.mem_cons, List.not_mem_nil, or_false] at hc
  rcases hc with rfl | rfl | rfl | rfl | rfl | rfl
  · exact w_c0
  · exact w_c1
  · exact w_c2
  · exact w_c3
  · exact w_c4
  · exact w_c5
set_option maxRecDepth 65536 in
theorem w_t1 : (words1.take 24).all (fun c => isCode c || c.before args0 about1) = true := by decide +kernel
set_option maxRecDepth 65536 in
theorem w_t2 : (words1.drop 24).all (fun c => isCode c || c.before args0 about1) = true := by decide +kernel
theorem w_tables : (allAtoms (Jvm.Cond.code x code maxLocals ret :: tables_1)).before args0 about1 = true := by
  rw [allAtoms_all]
  show words1.all (fun c => c.before args0 about1) = true
  refine all_split ?_ w_codes
  rw [← List.take_append_drop 24 words1, List.all_append, w_t1, w_t2]
  rfl
set_option maxRecDepth 65536 in
theorem w_case : (Jvm.Cond.and given_1 narrow_1).before args0 about1 = true := by decide +kernel
theorem w_applies : (headSpec (Jvm.Cond.code x code maxLocals ret :: tables_1) room_1).applies x e0.platform about1 = true :=
  (Spec.applies_iff w_frames).mpr ⟨w_running, w_runnable, w_alone, w_named, w_hears, w_ripe, w_room, w_tables⟩
theorem atStart : AtStart classFile x code maxLocals ret World_1 tables_1 room_1 Calls_1 rest_1 Pre_1 launch0 p0 e0 about1 theMethod args0 below0 :=
  ⟨lists_1, trivial, launch0.admits_env _ _ _, launch0.least_env, fairChoices_fair.cas, fairChoices_fair.clock, w_frames, w_args, w_heap, w_applies, trivial, trivial, w_case⟩
end start1
theorem witness_1 : WitnessClaimed_1 := ⟨start1.p0, start1.e0, start1.about1, start1.theMethod, start1.args0, start1.below0, start1.atStart⟩
end Jvm.Pilot.@@N@@
