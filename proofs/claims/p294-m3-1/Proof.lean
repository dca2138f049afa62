import JvmDerived
import JvmDerived.Pilot.@@N@@Statement
import JvmDerived.Pilot.@@N@@Code
set_option linter.unusedVariables false
set_option linter.unusedSimpArgs false
namespace Jvm.RoadKit
open Sem ClassFile Op Lib Jvm.Stand Jvm.Free Jvm.LawKit
section New
variable {p : Program} {l : Launch} {e : Env} {R : Room} {s : State} {m : MethodId} {args : Array Value} {below : List Frame} {meth : Method} {c : Code} {T : State} {locs : List Loc} {cells slots : Nat}
theorem retI (X : Stand p l e R s m args below meth c T locs cells slots) (hx : p.tables.exec = Jvm.exec) {pc : Nat} {Ls : Array Slot} {z : Int32} {rest : List Value} (hret : meth.sig.returnType = some .int) (hd : decode c.code pc = .ok (.ireturn, 1)) {fs : List Frame}
    (hl : ∀ (f : JFrame) (acts : List Action), f.method = m → f.locked = none → f.entered = [] → (doReturn e (T.setTop f) acts (some (.int z))).1 = T.setFrames fs) : Steps p.tables e below (T.setTop (mkF m pc Ls (.int z :: rest))) (T.setFrames fs) := by
  have hm' : T.vm.method? m = some meth := X.method'
  have hn : narrow .int (.int z) = .int z := rfl
  show Steps p.tables e below (T.setTop { method := m, pc := pc, locals := Ls, stack := _ :: rest, locked := none }) _
  jvm_step X.here [X.here.top, hx, hd, hm', hret, hn]
  first | (intro acts; rw [hl _ acts rfl rfl rfl]) | rw [hl _ _ rfl rfl rfl]
  exact Steps.refl _
end New
end Jvm.RoadKit
namespace Jvm.Pilot.@@N@@
open Jvm Jvm.ClassFile Sem Op Lib Jvm.Free Jvm.Stand Jvm.LawKit Jvm.RoadKit Bundle Jvm.Pilot.@@N@@.Jvm.D
theorem pd0 : parseMethodDescriptor "(I)Z" = some ⟨[.int], some .boolean⟩ := by decide +kernel
theorem pd1 : parseMethodDescriptor "(C)Z" = some ⟨[.char], some .boolean⟩ := by decide +kernel
theorem d3_0 : decode jdk_89_method_89_code 0 = .ok (.iload_n 0, 1) := by decide +kernel
theorem d3_1 : decode jdk_89_method_89_code 1 = .ok (.sipush 159, 3) := by decide +kernel
theorem d3_4 : decode jdk_89_method_89_code 4 = .ok (.if_icmp .gt 19, 3) := by decide +kernel
theorem d3_7 : decode jdk_89_method_89_code 7 = .ok (.iload_n 0, 1) := by decide +kernel
theorem d3_8 : decode jdk_89_method_89_code 8 = .ok (.bipush 127, 2) := by decide +kernel
theorem d3_10 : decode jdk_89_method_89_code 10 = .ok (.if_icmp .ge 9, 3) := by decide +kernel
theorem d3_13 : decode jdk_89_method_89_code 13 = .ok (.iload_n 0, 1) := by decide +kernel
theorem d3_14 : decode jdk_89_method_89_code 14 = .ok (.iconst 5, 1) := by decide +kernel
theorem d3_15 : decode jdk_89_method_89_code 15 = .ok (.iushr, 1) := by decide +kernel
theorem d3_16 : decode jdk_89_method_89_code 16 = .ok (.ifCond .ne 7, 3) := by decide +kernel
theorem d3_19 : decode jdk_89_method_89_code 19 = .ok (.iconst 1, 1) := by decide +kernel
theorem d3_20 : decode jdk_89_method_89_code 20 = .ok (.goto 4, 3) := by decide +kernel
theorem d3_23 : decode jdk_89_method_89_code 23 = .ok (.iconst 0, 1) := by decide +kernel
theorem d3_24 : decode jdk_89_method_89_code 24 = .ok (.ireturn, 1) := by decide +kernel
def F3_23 : Int32 := (0 : Int32)
theorem b3_23 {p : Program} {l : Launch} {e : Env} {R : Room} {s : State} {m : MethodId} {args : Array Value} {below : List Frame} {meth : Method} {c : Code} {T : State} {locs : List Loc} {cells slots : Nat} {Z : State} {a0 : Array Value} (X : Stand p l e R s m args below meth c T locs cells slots) (hx : p.tables.exec = Jvm.exec) (hZ : Z.Warmed39 s.vm) (hw : ∀ d ∈ tables_1, d.before a0 Z = true) (hby : c.code = jdk_89_method_89_code) (hown : s.vm.findClass "java/lang/Character" = some m.cls) (v0 : Int32) (hret : meth.sig.returnType = some .boolean) {fs : List Frame} (hr : ∀ (f : JFrame) (acts : List Action), f.method = m → f.locked = none → f.entered = [] → (doReturn e (T.setTop f) acts (some (.int F3_23))).1 = T.setFrames fs) : Steps p.tables e below (T.setTop (mkF m 23 #[.val (.int v0)] [])) (T.setFrames fs) := by
  show Steps p.tables e below (T.setTop (mkF m 23 #[.val (.int v0)] [])) _
  refine XS.iconst X.here hx rfl (hb hby d3_23) ?_
  show Steps p.tables e below (T.setTop (mkF m 24 #[.val (.int v0)] [(.int (0 : Int32))])) _
  rw [show F3_23 = nar .boolean (0 : Int32) from rfl] at hr
  exact retN X hx (t := .boolean) hret (by simp) (hb hby d3_24) hr
def F3_19 : Int32 := (1 : Int32)
theorem b3_19 {p : Program} {l : Launch} {e : Env} {R : Room} {s : State} {m : MethodId} {args : Array Value} {below : List Frame} {meth : Method} {c : Code} {T : State} {locs : List Loc} {cells slots : Nat} {Z : State} {a0 : Array Value} (X : Stand p l e R s m args below meth c T locs cells slots) (hx : p.tables.exec = Jvm.exec) (hZ : Z.Warmed39 s.vm) (hw : ∀ d ∈ tables_1, d.before a0 Z = true) (hby : c.code = jdk_89_method_89_code) (hown : s.vm.findClass "java/lang/Character" = some m.cls) (v0 : Int32) (hret : meth.sig.returnType = some .boolean) {fs : List Frame} (hr : ∀ (f : JFrame) (acts : List Action), f.method = m → f.locked = none → f.entered = [] → (doReturn e (T.setTop f) acts (some (.int F3_19))).1 = T.setFrames fs) : Steps p.tables e below (T.setTop (mkF m 19 #[.val (.int v0)] [])) (T.setFrames fs) := by
  show Steps p.tables e below (T.setTop (mkF m 19 #[.val (.int v0)] [])) _
  refine XS.iconst X.here hx rfl (hb hby d3_19) ?_
  show Steps p.tables e below (T.setTop (mkF m 20 #[.val (.int v0)] [(.int (1 : Int32))])) _
  refine XS.goto X.here hx rfl (pc0 := 20) (pc' := 24) rfl (hb hby d3_20) (by decide) (by decide) ?_
  show Steps p.tables e below (T.setTop (mkF m 24 #[.val (.int v0)] [(.int (1 : Int32))])) _
  rw [show F3_19 = nar .boolean (1 : Int32) from rfl] at hr
  exact retN X hx (t := .boolean) hret (by simp) (hb hby d3_24) hr
def F3_13 (v0 : Int32) : Int32 := if ((v0.toUInt32 >>> ((5 : Int32) &&& 31).toUInt32).toInt32) = (0 : Int32) then F3_19 else F3_23
theorem b3_13 {p : Program} {l : Launch} {e : Env} {R : Room} {s : State} {m : MethodId} {args : Array Value} {below : List Frame} {meth : Method} {c : Code} {T : State} {locs : List Loc} {cells slots : Nat} {Z : State} {a0 : Array Value} (X : Stand p l e R s m args below meth c T locs cells slots) (hx : p.tables.exec = Jvm.exec) (hZ : Z.Warmed39 s.vm) (hw : ∀ d ∈ tables_1, d.before a0 Z = true) (hby : c.code = jdk_89_method_89_code) (hown : s.vm.findClass "java/lang/Character" = some m.cls) (v0 : Int32) (hret : meth.sig.returnType = some .boolean) {fs : List Frame} (hr : ∀ (f : JFrame) (acts : List Action), f.method = m → f.locked = none → f.entered = [] → (doReturn e (T.setTop f) acts (some (.int (F3_13 v0)))).1 = T.setFrames fs) : Steps p.tables e below (T.setTop (mkF m 13 #[.val (.int v0)] [])) (T.setFrames fs) := by
  show Steps p.tables e below (T.setTop (mkF m 13 #[.val (.int v0)] [])) _
  refine XS.iloadN X.here hx rfl (hb hby d3_13) rfl ?_
  show Steps p.tables e below (T.setTop (mkF m 14 #[.val (.int v0)] [(.int v0)])) _
  refine XS.iconst X.here hx rfl (hb hby d3_14) ?_
  show Steps p.tables e below (T.setTop (mkF m 15 #[.val (.int v0)] [(.int (5 : Int32)), (.int v0)])) _
  refine XS.iushr X.here hx rfl (hb hby d3_15) rfl ?_
  show Steps p.tables e below (T.setTop (mkF m 16 #[.val (.int v0)] [(.int ((v0.toUInt32 >>> ((5 : Int32) &&& 31).toUInt32).toInt32))])) _
  by_cases hc : ((v0.toUInt32 >>> ((5 : Int32) &&& 31).toUInt32).toInt32) = (0 : Int32)
  · rw [show (F3_13 v0) = F3_19 from if_pos hc] at hr
    refine XS.ifNo X.here hx rfl (hb hby d3_16) rfl ((if0 _ _).trans (teq hc).2) ?_
    exact b3_19 X hx hZ hw hby hown v0 hret hr
  · rw [show (F3_13 v0) = F3_23 from if_neg hc] at hr
    refine XS.ifYes X.here hx rfl (pc0 := 16) (pc' := 23) rfl (hb hby d3_16) rfl ((if0 _ _).trans (feq hc).2) (by decide) (by decide) ?_
    exact b3_23 X hx hZ hw hby hown v0 hret hr
def F3_7 (v0 : Int32) : Int32 := if v0 < (127 : Int32) then (F3_13 v0) else F3_19
theorem b3_7 {p : Program} {l : Launch} {e : Env} {R : Room} {s : State} {m : MethodId} {args : Array Value} {below : List Frame} {meth : Method} {c : Code} {T : State} {locs : List Loc} {cells slots : Nat} {Z : State} {a0 : Array Value} (X : Stand p l e R s m args below meth c T locs cells slots) (hx : p.tables.exec = Jvm.exec) (hZ : Z.Warmed39 s.vm) (hw : ∀ d ∈ tables_1, d.before a0 Z = true) (hby : c.code = jdk_89_method_89_code) (hown : s.vm.findClass "java/lang/Character" = some m.cls) (v0 : Int32) (hret : meth.sig.returnType = some .boolean) {fs : List Frame} (hr : ∀ (f : JFrame) (acts : List Action), f.method = m → f.locked = none → f.entered = [] → (doReturn e (T.setTop f) acts (some (.int (F3_7 v0)))).1 = T.setFrames fs) : Steps p.tables e below (T.setTop (mkF m 7 #[.val (.int v0)] [])) (T.setFrames fs) := by
  show Steps p.tables e below (T.setTop (mkF m 7 #[.val (.int v0)] [])) _
  refine XS.iloadN X.here hx rfl (hb hby d3_7) rfl ?_
  show Steps p.tables e below (T.setTop (mkF m 8 #[.val (.int v0)] [(.int v0)])) _
  refine XS.bipush X.here hx rfl (hb hby d3_8) ?_
  show Steps p.tables e below (T.setTop (mkF m 10 #[.val (.int v0)] [(.int (127 : Int32)), (.int v0)])) _
  by_cases hc : v0 < (127 : Int32)
  · rw [show (F3_7 v0) = (F3_13 v0) from if_pos hc] at hr
    refine XS.icmpNo X.here hx rfl (hb hby d3_10) rfl (tlt hc).2.1 ?_
    exact b3_13 X hx hZ hw hby hown v0 hret hr
  · rw [show (F3_7 v0) = F3_19 from if_neg hc] at hr
    refine XS.icmpYes X.here hx rfl (pc0 := 10) (pc' := 19) rfl (hb hby d3_10) rfl (flt hc).2.1 (by decide) (by decide) ?_
    exact b3_19 X hx hZ hw hby hown v0 hret hr
def F3_0 (v0 : Int32) : Int32 := if (159 : Int32) < v0 then F3_23 else (F3_7 v0)
theorem b3_0 {p : Program} {l : Launch} {e : Env} {R : Room} {s : State} {m : MethodId} {args : Array Value} {below : List Frame} {meth : Method} {c : Code} {T : State} {locs : List Loc} {cells slots : Nat} {Z : State} {a0 : Array Value} (X : Stand p l e R s m args below meth c T locs cells slots) (hx : p.tables.exec = Jvm.exec) (hZ : Z.Warmed39 s.vm) (hw : ∀ d ∈ tables_1, d.before a0 Z = true) (hby : c.code = jdk_89_method_89_code) (hown : s.vm.findClass "java/lang/Character" = some m.cls) (v0 : Int32) (hret : meth.sig.returnType = some .boolean) {fs : List Frame} (hr : ∀ (f : JFrame) (acts : List Action), f.method = m → f.locked = none → f.entered = [] → (doReturn e (T.setTop f) acts (some (.int (F3_0 v0)))).1 = T.setFrames fs) : Steps p.tables e below (T.setTop (mkF m 0 #[.val (.int v0)] [])) (T.setFrames fs) := by
  show Steps p.tables e below (T.setTop (mkF m 0 #[.val (.int v0)] [])) _
  refine XS.iloadN X.here hx rfl (hb hby d3_0) rfl ?_
  show Steps p.tables e below (T.setTop (mkF m 1 #[.val (.int v0)] [(.int v0)])) _
  refine XS.sipush X.here hx rfl (hb hby d3_1) ?_
  show Steps p.tables e below (T.setTop (mkF m 4 #[.val (.int v0)] [(.int (159 : Int32)), (.int v0)])) _
  by_cases hc : (159 : Int32) < v0
  · rw [show (F3_0 v0) = F3_23 from if_pos hc] at hr
    refine XS.icmpYes X.here hx rfl (pc0 := 4) (pc' := 23) rfl (hb hby d3_4) rfl (tlt hc).2.2.1 (by decide) (by decide) ?_
    exact b3_23 X hx hZ hw hby hown v0 hret hr
  · rw [show (F3_0 v0) = (F3_7 v0) from if_neg hc] at hr
    refine XS.icmpNo X.here hx rfl (hb hby d3_4) rfl (flt hc).2.2.1 ?_
    exact b3_7 X hx hZ hw hby hown v0 hret hr
theorem pn_3 : plainName "java/lang/Character" = true := by first | (simp [plainName, overriddenIn]; done) | decide +kernel
theorem ef_3 (m : MethodId) (p0 : Int32) : entryFrame m #[(.int p0)] 1 = mkF m 0 #[.val (.int p0)] [] := by first | (simp [entryFrame, mkF, argsToLocals, Value.category]; done) | rfl
def Q_rm3 (Z : State) (p0 : Int32) (h0 : Heap) (n0 : Nat) (v : Option Value) (h : Heap) (L : List Loc) : Prop := (v = some (.int (F3_0 p0)) ∧ Fr n0 L ∧ h = h0)
set_option maxRecDepth 65536 in
set_option maxHeartbeats 40000000 in
theorem rm3 (l : Launch) (Z : State) (a0 : Array Value) (hw : ∀ d ∈ tables_1, d.before a0 Z = true) (ws : List Jvm.Cond) (p0 : Int32) (h0 : Heap) (n0 : Nat) (Z0 : n0 ≤ h0.size) :
    MetFree l (⟨"java/lang/Character", "isISOControl", "(I)Z"⟩ : MethodName) (head1 (Jvm.Cond.code (⟨"java/lang/Character", "isISOControl", "(I)Z"⟩ : MethodName) jdk_89_method_89_code 1 (some .boolean) :: ws) ({ frames := 0, cells := 0, slots := 0, locals := 0 } : Room)) (fun a U => a = #[(.int p0)] ∧ Z.Warmed39 U.vm ∧ U.heap = h0) (fun _ _ _ _ _ => True) (fun _ U o U' => ∃ v L, o = .returned v ∧ Q_rm3 Z p0 h0 n0 v U'.heap L ∧ FrameEnd U o U' L ({ frames := 0, cells := 0, slots := 0, locals := 0 } : Room).cells ({ frames := 0, cells := 0, slots := 0, locals := 0 } : Room).slots) := by
  refine MetFree.of_bodySF (plainFor_of_name pn_3) hisR ?_
  intro p e s m args below meth c s₁ Bd hml0 hP hK
  obtain ⟨rfl, hZ, hh⟩ := hP
  have hx := Bd.exec
  have hby := Bd.bytes
  have hml : c.maxLocals = 1 := hml0
  have hown : s.vm.findClass "java/lang/Character" = some m.cls := findClass_of_methodNamed Bd.named
  have hnm := (name_of_methodNamed Bd.named Bd.method).1
  have X0 : Stand p l e ({ frames := 0, cells := 0, slots := 0, locals := 0 } : Room) s m #[(.int p0)] below meth c s₁ [] 0 0 := Stand.of_body Bd
  have e0 : s₁.heap = h0 := by rw [← hh, Bd.state]; rfl
  have N0 := Fr.nil n0
  have pre0 : ∀ t, Steps p.tables e below (s₁.setTop (mkF m 0 #[.val (.int p0)] [])) t → Steps p.tables e below (s₁.setTop (entryFrame m #[(.int p0)] 1)) t := fun t k => castTop (ef_3 m p0) k
  obtain ⟨fs, hr, hrun, hended, hW, hsame⟩ := X0.leave (v := some (.int (F3_0 p0))) (fun h => by rw [Bd.returns] at h; cases h)
  refine ⟨_, _, pre0 _ ?_, hrun, hended, _, _, rfl, ⟨rfl, N0, e0⟩, ⟨_, rfl⟩, hW, hsame.mono (by decide) (by decide)⟩
  exact b3_0 X0 hx hZ hw hby hown p0 Bd.returns hr
theorem d2_0 : decode jdk_89_method_88_code 0 = .ok (.iload_n 0, 1) := by decide +kernel
theorem d2_1 : decode jdk_89_method_88_code 1 = .ok (.invokestatic 266, 3) := by decide +kernel
theorem d2_4 : decode jdk_89_method_88_code 4 = .ok (.ireturn, 1) := by decide +kernel
def F2_0 (p0 : Int32) : Int32 := ((F3_0 p0) &&& 1)
theorem pn_2 : plainName "java/lang/Character" = true := by first | (simp [plainName, overriddenIn]; done) | decide +kernel
theorem ef_2 (m : MethodId) (p0 : Int32) : entryFrame m #[(.int p0)] 1 = mkF m 0 #[.val (.int p0)] [] := by first | (simp [entryFrame, mkF, argsToLocals, Value.category]; done) | rfl
def Q_rm2 (Z : State) (p0 : Int32) (h0 : Heap) (n0 : Nat) (v : Option Value) (h : Heap) (L : List Loc) : Prop := (v = some (.int (F2_0 p0)) ∧ Fr n0 L ∧ h = h0)
set_option maxRecDepth 65536 in
set_option maxHeartbeats 40000000 in
theorem rm2 (l : Launch) (Z : State) (a0 : Array Value) (hw : ∀ d ∈ tables_1, d.before a0 Z = true) (ws : List Jvm.Cond) (p0 : Int32) (h0 : Heap) (n0 : Nat) (Z0 : n0 ≤ h0.size) :
    MetFree l (⟨"java/lang/Character", "isISOControl", "(C)Z"⟩ : MethodName) (head1 (Jvm.Cond.code (⟨"java/lang/Character", "isISOControl", "(C)Z"⟩ : MethodName) jdk_89_method_88_code 1 (some .boolean) :: ws) ({ frames := 1, cells := 0, slots := 0, locals := 12 } : Room)) (fun a U => a = #[(.int p0)] ∧ Z.Warmed39 U.vm ∧ U.heap = h0) (fun _ _ _ _ _ => True) (fun _ U o U' => ∃ v L, o = .returned v ∧ Q_rm2 Z p0 h0 n0 v U'.heap L ∧ FrameEnd U o U' L ({ frames := 1, cells := 0, slots := 0, locals := 12 } : Room).cells ({ frames := 1, cells := 0, slots := 0, locals := 12 } : Room).slots) := by
  refine MetFree.of_bodySF (plainFor_of_name pn_2) hisR ?_
  intro p e s m args below meth c s₁ Bd hml0 hP hK
  obtain ⟨rfl, hZ, hh⟩ := hP
  have hx := Bd.exec
  have hby := Bd.bytes
  have hml : c.maxLocals = 1 := hml0
  have hown : s.vm.findClass "java/lang/Character" = some m.cls := findClass_of_methodNamed Bd.named
  have hnm := (name_of_methodNamed Bd.named Bd.method).1
  have X0 : Stand p l e ({ frames := 1, cells := 0, slots := 0, locals := 12 } : Room) s m #[(.int p0)] below meth c s₁ [] 0 0 := Stand.of_body Bd
  have e0 : s₁.heap = h0 := by rw [← hh, Bd.state]; rfl
  have N0 := Fr.nil n0
  have pre0 : ∀ t, Steps p.tables e below (s₁.setTop (mkF m 0 #[.val (.int p0)] [])) t → Steps p.tables e below (s₁.setTop (entryFrame m #[(.int p0)] 1)) t := fun t k => castTop (ef_2 m p0) k
  obtain ⟨_, _, ⟨T1, L1, k1, n1⟩, -, X1, ⟨Lc1, hQ1, l1, y1, z1⟩, st1⟩ := Jvm.LawKit.callS X0 hx (y := (⟨"java/lang/Character", "isISOControl", "(I)Z"⟩ : MethodName)) hown (mvT hZ (hw _ (List.mem_of_getElem? (i := 8) rfl))) (mvT hZ (hw _ (List.mem_of_getElem? (i := 9) rfl))) (mvT hZ (hw _ (List.mem_of_getElem? (i := 6) rfl))) (mvT hZ (hw _ (List.mem_of_getElem? (i := 10) rfl))) (by decide) (backOf (W := 0) (rm3 l Z a0 hw [] p0 h0 n0 Z0) hZ (hw _ (List.mem_of_getElem? (i := 10) rfl)) (hw _ (List.mem_of_getElem? (i := 6) rfl)) (by decide) (by decide)) (g := (mkF m 1 #[.val (.int p0)] [(.int p0)])) rfl (by rw [hml]; rfl) (argsL := [(.int p0)]) (rest := []) (lenOf pd0 rfl) rfl (by show 2 * 0 + _ ≤ _; exact Nat.le_of_eq rfl) (hb hby d2_1) (fun _ _ => ⟨rfl, e0, (by decide : 0 + 0 ≤ _), (by decide : 0 + 0 ≤ _)⟩)
  dsimp only [Pt.U, Pt.locs, Pt.cells, Pt.slots] at X1 l1 y1 z1 st1 hQ1
  subst l1 y1 z1
  obtain ⟨rfl, N1q, e1⟩ := hQ1
  have N1 := Fr.app N0 N1q
  obtain ⟨fs, hr, hrun, hended, hW, hsame⟩ := X1.leave (v := some (.int ((F3_0 p0) &&& 1))) (fun h => by rw [Bd.returns] at h; cases h)
  refine ⟨_, _, pre0 _ ?_, hrun, hended, _, _, rfl, ⟨rfl, N1, e1⟩, ⟨_, rfl⟩, hW, hsame.mono (by decide) (by decide)⟩
  show Steps p.tables e below (s₁.setTop (mkF m 0 #[.val (.int p0)] [])) _
  refine XS.iloadN X0.here hx rfl (hb hby d2_0) rfl ?_
  show Steps p.tables e below (s₁.setTop (mkF m 1 #[.val (.int p0)] [(.int p0)])) _
  refine st1 _ ?_
  show Steps p.tables e below (T1.setTop (mkF m 4 #[.val (.int p0)] [(.int (F3_0 p0))])) _
  exact retN X1 hx (t := .boolean) Bd.returns (by simp) (hb hby d2_4) hr
theorem d1_0 : decode prog_33_method_2_code 0 = .ok (.iload_n 0, 1) := by decide +kernel
theorem d1_1 : decode prog_33_method_2_code 1 = .ok (.invokestatic 7, 3) := by decide +kernel
theorem d1_4 : decode prog_33_method_2_code 4 = .ok (.ifCond .ne 17, 3) := by decide +kernel
theorem d1_7 : decode prog_33_method_2_code 7 = .ok (.iload_n 0, 1) := by decide +kernel
theorem d1_8 : decode prog_33_method_2_code 8 = .ok (.sipush 8232, 3) := by decide +kernel
theorem d1_11 : decode prog_33_method_2_code 11 = .ok (.if_icmp .eq 10, 3) := by decide +kernel
theorem d1_14 : decode prog_33_method_2_code 14 = .ok (.iload_n 0, 1) := by decide +kernel
theorem d1_15 : decode prog_33_method_2_code 15 = .ok (.sipush 8233, 3) := by decide +kernel
theorem d1_18 : decode prog_33_method_2_code 18 = .ok (.if_icmp .ne 7, 3) := by decide +kernel
theorem d1_21 : decode prog_33_method_2_code 21 = .ok (.iconst 1, 1) := by decide +kernel
theorem d1_22 : decode prog_33_method_2_code 22 = .ok (.goto 4, 3) := by decide +kernel
theorem d1_25 : decode prog_33_method_2_code 25 = .ok (.iconst 0, 1) := by decide +kernel
theorem d1_26 : decode prog_33_method_2_code 26 = .ok (.ireturn, 1) := by decide +kernel
def F1t_21 : Int32 := (1 : Int32)
theorem b1t_21 {p : Program} {l : Launch} {e : Env} {R : Room} {s : State} {m : MethodId} {args : Array Value} {below : List Frame} {meth : Method} {c : Code} {T : State} {locs : List Loc} {cells slots : Nat} {Z : State} {a0 : Array Value} (X : Stand p l e R s m args below meth c T locs cells slots) (hx : p.tables.exec = Jvm.exec) (hZ : Z.Warmed39 s.vm) (hw : ∀ d ∈ tables_1, d.before a0 Z = true) (hby : c.code = prog_33_method_2_code) (hown : s.vm.findClass "com/example/reroster/reroster/model/OneLine" = some m.cls) (v0 : Int32) (hret : meth.sig.returnType = some .boolean) {fs : List Frame} (hr : ∀ (f : JFrame) (acts : List Action), f.method = m → f.locked = none → f.entered = [] → (doReturn e (T.setTop f) acts (some (.int F1t_21))).1 = T.setFrames fs) : Steps p.tables e below (T.setTop (mkF m 21 #[.val (.int v0)] [])) (T.setFrames fs) := by
  show Steps p.tables e below (T.setTop (mkF m 21 #[.val (.int v0)] [])) _
  refine XS.iconst X.here hx rfl (hb hby d1_21) ?_
  show Steps p.tables e below (T.setTop (mkF m 22 #[.val (.int v0)] [(.int (1 : Int32))])) _
  refine XS.goto X.here hx rfl (pc0 := 22) (pc' := 26) rfl (hb hby d1_22) (by decide) (by decide) ?_
  show Steps p.tables e below (T.setTop (mkF m 26 #[.val (.int v0)] [(.int (1 : Int32))])) _
  rw [show F1t_21 = nar .boolean (1 : Int32) from rfl] at hr
  exact retN X hx (t := .boolean) hret (by simp) (hb hby d1_26) hr
def F1t_25 : Int32 := (0 : Int32)
theorem b1t_25 {p : Program} {l : Launch} {e : Env} {R : Room} {s : State} {m : MethodId} {args : Array Value} {below : List Frame} {meth : Method} {c : Code} {T : State} {locs : List Loc} {cells slots : Nat} {Z : State} {a0 : Array Value} (X : Stand p l e R s m args below meth c T locs cells slots) (hx : p.tables.exec = Jvm.exec) (hZ : Z.Warmed39 s.vm) (hw : ∀ d ∈ tables_1, d.before a0 Z = true) (hby : c.code = prog_33_method_2_code) (hown : s.vm.findClass "com/example/reroster/reroster/model/OneLine" = some m.cls) (v0 : Int32) (hret : meth.sig.returnType = some .boolean) {fs : List Frame} (hr : ∀ (f : JFrame) (acts : List Action), f.method = m → f.locked = none → f.entered = [] → (doReturn e (T.setTop f) acts (some (.int F1t_25))).1 = T.setFrames fs) : Steps p.tables e below (T.setTop (mkF m 25 #[.val (.int v0)] [])) (T.setFrames fs) := by
  show Steps p.tables e below (T.setTop (mkF m 25 #[.val (.int v0)] [])) _
  refine XS.iconst X.here hx rfl (hb hby d1_25) ?_
  show Steps p.tables e below (T.setTop (mkF m 26 #[.val (.int v0)] [(.int (0 : Int32))])) _
  rw [show F1t_25 = nar .boolean (0 : Int32) from rfl] at hr
  exact retN X hx (t := .boolean) hret (by simp) (hb hby d1_26) hr
def F1t_14 (v0 : Int32) : Int32 := if v0 = (8233 : Int32) then F1t_21 else F1t_25
theorem b1t_14 {p : Program} {l : Launch} {e : Env} {R : Room} {s : State} {m : MethodId} {args : Array Value} {below : List Frame} {meth : Method} {c : Code} {T : State} {locs : List Loc} {cells slots : Nat} {Z : State} {a0 : Array Value} (X : Stand p l e R s m args below meth c T locs cells slots) (hx : p.tables.exec = Jvm.exec) (hZ : Z.Warmed39 s.vm) (hw : ∀ d ∈ tables_1, d.before a0 Z = true) (hby : c.code = prog_33_method_2_code) (hown : s.vm.findClass "com/example/reroster/reroster/model/OneLine" = some m.cls) (v0 : Int32) (hret : meth.sig.returnType = some .boolean) {fs : List Frame} (hr : ∀ (f : JFrame) (acts : List Action), f.method = m → f.locked = none → f.entered = [] → (doReturn e (T.setTop f) acts (some (.int (F1t_14 v0)))).1 = T.setFrames fs) : Steps p.tables e below (T.setTop (mkF m 14 #[.val (.int v0)] [])) (T.setFrames fs) := by
  show Steps p.tables e below (T.setTop (mkF m 14 #[.val (.int v0)] [])) _
  refine XS.iloadN X.here hx rfl (hb hby d1_14) rfl ?_
  show Steps p.tables e below (T.setTop (mkF m 15 #[.val (.int v0)] [(.int v0)])) _
  refine XS.sipush X.here hx rfl (hb hby d1_15) ?_
  show Steps p.tables e below (T.setTop (mkF m 18 #[.val (.int v0)] [(.int (8233 : Int32)), (.int v0)])) _
  by_cases hc : v0 = (8233 : Int32)
  · rw [show (F1t_14 v0) = F1t_21 from if_pos hc] at hr
    refine XS.icmpNo X.here hx rfl (hb hby d1_18) rfl (teq hc).2 ?_
    exact b1t_21 X hx hZ hw hby hown v0 hret hr
  · rw [show (F1t_14 v0) = F1t_25 from if_neg hc] at hr
    refine XS.icmpYes X.here hx rfl (pc0 := 18) (pc' := 25) rfl (hb hby d1_18) rfl (feq hc).2 (by decide) (by decide) ?_
    exact b1t_25 X hx hZ hw hby hown v0 hret hr
def F1t_7 (v0 : Int32) : Int32 := if v0 = (8232 : Int32) then F1t_21 else (F1t_14 v0)
theorem b1t_7 {p : Program} {l : Launch} {e : Env} {R : Room} {s : State} {m : MethodId} {args : Array Value} {below : List Frame} {meth : Method} {c : Code} {T : State} {locs : List Loc} {cells slots : Nat} {Z : State} {a0 : Array Value} (X : Stand p l e R s m args below meth c T locs cells slots) (hx : p.tables.exec = Jvm.exec) (hZ : Z.Warmed39 s.vm) (hw : ∀ d ∈ tables_1, d.before a0 Z = true) (hby : c.code = prog_33_method_2_code) (hown : s.vm.findClass "com/example/reroster/reroster/model/OneLine" = some m.cls) (v0 : Int32) (hret : meth.sig.returnType = some .boolean) {fs : List Frame} (hr : ∀ (f : JFrame) (acts : List Action), f.method = m → f.locked = none → f.entered = [] → (doReturn e (T.setTop f) acts (some (.int (F1t_7 v0)))).1 = T.setFrames fs) : Steps p.tables e below (T.setTop (mkF m 7 #[.val (.int v0)] [])) (T.setFrames fs) := by
  show Steps p.tables e below (T.setTop (mkF m 7 #[.val (.int v0)] [])) _
  refine XS.iloadN X.here hx rfl (hb hby d1_7) rfl ?_
  show Steps p.tables e below (T.setTop (mkF m 8 #[.val (.int v0)] [(.int v0)])) _
  refine XS.sipush X.here hx rfl (hb hby d1_8) ?_
  show Steps p.tables e below (T.setTop (mkF m 11 #[.val (.int v0)] [(.int (8232 : Int32)), (.int v0)])) _
  by_cases hc : v0 = (8232 : Int32)
  · rw [show (F1t_7 v0) = F1t_21 from if_pos hc] at hr
    refine XS.icmpYes X.here hx rfl (pc0 := 11) (pc' := 21) rfl (hb hby d1_11) rfl (teq hc).1 (by decide) (by decide) ?_
    exact b1t_21 X hx hZ hw hby hown v0 hret hr
  · rw [show (F1t_7 v0) = (F1t_14 v0) from if_neg hc] at hr
    refine XS.icmpNo X.here hx rfl (hb hby d1_11) rfl (feq hc).1 ?_
    exact b1t_14 X hx hZ hw hby hown v0 hret hr
def F1t_4 (v0 : Int32) (s0 : Int32) : Int32 := if s0 = (0 : Int32) then (F1t_7 v0) else F1t_21
theorem b1t_4 {p : Program} {l : Launch} {e : Env} {R : Room} {s : State} {m : MethodId} {args : Array Value} {below : List Frame} {meth : Method} {c : Code} {T : State} {locs : List Loc} {cells slots : Nat} {Z : State} {a0 : Array Value} (X : Stand p l e R s m args below meth c T locs cells slots) (hx : p.tables.exec = Jvm.exec) (hZ : Z.Warmed39 s.vm) (hw : ∀ d ∈ tables_1, d.before a0 Z = true) (hby : c.code = prog_33_method_2_code) (hown : s.vm.findClass "com/example/reroster/reroster/model/OneLine" = some m.cls) (v0 : Int32) (s0 : Int32) (hret : meth.sig.returnType = some .boolean) {fs : List Frame} (hr : ∀ (f : JFrame) (acts : List Action), f.method = m → f.locked = none → f.entered = [] → (doReturn e (T.setTop f) acts (some (.int (F1t_4 v0 s0)))).1 = T.setFrames fs) : Steps p.tables e below (T.setTop (mkF m 4 #[.val (.int v0)] [(.int s0)])) (T.setFrames fs) := by
  show Steps p.tables e below (T.setTop (mkF m 4 #[.val (.int v0)] [(.int s0)])) _
  by_cases hc : s0 = (0 : Int32)
  · rw [show (F1t_4 v0 s0) = (F1t_7 v0) from if_pos hc] at hr
    refine XS.ifNo X.here hx rfl (hb hby d1_4) rfl ((if0 _ _).trans (teq hc).2) ?_
    exact b1t_7 X hx hZ hw hby hown v0 hret hr
  · rw [show (F1t_4 v0 s0) = F1t_21 from if_neg hc] at hr
    refine XS.ifYes X.here hx rfl (pc0 := 4) (pc' := 21) rfl (hb hby d1_4) rfl ((if0 _ _).trans (feq hc).2) (by decide) (by decide) ?_
    exact b1t_21 X hx hZ hw hby hown v0 hret hr
def F1_0 (p0 : Int32) : Int32 := (F1t_4 p0 (F2_0 p0))
theorem pn_1 : plainName "com/example/reroster/reroster/model/OneLine" = true := by first | (simp [plainName, overriddenIn]; done) | decide +kernel
theorem ef_1 (m : MethodId) (p0 : Int32) : entryFrame m #[(.int p0)] 1 = mkF m 0 #[.val (.int p0)] [] := by first | (simp [entryFrame, mkF, argsToLocals, Value.category]; done) | rfl
def Q_rm1 (Z : State) (p0 : Int32) (h0 : Heap) (n0 : Nat) (v : Option Value) (h : Heap) (L : List Loc) : Prop := (v = some (.int (F1_0 p0)) ∧ Fr n0 L ∧ h = h0)
set_option maxRecDepth 65536 in
set_option maxHeartbeats 40000000 in
theorem rm1 (l : Launch) (Z : State) (a0 : Array Value) (hw : ∀ d ∈ tables_1, d.before a0 Z = true) (ws : List Jvm.Cond) (p0 : Int32) (h0 : Heap) (n0 : Nat) (Z0 : n0 ≤ h0.size) :
    MetFree l (⟨"com/example/reroster/reroster/model/OneLine", "isBreak", "(C)Z"⟩ : MethodName) (head1 (Jvm.Cond.code (⟨"com/example/reroster/reroster/model/OneLine", "isBreak", "(C)Z"⟩ : MethodName) prog_33_method_2_code 1 (some .boolean) :: ws) ({ frames := 2, cells := 0, slots := 0, locals := 24 } : Room)) (fun a U => a = #[(.int p0)] ∧ Z.Warmed39 U.vm ∧ U.heap = h0) (fun _ _ _ _ _ => True) (fun _ U o U' => ∃ v L, o = .returned v ∧ Q_rm1 Z p0 h0 n0 v U'.heap L ∧ FrameEnd U o U' L ({ frames := 2, cells := 0, slots := 0, locals := 24 } : Room).cells ({ frames := 2, cells := 0, slots := 0, locals := 24 } : Room).slots) := by
  refine MetFree.of_bodySF (plainFor_of_name pn_1) hisR ?_
  intro p e s m args below meth c s₁ Bd hml0 hP hK
  obtain ⟨rfl, hZ, hh⟩ := hP
  have hx := Bd.exec
  have hby := Bd.bytes
  have hml : c.maxLocals = 1 := hml0
  have hown : s.vm.findClass "com/example/reroster/reroster/model/OneLine" = some m.cls := findClass_of_methodNamed Bd.named
  have hnm := (name_of_methodNamed Bd.named Bd.method).1
  have X0 : Stand p l e ({ frames := 2, cells := 0, slots := 0, locals := 24 } : Room) s m #[(.int p0)] below meth c s₁ [] 0 0 := Stand.of_body Bd
  have e0 : s₁.heap = h0 := by rw [← hh, Bd.state]; rfl
  have N0 := Fr.nil n0
  have pre0 : ∀ t, Steps p.tables e below (s₁.setTop (mkF m 0 #[.val (.int p0)] [])) t → Steps p.tables e below (s₁.setTop (entryFrame m #[(.int p0)] 1)) t := fun t k => castTop (ef_1 m p0) k
  obtain ⟨_, _, ⟨T1, L1, k1, n1⟩, -, X1, ⟨Lc1, hQ1, l1, y1, z1⟩, st1⟩ := Jvm.LawKit.callS X0 hx (y := (⟨"java/lang/Character", "isISOControl", "(C)Z"⟩ : MethodName)) hown (mvT hZ (hw _ (List.mem_of_getElem? (i := 4) rfl))) (mvT hZ (hw _ (List.mem_of_getElem? (i := 5) rfl))) (mvT hZ (hw _ (List.mem_of_getElem? (i := 6) rfl))) (mvT hZ (hw _ (List.mem_of_getElem? (i := 7) rfl))) (by decide) (backOf (W := 0) (rm2 l Z a0 hw [] p0 h0 n0 Z0) hZ (hw _ (List.mem_of_getElem? (i := 7) rfl)) (hw _ (List.mem_of_getElem? (i := 6) rfl)) (by decide) (by decide)) (g := (mkF m 1 #[.val (.int p0)] [(.int p0)])) rfl (by rw [hml]; rfl) (argsL := [(.int p0)]) (rest := []) (lenOf pd1 rfl) rfl (by show 2 * 0 + _ ≤ _; exact Nat.le_of_eq rfl) (hb hby d1_1) (fun _ _ => ⟨rfl, e0, (by decide : 0 + 0 ≤ _), (by decide : 0 + 0 ≤ _)⟩)
  dsimp only [Pt.U, Pt.locs, Pt.cells, Pt.slots] at X1 l1 y1 z1 st1 hQ1
  subst l1 y1 z1
  obtain ⟨rfl, N1q, e1⟩ := hQ1
  have N1 := Fr.app N0 N1q
  obtain ⟨fs, hr, hrun, hended, hW, hsame⟩ := X1.leave (v := some (.int (F1t_4 p0 (F2_0 p0)))) (fun h => by rw [Bd.returns] at h; cases h)
  refine ⟨_, _, pre0 _ ?_, hrun, hended, _, _, rfl, ⟨rfl, N1, e1⟩, ⟨_, rfl⟩, hW, hsame.mono (by decide) (by decide)⟩
  show Steps p.tables e below (s₁.setTop (mkF m 0 #[.val (.int p0)] [])) _
  refine XS.iloadN X0.here hx rfl (hb hby d1_0) rfl ?_
  show Steps p.tables e below (s₁.setTop (mkF m 1 #[.val (.int p0)] [(.int p0)])) _
  refine st1 _ ?_
  show Steps p.tables e below (T1.setTop (mkF m 4 #[.val (.int p0)] [(.int (F2_0 p0))])) _
  exact b1t_4 X1 hx hZ hw hby hown p0 (F2_0 p0) Bd.returns hr
def F0s_47 (v0 : Int32) : Int32 := ((v0 &&& (16383 : Int32)).toUInt32.toUInt16.toUInt32.toInt32)
theorem b0s_47 {p : Program} {l : Launch} {e : Env} {R : Room} {s : State} {m : MethodId} {args : Array Value} {below : List Frame} {meth : Method} {c : Code} {T : State} {locs : List Loc} {cells slots : Nat} {Z : State} {a0 : Array Value} (X : Stand p l e R s m args below meth c T locs cells slots) (hx : p.tables.exec = Jvm.exec) (hZ : Z.Warmed39 s.vm) (hw : ∀ d ∈ tables_1, d.before a0 Z = true) (hby : c.code = code) (hown : s.vm.findClass "com/example/reroster/reroster/model/OneLineIsBreakPinLaw" = some m.cls) (v0 : Int32) (v1 : Int32) (v2 : Int32) (target : State) (kt : Steps p.tables e below (T.setTop (mkF m 54 #[.val (.int v0), .val (.int v1), .val (.int v2), .val (.int (F0s_47 v0)), .unset, .unset] [])) target) : Steps p.tables e below (T.setTop (mkF m 47 #[.val (.int v0), .val (.int v1), .val (.int v2), .unset, .unset, .unset] [])) target := by
  show Steps p.tables e below (T.setTop (mkF m 47 #[.val (.int v0), .val (.int v1), .val (.int v2), .unset, .unset, .unset] [])) _
  refine XS.iloadN X.here hx rfl (hb hby at_47) rfl ?_
  show Steps p.tables e below (T.setTop (mkF m 48 #[.val (.int v0), .val (.int v1), .val (.int v2), .unset, .unset, .unset] [(.int v0)])) _
  refine XS.sipush X.here hx rfl (hb hby at_48) ?_
  show Steps p.tables e below (T.setTop (mkF m 51 #[.val (.int v0), .val (.int v1), .val (.int v2), .unset, .unset, .unset] [(.int (16383 : Int32)), (.int v0)])) _
  refine XS.iand X.here hx rfl (hb hby at_51) rfl ?_
  show Steps p.tables e below (T.setTop (mkF m 52 #[.val (.int v0), .val (.int v1), .val (.int v2), .unset, .unset, .unset] [(.int (v0 &&& (16383 : Int32)))])) _
  refine XS.i2c X.here hx rfl (hb hby at_52) rfl ?_
  show Steps p.tables e below (T.setTop (mkF m 53 #[.val (.int v0), .val (.int v1), .val (.int v2), .unset, .unset, .unset] [(.int ((v0 &&& (16383 : Int32)).toUInt32.toUInt16.toUInt32.toInt32))])) _
  refine XS.istoreN X.here hx rfl (hb hby at_53) rfl (l' := #[.val (.int v0), .val (.int v1), .val (.int v2), .val (.int ((v0 &&& (16383 : Int32)).toUInt32.toUInt16.toUInt32.toInt32)), .unset, .unset]) rfl ?_
  rw [show (F0s_47 v0) = ((v0 &&& (16383 : Int32)).toUInt32.toUInt16.toUInt32.toInt32) from rfl] at kt
  exact kt
def F0s_34 (v0 : Int32) : Int32 := (((8230 : Int32) + (v0 &&& (7 : Int32))).toUInt32.toUInt16.toUInt32.toInt32)
theorem b0s_34 {p : Program} {l : Launch} {e : Env} {R : Room} {s : State} {m : MethodId} {args : Array Value} {below : List Frame} {meth : Method} {c : Code} {T : State} {locs : List Loc} {cells slots : Nat} {Z : State} {a0 : Array Value} (X : Stand p l e R s m args below meth c T locs cells slots) (hx : p.tables.exec = Jvm.exec) (hZ : Z.Warmed39 s.vm) (hw : ∀ d ∈ tables_1, d.before a0 Z = true) (hby : c.code = code) (hown : s.vm.findClass "com/example/reroster/reroster/model/OneLineIsBreakPinLaw" = some m.cls) (v0 : Int32) (v1 : Int32) (v2 : Int32) (target : State) (kt : Steps p.tables e below (T.setTop (mkF m 54 #[.val (.int v0), .val (.int v1), .val (.int v2), .val (.int (F0s_34 v0)), .unset, .unset] [])) target) : Steps p.tables e below (T.setTop (mkF m 34 #[.val (.int v0), .val (.int v1), .val (.int v2), .unset, .unset, .unset] [])) target := by
  show Steps p.tables e below (T.setTop (mkF m 34 #[.val (.int v0), .val (.int v1), .val (.int v2), .unset, .unset, .unset] [])) _
  refine XS.sipush X.here hx rfl (hb hby at_34) ?_
  show Steps p.tables e below (T.setTop (mkF m 37 #[.val (.int v0), .val (.int v1), .val (.int v2), .unset, .unset, .unset] [(.int (8230 : Int32))])) _
  refine XS.iloadN X.here hx rfl (hb hby at_37) rfl ?_
  show Steps p.tables e below (T.setTop (mkF m 38 #[.val (.int v0), .val (.int v1), .val (.int v2), .unset, .unset, .unset] [(.int v0), (.int (8230 : Int32))])) _
  refine XS.bipush X.here hx rfl (hb hby at_38) ?_
  show Steps p.tables e below (T.setTop (mkF m 40 #[.val (.int v0), .val (.int v1), .val (.int v2), .unset, .unset, .unset] [(.int (7 : Int32)), (.int v0), (.int (8230 : Int32))])) _
  refine XS.iand X.here hx rfl (hb hby at_40) rfl ?_
  show Steps p.tables e below (T.setTop (mkF m 41 #[.val (.int v0), .val (.int v1), .val (.int v2), .unset, .unset, .unset] [(.int (v0 &&& (7 : Int32))), (.int (8230 : Int32))])) _
  refine XS.iadd X.here hx rfl (hb hby at_41) rfl ?_
  show Steps p.tables e below (T.setTop (mkF m 42 #[.val (.int v0), .val (.int v1), .val (.int v2), .unset, .unset, .unset] [(.int ((8230 : Int32) + (v0 &&& (7 : Int32))))])) _
  refine XS.i2c X.here hx rfl (hb hby at_42) rfl ?_
  show Steps p.tables e below (T.setTop (mkF m 43 #[.val (.int v0), .val (.int v1), .val (.int v2), .unset, .unset, .unset] [(.int (((8230 : Int32) + (v0 &&& (7 : Int32))).toUInt32.toUInt16.toUInt32.toInt32))])) _
  refine XS.istoreN X.here hx rfl (hb hby at_43) rfl (l' := #[.val (.int v0), .val (.int v1), .val (.int v2), .val (.int (((8230 : Int32) + (v0 &&& (7 : Int32))).toUInt32.toUInt16.toUInt32.toInt32)), .unset, .unset]) rfl ?_
  show Steps p.tables e below (T.setTop (mkF m 44 #[.val (.int v0), .val (.int v1), .val (.int v2), .val (.int (((8230 : Int32) + (v0 &&& (7 : Int32))).toUInt32.toUInt16.toUInt32.toInt32)), .unset, .unset] [])) _
  refine XS.goto X.here hx rfl (pc0 := 44) (pc' := 54) rfl (hb hby at_44) (by decide) (by decide) ?_
  rw [show (F0s_34 v0) = (((8230 : Int32) + (v0 &&& (7 : Int32))).toUInt32.toUInt16.toUInt32.toInt32) from rfl] at kt
  exact kt
def F0s_29 (v0 : Int32) (v2 : Int32) : Int32 := if v2 = (2 : Int32) then (F0s_34 v0) else (F0s_47 v0)
theorem b0s_29 {p : Program} {l : Launch} {e : Env} {R : Room} {s : State} {m : MethodId} {args : Array Value} {below : List Frame} {meth : Method} {c : Code} {T : State} {locs : List Loc} {cells slots : Nat} {Z : State} {a0 : Array Value} (X : Stand p l e R s m args below meth c T locs cells slots) (hx : p.tables.exec = Jvm.exec) (hZ : Z.Warmed39 s.vm) (hw : ∀ d ∈ tables_1, d.before a0 Z = true) (hby : c.code = code) (hown : s.vm.findClass "com/example/reroster/reroster/model/OneLineIsBreakPinLaw" = some m.cls) (v0 : Int32) (v1 : Int32) (v2 : Int32) (target : State) (kt : Steps p.tables e below (T.setTop (mkF m 54 #[.val (.int v0), .val (.int v1), .val (.int v2), .val (.int (F0s_29 v0 v2)), .unset, .unset] [])) target) : Steps p.tables e below (T.setTop (mkF m 29 #[.val (.int v0), .val (.int v1), .val (.int v2), .unset, .unset, .unset] [])) target := by
  show Steps p.tables e below (T.setTop (mkF m 29 #[.val (.int v0), .val (.int v1), .val (.int v2), .unset, .unset, .unset] [])) _
  refine XS.iloadN X.here hx rfl (hb hby at_29) rfl ?_
  show Steps p.tables e below (T.setTop (mkF m 30 #[.val (.int v0), .val (.int v1), .val (.int v2), .unset, .unset, .unset] [(.int v2)])) _
  refine XS.iconst X.here hx rfl (hb hby at_30) ?_
  show Steps p.tables e below (T.setTop (mkF m 31 #[.val (.int v0), .val (.int v1), .val (.int v2), .unset, .unset, .unset] [(.int (2 : Int32)), (.int v2)])) _
  by_cases hc : v2 = (2 : Int32)
  · rw [show (F0s_29 v0 v2) = (F0s_34 v0) from if_pos hc] at kt
    refine XS.icmpNo X.here hx rfl (hb hby at_31) rfl (teq hc).2 ?_
    exact b0s_34 X hx hZ hw hby hown v0 v1 v2 target kt
  · rw [show (F0s_29 v0 v2) = (F0s_47 v0) from if_neg hc] at kt
    refine XS.icmpYes X.here hx rfl (pc0 := 31) (pc' := 47) rfl (hb hby at_31) rfl (feq hc).2 (by decide) (by decide) ?_
    exact b0s_47 X hx hZ hw hby hown v0 v1 v2 target kt
def F0s_19 (v0 : Int32) : Int32 := ((v0 &&& (255 : Int32)).toUInt32.toUInt16.toUInt32.toInt32)
theorem b0s_19 {p : Program} {l : Launch} {e : Env} {R : Room} {s : State} {m : MethodId} {args : Array Value} {below : List Frame} {meth : Method} {c : Code} {T : State} {locs : List Loc} {cells slots : Nat} {Z : State} {a0 : Array Value} (X : Stand p l e R s m args below meth c T locs cells slots) (hx : p.tables.exec = Jvm.exec) (hZ : Z.Warmed39 s.vm) (hw : ∀ d ∈ tables_1, d.before a0 Z = true) (hby : c.code = code) (hown : s.vm.findClass "com/example/reroster/reroster/model/OneLineIsBreakPinLaw" = some m.cls) (v0 : Int32) (v1 : Int32) (v2 : Int32) (target : State) (kt : Steps p.tables e below (T.setTop (mkF m 54 #[.val (.int v0), .val (.int v1), .val (.int v2), .val (.int (F0s_19 v0)), .unset, .unset] [])) target) : Steps p.tables e below (T.setTop (mkF m 19 #[.val (.int v0), .val (.int v1), .val (.int v2), .unset, .unset, .unset] [])) target := by
  show Steps p.tables e below (T.setTop (mkF m 19 #[.val (.int v0), .val (.int v1), .val (.int v2), .unset, .unset, .unset] [])) _
  refine XS.iloadN X.here hx rfl (hb hby at_19) rfl ?_
  show Steps p.tables e below (T.setTop (mkF m 20 #[.val (.int v0), .val (.int v1), .val (.int v2), .unset, .unset, .unset] [(.int v0)])) _
  refine XS.sipush X.here hx rfl (hb hby at_20) ?_
  show Steps p.tables e below (T.setTop (mkF m 23 #[.val (.int v0), .val (.int v1), .val (.int v2), .unset, .unset, .unset] [(.int (255 : Int32)), (.int v0)])) _
  refine XS.iand X.here hx rfl (hb hby at_23) rfl ?_
  show Steps p.tables e below (T.setTop (mkF m 24 #[.val (.int v0), .val (.int v1), .val (.int v2), .unset, .unset, .unset] [(.int (v0 &&& (255 : Int32)))])) _
  refine XS.i2c X.here hx rfl (hb hby at_24) rfl ?_
  show Steps p.tables e below (T.setTop (mkF m 25 #[.val (.int v0), .val (.int v1), .val (.int v2), .unset, .unset, .unset] [(.int ((v0 &&& (255 : Int32)).toUInt32.toUInt16.toUInt32.toInt32))])) _
  refine XS.istoreN X.here hx rfl (hb hby at_25) rfl (l' := #[.val (.int v0), .val (.int v1), .val (.int v2), .val (.int ((v0 &&& (255 : Int32)).toUInt32.toUInt16.toUInt32.toInt32)), .unset, .unset]) rfl ?_
  show Steps p.tables e below (T.setTop (mkF m 26 #[.val (.int v0), .val (.int v1), .val (.int v2), .val (.int ((v0 &&& (255 : Int32)).toUInt32.toUInt16.toUInt32.toInt32)), .unset, .unset] [])) _
  refine XS.goto X.here hx rfl (pc0 := 26) (pc' := 54) rfl (hb hby at_26) (by decide) (by decide) ?_
  rw [show (F0s_19 v0) = ((v0 &&& (255 : Int32)).toUInt32.toUInt16.toUInt32.toInt32) from rfl] at kt
  exact kt
def F0s_14 (v0 : Int32) (v2 : Int32) : Int32 := if v2 = (1 : Int32) then (F0s_19 v0) else (F0s_29 v0 v2)
theorem b0s_14 {p : Program} {l : Launch} {e : Env} {R : Room} {s : State} {m : MethodId} {args : Array Value} {below : List Frame} {meth : Method} {c : Code} {T : State} {locs : List Loc} {cells slots : Nat} {Z : State} {a0 : Array Value} (X : Stand p l e R s m args below meth c T locs cells slots) (hx : p.tables.exec = Jvm.exec) (hZ : Z.Warmed39 s.vm) (hw : ∀ d ∈ tables_1, d.before a0 Z = true) (hby : c.code = code) (hown : s.vm.findClass "com/example/reroster/reroster/model/OneLineIsBreakPinLaw" = some m.cls) (v0 : Int32) (v1 : Int32) (v2 : Int32) (target : State) (kt : Steps p.tables e below (T.setTop (mkF m 54 #[.val (.int v0), .val (.int v1), .val (.int v2), .val (.int (F0s_14 v0 v2)), .unset, .unset] [])) target) : Steps p.tables e below (T.setTop (mkF m 14 #[.val (.int v0), .val (.int v1), .val (.int v2), .unset, .unset, .unset] [])) target := by
  show Steps p.tables e below (T.setTop (mkF m 14 #[.val (.int v0), .val (.int v1), .val (.int v2), .unset, .unset, .unset] [])) _
  refine XS.iloadN X.here hx rfl (hb hby at_14) rfl ?_
  show Steps p.tables e below (T.setTop (mkF m 15 #[.val (.int v0), .val (.int v1), .val (.int v2), .unset, .unset, .unset] [(.int v2)])) _
  refine XS.iconst X.here hx rfl (hb hby at_15) ?_
  show Steps p.tables e below (T.setTop (mkF m 16 #[.val (.int v0), .val (.int v1), .val (.int v2), .unset, .unset, .unset] [(.int (1 : Int32)), (.int v2)])) _
  by_cases hc : v2 = (1 : Int32)
  · rw [show (F0s_14 v0 v2) = (F0s_19 v0) from if_pos hc] at kt
    refine XS.icmpNo X.here hx rfl (hb hby at_16) rfl (teq hc).2 ?_
    exact b0s_19 X hx hZ hw hby hown v0 v1 v2 target kt
  · rw [show (F0s_14 v0 v2) = (F0s_29 v0 v2) from if_neg hc] at kt
    refine XS.icmpYes X.here hx rfl (pc0 := 16) (pc' := 29) rfl (hb hby at_16) rfl (feq hc).2 (by decide) (by decide) ?_
    exact b0s_29 X hx hZ hw hby hown v0 v1 v2 target kt
def F0s_8 (v0 : Int32) : Int32 := (v0.toUInt32.toUInt16.toUInt32.toInt32)
theorem b0s_8 {p : Program} {l : Launch} {e : Env} {R : Room} {s : State} {m : MethodId} {args : Array Value} {below : List Frame} {meth : Method} {c : Code} {T : State} {locs : List Loc} {cells slots : Nat} {Z : State} {a0 : Array Value} (X : Stand p l e R s m args below meth c T locs cells slots) (hx : p.tables.exec = Jvm.exec) (hZ : Z.Warmed39 s.vm) (hw : ∀ d ∈ tables_1, d.before a0 Z = true) (hby : c.code = code) (hown : s.vm.findClass "com/example/reroster/reroster/model/OneLineIsBreakPinLaw" = some m.cls) (v0 : Int32) (v1 : Int32) (v2 : Int32) (target : State) (kt : Steps p.tables e below (T.setTop (mkF m 54 #[.val (.int v0), .val (.int v1), .val (.int v2), .val (.int (F0s_8 v0)), .unset, .unset] [])) target) : Steps p.tables e below (T.setTop (mkF m 8 #[.val (.int v0), .val (.int v1), .val (.int v2), .unset, .unset, .unset] [])) target := by
  show Steps p.tables e below (T.setTop (mkF m 8 #[.val (.int v0), .val (.int v1), .val (.int v2), .unset, .unset, .unset] [])) _
  refine XS.iloadN X.here hx rfl (hb hby at_8) rfl ?_
  show Steps p.tables e below (T.setTop (mkF m 9 #[.val (.int v0), .val (.int v1), .val (.int v2), .unset, .unset, .unset] [(.int v0)])) _
  refine XS.i2c X.here hx rfl (hb hby at_9) rfl ?_
  show Steps p.tables e below (T.setTop (mkF m 10 #[.val (.int v0), .val (.int v1), .val (.int v2), .unset, .unset, .unset] [(.int (v0.toUInt32.toUInt16.toUInt32.toInt32))])) _
  refine XS.istoreN X.here hx rfl (hb hby at_10) rfl (l' := #[.val (.int v0), .val (.int v1), .val (.int v2), .val (.int (v0.toUInt32.toUInt16.toUInt32.toInt32)), .unset, .unset]) rfl ?_
  show Steps p.tables e below (T.setTop (mkF m 11 #[.val (.int v0), .val (.int v1), .val (.int v2), .val (.int (v0.toUInt32.toUInt16.toUInt32.toInt32)), .unset, .unset] [])) _
  refine XS.goto X.here hx rfl (pc0 := 11) (pc' := 54) rfl (hb hby at_11) (by decide) (by decide) ?_
  rw [show (F0s_8 v0) = (v0.toUInt32.toUInt16.toUInt32.toInt32) from rfl] at kt
  exact kt
def F0s_4 (v0 : Int32) (v2 : Int32) : Int32 := if v2 = (0 : Int32) then (F0s_8 v0) else (F0s_14 v0 v2)
theorem b0s_4 {p : Program} {l : Launch} {e : Env} {R : Room} {s : State} {m : MethodId} {args : Array Value} {below : List Frame} {meth : Method} {c : Code} {T : State} {locs : List Loc} {cells slots : Nat} {Z : State} {a0 : Array Value} (X : Stand p l e R s m args below meth c T locs cells slots) (hx : p.tables.exec = Jvm.exec) (hZ : Z.Warmed39 s.vm) (hw : ∀ d ∈ tables_1, d.before a0 Z = true) (hby : c.code = code) (hown : s.vm.findClass "com/example/reroster/reroster/model/OneLineIsBreakPinLaw" = some m.cls) (v0 : Int32) (v1 : Int32) (v2 : Int32) (target : State) (kt : Steps p.tables e below (T.setTop (mkF m 54 #[.val (.int v0), .val (.int v1), .val (.int v2), .val (.int (F0s_4 v0 v2)), .unset, .unset] [])) target) : Steps p.tables e below (T.setTop (mkF m 4 #[.val (.int v0), .val (.int v1), .val (.int v2), .unset, .unset, .unset] [])) target := by
  show Steps p.tables e below (T.setTop (mkF m 4 #[.val (.int v0), .val (.int v1), .val (.int v2), .unset, .unset, .unset] [])) _
  refine XS.iloadN X.here hx rfl (hb hby at_4) rfl ?_
  show Steps p.tables e below (T.setTop (mkF m 5 #[.val (.int v0), .val (.int v1), .val (.int v2), .unset, .unset, .unset] [(.int v2)])) _
  by_cases hc : v2 = (0 : Int32)
  · rw [show (F0s_4 v0 v2) = (F0s_8 v0) from if_pos hc] at kt
    refine XS.ifNo X.here hx rfl (hb hby at_5) rfl ((if0 _ _).trans (teq hc).2) ?_
    exact b0s_8 X hx hZ hw hby hown v0 v1 v2 target kt
  · rw [show (F0s_4 v0 v2) = (F0s_14 v0 v2) from if_neg hc] at kt
    refine XS.ifYes X.here hx rfl (pc0 := 5) (pc' := 14) rfl (hb hby at_5) rfl ((if0 _ _).trans (feq hc).2) (by decide) (by decide) ?_
    exact b0s_14 X hx hZ hw hby hown v0 v1 v2 target kt
def F0s_100 : Int32 := (1 : Int32)
theorem b0s_100 {p : Program} {l : Launch} {e : Env} {R : Room} {s : State} {m : MethodId} {args : Array Value} {below : List Frame} {meth : Method} {c : Code} {T : State} {locs : List Loc} {cells slots : Nat} {Z : State} {a0 : Array Value} (X : Stand p l e R s m args below meth c T locs cells slots) (hx : p.tables.exec = Jvm.exec) (hZ : Z.Warmed39 s.vm) (hw : ∀ d ∈ tables_1, d.before a0 Z = true) (hby : c.code = code) (hown : s.vm.findClass "com/example/reroster/reroster/model/OneLineIsBreakPinLaw" = some m.cls) (v0 : Int32) (v1 : Int32) (v2 : Int32) (v3 : Int32) (v4 : Int32) (target : State) (kt : Steps p.tables e below (T.setTop (mkF m 105 #[.val (.int v0), .val (.int v1), .val (.int v2), .val (.int v3), .val (.int v4), .unset] [(.int F0s_100)])) target) : Steps p.tables e below (T.setTop (mkF m 100 #[.val (.int v0), .val (.int v1), .val (.int v2), .val (.int v3), .val (.int v4), .unset] [])) target := by
  show Steps p.tables e below (T.setTop (mkF m 100 #[.val (.int v0), .val (.int v1), .val (.int v2), .val (.int v3), .val (.int v4), .unset] [])) _
  refine XS.iconst X.here hx rfl (hb hby at_100) ?_
  show Steps p.tables e below (T.setTop (mkF m 101 #[.val (.int v0), .val (.int v1), .val (.int v2), .val (.int v3), .val (.int v4), .unset] [(.int (1 : Int32))])) _
  refine XS.goto X.here hx rfl (pc0 := 101) (pc' := 105) rfl (hb hby at_101) (by decide) (by decide) ?_
  rw [show F0s_100 = (1 : Int32) from rfl] at kt
  exact kt
def F0s_104 : Int32 := (0 : Int32)
theorem b0s_104 {p : Program} {l : Launch} {e : Env} {R : Room} {s : State} {m : MethodId} {args : Array Value} {below : List Frame} {meth : Method} {c : Code} {T : State} {locs : List Loc} {cells slots : Nat} {Z : State} {a0 : Array Value} (X : Stand p l e R s m args below meth c T locs cells slots) (hx : p.tables.exec = Jvm.exec) (hZ : Z.Warmed39 s.vm) (hw : ∀ d ∈ tables_1, d.before a0 Z = true) (hby : c.code = code) (hown : s.vm.findClass "com/example/reroster/reroster/model/OneLineIsBreakPinLaw" = some m.cls) (v0 : Int32) (v1 : Int32) (v2 : Int32) (v3 : Int32) (v4 : Int32) (target : State) (kt : Steps p.tables e below (T.setTop (mkF m 105 #[.val (.int v0), .val (.int v1), .val (.int v2), .val (.int v3), .val (.int v4), .unset] [(.int F0s_104)])) target) : Steps p.tables e below (T.setTop (mkF m 104 #[.val (.int v0), .val (.int v1), .val (.int v2), .val (.int v3), .val (.int v4), .unset] [])) target := by
  show Steps p.tables e below (T.setTop (mkF m 104 #[.val (.int v0), .val (.int v1), .val (.int v2), .val (.int v3), .val (.int v4), .unset] [])) _
  refine XS.iconst X.here hx rfl (hb hby at_104) ?_
  rw [show F0s_104 = (0 : Int32) from rfl] at kt
  exact kt
def F0s_92 (v4 : Int32) : Int32 := if v4 = (8233 : Int32) then F0s_100 else F0s_104
theorem b0s_92 {p : Program} {l : Launch} {e : Env} {R : Room} {s : State} {m : MethodId} {args : Array Value} {below : List Frame} {meth : Method} {c : Code} {T : State} {locs : List Loc} {cells slots : Nat} {Z : State} {a0 : Array Value} (X : Stand p l e R s m args below meth c T locs cells slots) (hx : p.tables.exec = Jvm.exec) (hZ : Z.Warmed39 s.vm) (hw : ∀ d ∈ tables_1, d.before a0 Z = true) (hby : c.code = code) (hown : s.vm.findClass "com/example/reroster/reroster/model/OneLineIsBreakPinLaw" = some m.cls) (v0 : Int32) (v1 : Int32) (v2 : Int32) (v3 : Int32) (v4 : Int32) (target : State) (kt : Steps p.tables e below (T.setTop (mkF m 105 #[.val (.int v0), .val (.int v1), .val (.int v2), .val (.int v3), .val (.int v4), .unset] [(.int (F0s_92 v4))])) target) : Steps p.tables e below (T.setTop (mkF m 92 #[.val (.int v0), .val (.int v1), .val (.int v2), .val (.int v3), .val (.int v4), .unset] [])) target := by
  show Steps p.tables e below (T.setTop (mkF m 92 #[.val (.int v0), .val (.int v1), .val (.int v2), .val (.int v3), .val (.int v4), .unset] [])) _
  refine XS.iload X.here hx rfl (hb hby at_92) rfl ?_
  show Steps p.tables e below (T.setTop (mkF m 94 #[.val (.int v0), .val (.int v1), .val (.int v2), .val (.int v3), .val (.int v4), .unset] [(.int v4)])) _
  refine XS.sipush X.here hx rfl (hb hby at_94) ?_
  show Steps p.tables e below (T.setTop (mkF m 97 #[.val (.int v0), .val (.int v1), .val (.int v2), .val (.int v3), .val (.int v4), .unset] [(.int (8233 : Int32)), (.int v4)])) _
  by_cases hc : v4 = (8233 : Int32)
  · rw [show (F0s_92 v4) = F0s_100 from if_pos hc] at kt
    refine XS.icmpNo X.here hx rfl (hb hby at_97) rfl (teq hc).2 ?_
    exact b0s_100 X hx hZ hw hby hown v0 v1 v2 v3 v4 target kt
  · rw [show (F0s_92 v4) = F0s_104 from if_neg hc] at kt
    refine XS.icmpYes X.here hx rfl (pc0 := 97) (pc' := 104) rfl (hb hby at_97) rfl (feq hc).2 (by decide) (by decide) ?_
    exact b0s_104 X hx hZ hw hby hown v0 v1 v2 v3 v4 target kt
def F0s_84 (v4 : Int32) : Int32 := if v4 = (8232 : Int32) then F0s_100 else (F0s_92 v4)
theorem b0s_84 {p : Program} {l : Launch} {e : Env} {R : Room} {s : State} {m : MethodId} {args : Array Value} {below : List Frame} {meth : Method} {c : Code} {T : State} {locs : List Loc} {cells slots : Nat} {Z : State} {a0 : Array Value} (X : Stand p l e R s m args below meth c T locs cells slots) (hx : p.tables.exec = Jvm.exec) (hZ : Z.Warmed39 s.vm) (hw : ∀ d ∈ tables_1, d.before a0 Z = true) (hby : c.code = code) (hown : s.vm.findClass "com/example/reroster/reroster/model/OneLineIsBreakPinLaw" = some m.cls) (v0 : Int32) (v1 : Int32) (v2 : Int32) (v3 : Int32) (v4 : Int32) (target : State) (kt : Steps p.tables e below (T.setTop (mkF m 105 #[.val (.int v0), .val (.int v1), .val (.int v2), .val (.int v3), .val (.int v4), .unset] [(.int (F0s_84 v4))])) target) : Steps p.tables e below (T.setTop (mkF m 84 #[.val (.int v0), .val (.int v1), .val (.int v2), .val (.int v3), .val (.int v4), .unset] [])) target := by
  show Steps p.tables e below (T.setTop (mkF m 84 #[.val (.int v0), .val (.int v1), .val (.int v2), .val (.int v3), .val (.int v4), .unset] [])) _
  refine XS.iload X.here hx rfl (hb hby at_84) rfl ?_
  show Steps p.tables e below (T.setTop (mkF m 86 #[.val (.int v0), .val (.int v1), .val (.int v2), .val (.int v3), .val (.int v4), .unset] [(.int v4)])) _
  refine XS.sipush X.here hx rfl (hb hby at_86) ?_
  show Steps p.tables e below (T.setTop (mkF m 89 #[.val (.int v0), .val (.int v1), .val (.int v2), .val (.int v3), .val (.int v4), .unset] [(.int (8232 : Int32)), (.int v4)])) _
  by_cases hc : v4 = (8232 : Int32)
  · rw [show (F0s_84 v4) = F0s_100 from if_pos hc] at kt
    refine XS.icmpYes X.here hx rfl (pc0 := 89) (pc' := 100) rfl (hb hby at_89) rfl (teq hc).1 (by decide) (by decide) ?_
    exact b0s_100 X hx hZ hw hby hown v0 v1 v2 v3 v4 target kt
  · rw [show (F0s_84 v4) = (F0s_92 v4) from if_neg hc] at kt
    refine XS.icmpNo X.here hx rfl (hb hby at_89) rfl (feq hc).1 ?_
    exact b0s_92 X hx hZ hw hby hown v0 v1 v2 v3 v4 target kt
def F0s_76 (v4 : Int32) : Int32 := if (159 : Int32) < v4 then (F0s_84 v4) else F0s_100
theorem b0s_76 {p : Program} {l : Launch} {e : Env} {R : Room} {s : State} {m : MethodId} {args : Array Value} {below : List Frame} {meth : Method} {c : Code} {T : State} {locs : List Loc} {cells slots : Nat} {Z : State} {a0 : Array Value} (X : Stand p l e R s m args below meth c T locs cells slots) (hx : p.tables.exec = Jvm.exec) (hZ : Z.Warmed39 s.vm) (hw : ∀ d ∈ tables_1, d.before a0 Z = true) (hby : c.code = code) (hown : s.vm.findClass "com/example/reroster/reroster/model/OneLineIsBreakPinLaw" = some m.cls) (v0 : Int32) (v1 : Int32) (v2 : Int32) (v3 : Int32) (v4 : Int32) (target : State) (kt : Steps p.tables e below (T.setTop (mkF m 105 #[.val (.int v0), .val (.int v1), .val (.int v2), .val (.int v3), .val (.int v4), .unset] [(.int (F0s_76 v4))])) target) : Steps p.tables e below (T.setTop (mkF m 76 #[.val (.int v0), .val (.int v1), .val (.int v2), .val (.int v3), .val (.int v4), .unset] [])) target := by
  show Steps p.tables e below (T.setTop (mkF m 76 #[.val (.int v0), .val (.int v1), .val (.int v2), .val (.int v3), .val (.int v4), .unset] [])) _
  refine XS.iload X.here hx rfl (hb hby at_76) rfl ?_
  show Steps p.tables e below (T.setTop (mkF m 78 #[.val (.int v0), .val (.int v1), .val (.int v2), .val (.int v3), .val (.int v4), .unset] [(.int v4)])) _
  refine XS.sipush X.here hx rfl (hb hby at_78) ?_
  show Steps p.tables e below (T.setTop (mkF m 81 #[.val (.int v0), .val (.int v1), .val (.int v2), .val (.int v3), .val (.int v4), .unset] [(.int (159 : Int32)), (.int v4)])) _
  by_cases hc : (159 : Int32) < v4
  · rw [show (F0s_76 v4) = (F0s_84 v4) from if_pos hc] at kt
    refine XS.icmpNo X.here hx rfl (hb hby at_81) rfl (tlt hc).2.2.2 ?_
    exact b0s_84 X hx hZ hw hby hown v0 v1 v2 v3 v4 target kt
  · rw [show (F0s_76 v4) = F0s_100 from if_neg hc] at kt
    refine XS.icmpYes X.here hx rfl (pc0 := 81) (pc' := 100) rfl (hb hby at_81) rfl (flt hc).2.2.2 (by decide) (by decide) ?_
    exact b0s_100 X hx hZ hw hby hown v0 v1 v2 v3 v4 target kt
def F0s_69 (v4 : Int32) : Int32 := if v4 < (127 : Int32) then (F0s_84 v4) else (F0s_76 v4)
theorem b0s_69 {p : Program} {l : Launch} {e : Env} {R : Room} {s : State} {m : MethodId} {args : Array Value} {below : List Frame} {meth : Method} {c : Code} {T : State} {locs : List Loc} {cells slots : Nat} {Z : State} {a0 : Array Value} (X : Stand p l e R s m args below meth c T locs cells slots) (hx : p.tables.exec = Jvm.exec) (hZ : Z.Warmed39 s.vm) (hw : ∀ d ∈ tables_1, d.before a0 Z = true) (hby : c.code = code) (hown : s.vm.findClass "com/example/reroster/reroster/model/OneLineIsBreakPinLaw" = some m.cls) (v0 : Int32) (v1 : Int32) (v2 : Int32) (v3 : Int32) (v4 : Int32) (target : State) (kt : Steps p.tables e below (T.setTop (mkF m 105 #[.val (.int v0), .val (.int v1), .val (.int v2), .val (.int v3), .val (.int v4), .unset] [(.int (F0s_69 v4))])) target) : Steps p.tables e below (T.setTop (mkF m 69 #[.val (.int v0), .val (.int v1), .val (.int v2), .val (.int v3), .val (.int v4), .unset] [])) target := by
  show Steps p.tables e below (T.setTop (mkF m 69 #[.val (.int v0), .val (.int v1), .val (.int v2), .val (.int v3), .val (.int v4), .unset] [])) _
  refine XS.iload X.here hx rfl (hb hby at_69) rfl ?_
  show Steps p.tables e below (T.setTop (mkF m 71 #[.val (.int v0), .val (.int v1), .val (.int v2), .val (.int v3), .val (.int v4), .unset] [(.int v4)])) _
  refine XS.bipush X.here hx rfl (hb hby at_71) ?_
  show Steps p.tables e below (T.setTop (mkF m 73 #[.val (.int v0), .val (.int v1), .val (.int v2), .val (.int v3), .val (.int v4), .unset] [(.int (127 : Int32)), (.int v4)])) _
  by_cases hc : v4 < (127 : Int32)
  · rw [show (F0s_69 v4) = (F0s_84 v4) from if_pos hc] at kt
    refine XS.icmpYes X.here hx rfl (pc0 := 73) (pc' := 84) rfl (hb hby at_73) rfl (tlt hc).1 (by decide) (by decide) ?_
    exact b0s_84 X hx hZ hw hby hown v0 v1 v2 v3 v4 target kt
  · rw [show (F0s_69 v4) = (F0s_76 v4) from if_neg hc] at kt
    refine XS.icmpNo X.here hx rfl (hb hby at_73) rfl (flt hc).1 ?_
    exact b0s_76 X hx hZ hw hby hown v0 v1 v2 v3 v4 target kt
def F0s_62 (v4 : Int32) : Int32 := if (31 : Int32) < v4 then (F0s_69 v4) else F0s_100
theorem b0s_62 {p : Program} {l : Launch} {e : Env} {R : Room} {s : State} {m : MethodId} {args : Array Value} {below : List Frame} {meth : Method} {c : Code} {T : State} {locs : List Loc} {cells slots : Nat} {Z : State} {a0 : Array Value} (X : Stand p l e R s m args below meth c T locs cells slots) (hx : p.tables.exec = Jvm.exec) (hZ : Z.Warmed39 s.vm) (hw : ∀ d ∈ tables_1, d.before a0 Z = true) (hby : c.code = code) (hown : s.vm.findClass "com/example/reroster/reroster/model/OneLineIsBreakPinLaw" = some m.cls) (v0 : Int32) (v1 : Int32) (v2 : Int32) (v3 : Int32) (v4 : Int32) (target : State) (kt : Steps p.tables e below (T.setTop (mkF m 105 #[.val (.int v0), .val (.int v1), .val (.int v2), .val (.int v3), .val (.int v4), .unset] [(.int (F0s_62 v4))])) target) : Steps p.tables e below (T.setTop (mkF m 62 #[.val (.int v0), .val (.int v1), .val (.int v2), .val (.int v3), .val (.int v4), .unset] [])) target := by
  show Steps p.tables e below (T.setTop (mkF m 62 #[.val (.int v0), .val (.int v1), .val (.int v2), .val (.int v3), .val (.int v4), .unset] [])) _
  refine XS.iload X.here hx rfl (hb hby at_62) rfl ?_
  show Steps p.tables e below (T.setTop (mkF m 64 #[.val (.int v0), .val (.int v1), .val (.int v2), .val (.int v3), .val (.int v4), .unset] [(.int v4)])) _
  refine XS.bipush X.here hx rfl (hb hby at_64) ?_
  show Steps p.tables e below (T.setTop (mkF m 66 #[.val (.int v0), .val (.int v1), .val (.int v2), .val (.int v3), .val (.int v4), .unset] [(.int (31 : Int32)), (.int v4)])) _
  by_cases hc : (31 : Int32) < v4
  · rw [show (F0s_62 v4) = (F0s_69 v4) from if_pos hc] at kt
    refine XS.icmpNo X.here hx rfl (hb hby at_66) rfl (tlt hc).2.2.2 ?_
    exact b0s_69 X hx hZ hw hby hown v0 v1 v2 v3 v4 target kt
  · rw [show (F0s_62 v4) = F0s_100 from if_neg hc] at kt
    refine XS.icmpYes X.here hx rfl (pc0 := 66) (pc' := 100) rfl (hb hby at_66) rfl (flt hc).2.2.2 (by decide) (by decide) ?_
    exact b0s_100 X hx hZ hw hby hown v0 v1 v2 v3 v4 target kt
def F0s_57 (v4 : Int32) : Int32 := if v4 < (0 : Int32) then (F0s_69 v4) else (F0s_62 v4)
theorem b0s_57 {p : Program} {l : Launch} {e : Env} {R : Room} {s : State} {m : MethodId} {args : Array Value} {below : List Frame} {meth : Method} {c : Code} {T : State} {locs : List Loc} {cells slots : Nat} {Z : State} {a0 : Array Value} (X : Stand p l e R s m args below meth c T locs cells slots) (hx : p.tables.exec = Jvm.exec) (hZ : Z.Warmed39 s.vm) (hw : ∀ d ∈ tables_1, d.before a0 Z = true) (hby : c.code = code) (hown : s.vm.findClass "com/example/reroster/reroster/model/OneLineIsBreakPinLaw" = some m.cls) (v0 : Int32) (v1 : Int32) (v2 : Int32) (v3 : Int32) (v4 : Int32) (target : State) (kt : Steps p.tables e below (T.setTop (mkF m 105 #[.val (.int v0), .val (.int v1), .val (.int v2), .val (.int v3), .val (.int v4), .unset] [(.int (F0s_57 v4))])) target) : Steps p.tables e below (T.setTop (mkF m 57 #[.val (.int v0), .val (.int v1), .val (.int v2), .val (.int v3), .val (.int v4), .unset] [])) target := by
  show Steps p.tables e below (T.setTop (mkF m 57 #[.val (.int v0), .val (.int v1), .val (.int v2), .val (.int v3), .val (.int v4), .unset] [])) _
  refine XS.iload X.here hx rfl (hb hby at_57) rfl ?_
  show Steps p.tables e below (T.setTop (mkF m 59 #[.val (.int v0), .val (.int v1), .val (.int v2), .val (.int v3), .val (.int v4), .unset] [(.int v4)])) _
  by_cases hc : v4 < (0 : Int32)
  · rw [show (F0s_57 v4) = (F0s_69 v4) from if_pos hc] at kt
    refine XS.ifYes X.here hx rfl (pc0 := 59) (pc' := 69) rfl (hb hby at_59) rfl ((if0 _ _).trans (tlt hc).1) (by decide) (by decide) ?_
    exact b0s_69 X hx hZ hw hby hown v0 v1 v2 v3 v4 target kt
  · rw [show (F0s_57 v4) = (F0s_62 v4) from if_neg hc] at kt
    refine XS.ifNo X.here hx rfl (hb hby at_59) rfl ((if0 _ _).trans (flt hc).1) ?_
    exact b0s_62 X hx hZ hw hby hown v0 v1 v2 v3 v4 target kt
theorem pn_0 : plainName "com/example/reroster/reroster/model/OneLineIsBreakPinLaw" = true := by first | (simp [plainName, overriddenIn]; done) | decide +kernel
theorem ef_0 (m : MethodId) (p0 : Int32) (p1 : Int32) : entryFrame m #[(.int p0), (.int p1)] maxLocals = mkF m 0 #[.val (.int p0), .val (.int p1), .unset, .unset, .unset, .unset] [] := by first | (simp [entryFrame, mkF, argsToLocals, Value.category, maxLocals]; done) | rfl
def Q_rm0 (Z : State) (p0 : Int32) (p1 : Int32) (h0 : Heap) (n0 : Nat) (v : Option Value) (h : Heap) (L : List Loc) : Prop := (v = some (.int (1 : Int32)) ∧ Fr n0 L)
set_option maxRecDepth 65536 in
set_option maxHeartbeats 40000000 in
theorem rm0 (l : Launch) (Z : State) (a0 : Array Value) (hw : ∀ d ∈ tables_1, d.before a0 Z = true) (ws : List Jvm.Cond) (p0 : Int32) (p1 : Int32) (h0 : Heap) (n0 : Nat) (Z0 : n0 ≤ h0.size) (hc113 : (F1_0 (F0s_4 p0 (p1 &&& (3 : Int32)))) = (F0s_57 (F0s_4 p0 (p1 &&& (3 : Int32))))) :
    MetFree l x (head1 (Jvm.Cond.code x code maxLocals ret :: ws) room_1) (fun a U => a = #[(.int p0), (.int p1)] ∧ Z.Warmed39 U.vm ∧ U.heap = h0) (fun _ _ _ _ _ => True) (fun _ U o U' => ∃ v L, o = .returned v ∧ Q_rm0 Z p0 p1 h0 n0 v U'.heap L ∧ FrameEnd U o U' L room_1.cells room_1.slots) := by
  refine MetFree.of_bodySF (plainFor_of_name pn_0) hisR ?_
  intro p e s m args below meth c s₁ Bd hml0 hP hK
  obtain ⟨rfl, hZ, hh⟩ := hP
  have hx := Bd.exec
  have hby := Bd.bytes
  have hml : c.maxLocals = 6 := hml0
  have hown : s.vm.findClass "com/example/reroster/reroster/model/OneLineIsBreakPinLaw" = some m.cls := findClass_of_methodNamed Bd.named
  have hnm := (name_of_methodNamed Bd.named Bd.method).1
  have X0 : Stand p l e room_1 s m #[(.int p0), (.int p1)] below meth c s₁ [] 0 0 := Stand.of_body Bd
  have e0 : s₁.heap = h0 := by rw [← hh, Bd.state]; rfl
  have N0 := Fr.nil n0
  have pre0 : ∀ t, Steps p.tables e below (s₁.setTop (mkF m 0 #[.val (.int p0), .val (.int p1), .unset, .unset, .unset, .unset] [])) t → Steps p.tables e below (s₁.setTop (entryFrame m #[(.int p0), (.int p1)] maxLocals)) t := fun t k => castTop (ef_0 m p0 p1) k
  obtain ⟨_, _, ⟨T1, L1, k1, n1⟩, -, X1, ⟨Lc1, hQ1, l1, y1, z1⟩, st1⟩ := Jvm.LawKit.callS X0 hx (y := (⟨"com/example/reroster/reroster/model/OneLine", "isBreak", "(C)Z"⟩ : MethodName)) hown (mvT hZ (hw _ (List.mem_of_getElem? (i := 0) rfl))) (mvT hZ (hw _ (List.mem_of_getElem? (i := 1) rfl))) (mvT hZ (hw _ (List.mem_of_getElem? (i := 2) rfl))) (mvT hZ (hw _ (List.mem_of_getElem? (i := 3) rfl))) (by decide) (backOf (W := 0) (rm1 l Z a0 hw [] (F0s_4 p0 (p1 &&& (3 : Int32))) h0 n0 Z0) hZ (hw _ (List.mem_of_getElem? (i := 3) rfl)) (hw _ (List.mem_of_getElem? (i := 2) rfl)) (by decide) (by decide)) (g := (mkF m 108 #[.val (.int p0), .val (.int p1), .val (.int (p1 &&& (3 : Int32))), .val (.int (F0s_4 p0 (p1 &&& (3 : Int32)))), .val (.int (F0s_4 p0 (p1 &&& (3 : Int32)))), .val (.int (F0s_57 (F0s_4 p0 (p1 &&& (3 : Int32)))))] [(.int (F0s_4 p0 (p1 &&& (3 : Int32))))])) rfl (by rw [hml]; rfl) (argsL := [(.int (F0s_4 p0 (p1 &&& (3 : Int32))))]) (rest := []) (lenOf pd1 rfl) rfl (by show 2 * 0 + _ ≤ _; exact Nat.le_of_eq rfl) (hb hby at_108) (fun _ _ => ⟨rfl, e0, (by decide : 0 + 0 ≤ _), (by decide : 0 + 0 ≤ _)⟩)
  dsimp only [Pt.U, Pt.locs, Pt.cells, Pt.slots] at X1 l1 y1 z1 st1 hQ1
  subst l1 y1 z1
  obtain ⟨rfl, N1q, e1⟩ := hQ1
  have N1 := Fr.app N0 N1q
  obtain ⟨fs, hr, hrun, hended, hW, hsame⟩ := X1.leave (v := some (.int (1 : Int32))) (fun h => by rw [Bd.returns] at h; cases h)
  refine ⟨_, _, pre0 _ ?_, hrun, hended, _, _, rfl, ⟨rfl, N1⟩, ⟨_, rfl⟩, hW, hsame.mono (by decide) (by decide)⟩
  show Steps p.tables e below (s₁.setTop (mkF m 0 #[.val (.int p0), .val (.int p1), .unset, .unset, .unset, .unset] [])) _
  refine XS.iloadN X0.here hx rfl (hb hby at_0) rfl ?_
  show Steps p.tables e below (s₁.setTop (mkF m 1 #[.val (.int p0), .val (.int p1), .unset, .unset, .unset, .unset] [(.int p1)])) _
  refine XS.iconst X0.here hx rfl (hb hby at_1) ?_
  show Steps p.tables e below (s₁.setTop (mkF m 2 #[.val (.int p0), .val (.int p1), .unset, .unset, .unset, .unset] [(.int (3 : Int32)), (.int p1)])) _
  refine XS.iand X0.here hx rfl (hb hby at_2) rfl ?_
  show Steps p.tables e below (s₁.setTop (mkF m 3 #[.val (.int p0), .val (.int p1), .unset, .unset, .unset, .unset] [(.int (p1 &&& (3 : Int32)))])) _
  refine XS.istoreN X0.here hx rfl (hb hby at_3) rfl (l' := #[.val (.int p0), .val (.int p1), .val (.int (p1 &&& (3 : Int32))), .unset, .unset, .unset]) rfl ?_
  show Steps p.tables e below (s₁.setTop (mkF m 4 #[.val (.int p0), .val (.int p1), .val (.int (p1 &&& (3 : Int32))), .unset, .unset, .unset] [])) _
  refine b0s_4 X0 hx hZ hw hby hown p0 p1 (p1 &&& (3 : Int32)) _ ?_
  show Steps p.tables e below (s₁.setTop (mkF m 54 #[.val (.int p0), .val (.int p1), .val (.int (p1 &&& (3 : Int32))), .val (.int (F0s_4 p0 (p1 &&& (3 : Int32)))), .unset, .unset] [])) _
  refine XS.iloadN X0.here hx rfl (hb hby at_54) rfl ?_
  show Steps p.tables e below (s₁.setTop (mkF m 55 #[.val (.int p0), .val (.int p1), .val (.int (p1 &&& (3 : Int32))), .val (.int (F0s_4 p0 (p1 &&& (3 : Int32)))), .unset, .unset] [(.int (F0s_4 p0 (p1 &&& (3 : Int32))))])) _
  refine XS.istore X0.here hx rfl (hb hby at_55) rfl (l' := #[.val (.int p0), .val (.int p1), .val (.int (p1 &&& (3 : Int32))), .val (.int (F0s_4 p0 (p1 &&& (3 : Int32)))), .val (.int (F0s_4 p0 (p1 &&& (3 : Int32)))), .unset]) rfl ?_
  show Steps p.tables e below (s₁.setTop (mkF m 57 #[.val (.int p0), .val (.int p1), .val (.int (p1 &&& (3 : Int32))), .val (.int (F0s_4 p0 (p1 &&& (3 : Int32)))), .val (.int (F0s_4 p0 (p1 &&& (3 : Int32)))), .unset] [])) _
  refine b0s_57 X0 hx hZ hw hby hown p0 p1 (p1 &&& (3 : Int32)) (F0s_4 p0 (p1 &&& (3 : Int32))) (F0s_4 p0 (p1 &&& (3 : Int32))) _ ?_
  show Steps p.tables e below (s₁.setTop (mkF m 105 #[.val (.int p0), .val (.int p1), .val (.int (p1 &&& (3 : Int32))), .val (.int (F0s_4 p0 (p1 &&& (3 : Int32)))), .val (.int (F0s_4 p0 (p1 &&& (3 : Int32)))), .unset] [(.int (F0s_57 (F0s_4 p0 (p1 &&& (3 : Int32)))))])) _
  refine XS.istore X0.here hx rfl (hb hby at_105) rfl (l' := #[.val (.int p0), .val (.int p1), .val (.int (p1 &&& (3 : Int32))), .val (.int (F0s_4 p0 (p1 &&& (3 : Int32)))), .val (.int (F0s_4 p0 (p1 &&& (3 : Int32)))), .val (.int (F0s_57 (F0s_4 p0 (p1 &&& (3 : Int32)))))]) rfl ?_
  show Steps p.tables e below (s₁.setTop (mkF m 107 #[.val (.int p0), .val (.int p1), .val (.int (p1 &&& (3 : Int32))), .val (.int (F0s_4 p0 (p1 &&& (3 : Int32)))), .val (.int (F0s_4 p0 (p1 &&& (3 : Int32)))), .val (.int (F0s_57 (F0s_4 p0 (p1 &&& (3 : Int32)))))] [])) _
  refine XS.iloadN X0.here hx rfl (hb hby at_107) rfl ?_
  show Steps p.tables e below (s₁.setTop (mkF m 108 #[.val (.int p0), .val (.int p1), .val (.int (p1 &&& (3 : Int32))), .val (.int (F0s_4 p0 (p1 &&& (3 : Int32)))), .val (.int (F0s_4 p0 (p1 &&& (3 : Int32)))), .val (.int (F0s_57 (F0s_4 p0 (p1 &&& (3 : Int32)))))] [(.int (F0s_4 p0 (p1 &&& (3 : Int32))))])) _
  refine st1 _ ?_
  show Steps p.tables e below (T1.setTop (mkF m 111 #[.val (.int p0), .val (.int p1), .val (.int (p1 &&& (3 : Int32))), .val (.int (F0s_4 p0 (p1 &&& (3 : Int32)))), .val (.int (F0s_4 p0 (p1 &&& (3 : Int32)))), .val (.int (F0s_57 (F0s_4 p0 (p1 &&& (3 : Int32)))))] [(.int (F1_0 (F0s_4 p0 (p1 &&& (3 : Int32)))))])) _
  refine XS.iload X1.here hx rfl (hb hby at_111) rfl ?_
  show Steps p.tables e below (T1.setTop (mkF m 113 #[.val (.int p0), .val (.int p1), .val (.int (p1 &&& (3 : Int32))), .val (.int (F0s_4 p0 (p1 &&& (3 : Int32)))), .val (.int (F0s_4 p0 (p1 &&& (3 : Int32)))), .val (.int (F0s_57 (F0s_4 p0 (p1 &&& (3 : Int32)))))] [(.int (F0s_57 (F0s_4 p0 (p1 &&& (3 : Int32))))), (.int (F1_0 (F0s_4 p0 (p1 &&& (3 : Int32)))))])) _
  refine XS.icmpNo X1.here hx rfl (hb hby at_113) rfl (teq hc113).2 ?_
  show Steps p.tables e below (T1.setTop (mkF m 116 #[.val (.int p0), .val (.int p1), .val (.int (p1 &&& (3 : Int32))), .val (.int (F0s_4 p0 (p1 &&& (3 : Int32)))), .val (.int (F0s_4 p0 (p1 &&& (3 : Int32)))), .val (.int (F0s_57 (F0s_4 p0 (p1 &&& (3 : Int32)))))] [])) _
  refine XS.iconst X1.here hx rfl (hb hby at_116) ?_
  show Steps p.tables e below (T1.setTop (mkF m 117 #[.val (.int p0), .val (.int p1), .val (.int (p1 &&& (3 : Int32))), .val (.int (F0s_4 p0 (p1 &&& (3 : Int32)))), .val (.int (F0s_4 p0 (p1 &&& (3 : Int32)))), .val (.int (F0s_57 (F0s_4 p0 (p1 &&& (3 : Int32)))))] [(.int (1 : Int32))])) _
  refine XS.goto X1.here hx rfl (pc0 := 117) (pc' := 121) rfl (hb hby at_117) (by decide) (by decide) ?_
  show Steps p.tables e below (T1.setTop (mkF m 121 #[.val (.int p0), .val (.int p1), .val (.int (p1 &&& (3 : Int32))), .val (.int (F0s_4 p0 (p1 &&& (3 : Int32)))), .val (.int (F0s_4 p0 (p1 &&& (3 : Int32)))), .val (.int (F0s_57 (F0s_4 p0 (p1 &&& (3 : Int32)))))] [(.int (1 : Int32))])) _
  exact retN X1 hx (t := .boolean) Bd.returns (by simp) (hb hby at_121) hr
theorem own_ushr (v : Int32) : ((v.toUInt32 >>> ((5 : Int32) &&& 31).toUInt32).toInt32) = (0 : Int32) ↔ 0 ≤ v.toInt ∧ v.toInt < 32 := by
  have h := c_iushr v 5 5 (by decide) (by decide)
  have hr := rng32 v
  rw [← Int32.toInt_inj, h]
  have e0 : (0 : Int32).toInt = 0 := rfl
  rw [e0, show (((2 ^ 5 : Nat) : Int)) = 32 from rfl]
  omega
theorem own_lt {v c : Int32} {z : Int} (hc : c.toInt = z) (h : v.toInt < z) : v < c := by rw [Int32.lt_iff_toInt_lt, hc]; exact h
theorem own_nlt {v c : Int32} {z : Int} (hc : c.toInt = z) (h : z ≤ v.toInt) : ¬ v < c := by rw [Int32.lt_iff_toInt_lt, hc]; omega
theorem own_gt {v c : Int32} {z : Int} (hc : c.toInt = z) (h : z < v.toInt) : c < v := by rw [Int32.lt_iff_toInt_lt, hc]; exact h
theorem own_ngt {v c : Int32} {z : Int} (hc : c.toInt = z) (h : v.toInt ≤ z) : ¬ c < v := by rw [Int32.lt_iff_toInt_lt, hc]; omega
theorem own_iso (v : Int32) : F3_0 v = if (0 ≤ v.toInt ∧ v.toInt < 32) ∨ (127 ≤ v.toInt ∧ v.toInt ≤ 159) then 1 else 0 := by
  have e0 : (0 : Int32).toInt = 0 := rfl
  have e31 : (31 : Int32).toInt = 31 := rfl
  have e127 : (127 : Int32).toInt = 127 := rfl
  have e159 : (159 : Int32).toInt = 159 := rfl
  by_cases h1 : 159 < v.toInt
  · rw [if_neg (by omega)]; exact if_pos (own_gt rfl (by omega))
  · rw [show F3_0 v = F3_7 v from if_neg (own_ngt rfl (by omega))]
    by_cases h2 : v.toInt < 127
    · rw [show F3_7 v = F3_13 v from if_pos (own_lt rfl (by omega))]
      by_cases h3 : 0 ≤ v.toInt ∧ v.toInt < 32
      · rw [if_pos (Or.inl h3)]; exact if_pos ((own_ushr v).mpr h3)
      · rw [if_neg (by omega)]; exact if_neg (fun q => h3 ((own_ushr v).mp q))
    · rw [if_pos (Or.inr (by omega))]; exact if_neg (own_nlt rfl (by omega))
theorem own_eq2 (v : Int32) (n8 : v = (8232 : Int32) ∨ v = (8233 : Int32) ∨ (¬ v = (8232 : Int32) ∧ ¬ v = (8233 : Int32))) : F1t_7 v = F0s_84 v := by
  rcases n8 with h | h | h
  · rw [show F1t_7 v = F1t_21 from if_pos h, show F0s_84 v = F0s_100 from if_pos h]; rfl
  · have h0 : ¬ v = (8232 : Int32) := by rw [h]; decide
    rw [show F1t_7 v = F1t_14 v from if_neg h0, show F0s_84 v = F0s_92 v from if_neg h0, show F1t_14 v = F1t_21 from if_pos h, show F0s_92 v = F0s_100 from if_pos h]; rfl
  · rw [show F1t_7 v = F1t_14 v from if_neg h.1, show F0s_84 v = F0s_92 v from if_neg h.1, show F1t_14 v = F1t_25 from if_neg h.2, show F0s_92 v = F0s_104 from if_neg h.2]; rfl
theorem own_eq (v : Int32) : F1t_7 v = F0s_84 v := by
  apply own_eq2
  by_cases h : v = (8232 : Int32)
  · exact Or.inl h
  · by_cases h2 : v = (8233 : Int32)
    · exact Or.inr (Or.inl h2)
    · exact Or.inr (Or.inr ⟨h, h2⟩)
theorem own_69 (v : Int32) (h : ¬ (127 ≤ v.toInt ∧ v.toInt ≤ 159)) : F0s_69 v = F0s_84 v := by
  have e127 : (127 : Int32).toInt = 127 := rfl
  have e159 : (159 : Int32).toInt = 159 := rfl
  by_cases h1 : v.toInt < 127
  · exact if_pos (own_lt rfl (by omega))
  · rw [show F0s_69 v = F0s_76 v from if_neg (own_nlt rfl (by omega))]; exact if_pos (own_gt rfl (by omega))
theorem own_same (v : Int32) : F1_0 v = F0s_57 v := by
  have e0 : (0 : Int32).toInt = 0 := rfl
  have e31 : (31 : Int32).toInt = 31 := rfl
  have e127 : (127 : Int32).toInt = 127 := rfl
  have e159 : (159 : Int32).toInt = 159 := rfl
  have hr := rng32 v
  have hi := own_iso v
  by_cases hp : (0 ≤ v.toInt ∧ v.toInt < 32) ∨ (127 ≤ v.toInt ∧ v.toInt ≤ 159)
  · rw [if_pos hp] at hi
    have l1 : F1_0 v = 1 := by
      show F1t_4 v (F3_0 v &&& 1) = 1
      rw [hi]; rfl
    rw [l1]
    rcases hp with hp | hp
    · rw [show F0s_57 v = F0s_62 v from if_neg (own_nlt rfl (by omega)), show F0s_62 v = F0s_100 from if_neg (own_ngt rfl (by omega))]; rfl
    · rw [show F0s_57 v = F0s_62 v from if_neg (own_nlt rfl (by omega)), show F0s_62 v = F0s_69 v from if_pos (own_gt rfl (by omega)), show F0s_69 v = F0s_76 v from if_neg (own_nlt rfl (by omega)), show F0s_76 v = F0s_100 from if_neg (own_ngt rfl (by omega))]; rfl
  · rw [if_neg hp] at hi
    have l1 : F1_0 v = F1t_7 v := by
      show F1t_4 v (F3_0 v &&& 1) = _
      rw [hi]; rfl
    rw [l1, own_eq]
    by_cases hn : v.toInt < 0
    · rw [show F0s_57 v = F0s_69 v from if_pos (own_lt rfl (by omega)), own_69 v (by omega)]
    · rw [show F0s_57 v = F0s_62 v from if_neg (own_nlt rfl (by omega)), show F0s_62 v = F0s_69 v from if_pos (own_gt rfl (by omega)), own_69 v (by omega)]

set_option maxRecDepth 65536 in
set_option maxHeartbeats 40000000 in
theorem comes_1 {Post : Tables → Env → Array Value → State → Outcome → State → Prop} (hpost : ∀ tb e args s v u, (limb_1_1.after args s (.returned v) u = true ∧ limb_1_2.after args s (.returned v) u = true ∧ True) → FrameEnd s (.returned v) u (Jvm.fieldLocs frame_1_writes args s ++ Jvm.arrayLocs frame_1_arrays args s ++ Jvm.staticLocs frame_1_statics s) 0 0 → Post tb e args s (.returned v) u) :
    ArmFor flags0 classFile x code maxLocals ret World_1 tables_1 room_1 Calls_1 rest_1 Pre_1 Post := by
  intro l hfl _ _ p e ha hc hk s m args below hf hA hF happ hP
  obtain ⟨hcalls, hrest, hpre⟩ := hP
  obtain ⟨-, -, -, hnamed, -, -, -, hat⟩ := (Spec.applies_iff hf).mp happ
  obtain ⟨hg, hn⟩ := and_e (Cond.before_iff.mp (show (Jvm.Cond.and given_1 narrow_1).before args s = true from hpre))
  obtain ⟨gc, g0⟩ := and_e hg
  obtain ⟨k0, g1⟩ := and_e g0
  have k1 := g1
  obtain ⟨w0, w1, rfl⟩ : ∃ w0 w1 : Value, args = #[w0, w1] := by
    have hs : args.size = 2 := by simpa [Cond.value, given_1] using gc
    obtain ⟨L⟩ := args
    match L, hs with
    | [w0, w1], _ => exact ⟨w0, w1, rfl⟩
  have hw := fun d (hd : d ∈ tables_1) => atoms_spec (ws := Jvm.Cond.code x code maxLocals ret :: tables_1) hat d (List.mem_cons_of_mem _ hd)
  obtain ⟨i0, ei0⟩ := is_v k0
  obtain rfl : w0 = (.int i0) := Option.some.inj ei0
  obtain ⟨i1, ei1⟩ := is_v k1
  obtain rfl : w1 = (.int i1) := Option.some.inj ei1
  obtain ⟨n, o, h1, h2, h3, _, L, rfl, ⟨rfl, N⟩, hq⟩ := rm0 l s _ hw tables_1 i0 i1 s.heap s.heap.size (Nat.le_refl _) (own_same _) p e ha hc hk s m _ below hf ((Spec.applies_iff_loose hf).mp happ).1 ⟨rfl, State.Warmed39.refl s, rfl⟩ trivial
  refine ⟨n, _, h1, h2, h3, hpost _ _ _ _ _ _ ⟨Cond.after_iff.mpr rfl, Cond.after_iff.mpr (eq_i res_at (Term.int_eval (1)) rfl), trivial⟩ ⟨hq.1, hq.2.1, (hq.2.2.sift fun y hy => Or.inr (N y hy)).mono (by decide) (by decide)⟩⟩
theorem main_1_1 : Claimed_1_1 := comes_1 fun _ _ _ _ _ _ h hF => ⟨h.1, hF⟩
theorem main_1_2 : Claimed_1_2 := comes_1 fun _ _ _ _ _ _ h hF => ⟨h.2.1, hF⟩
end Jvm.Pilot.@@N@@
namespace Jvm.Pilot.@@N@@
open Jvm Jvm.ClassFile Sem Op Lib Jvm.Free Jvm.Stand Jvm.Pilot.@@N@@.Jvm.D
/-! MADE BY PROGRAM (witnessworld.py) out of the Statement's table words and the real class files: 12 classes; the members and pool entries that the words name. The judged class is class 1, her method 1. -/
namespace start1
open Jvm.ClassFile
def u (s : String) : CpInfo := .utf8 (stringToUtf16 s)
/-- a pool by its gaps: so many unusable entries, then the entry; so many at the end -/
def gap : Nat → List CpInfo → List CpInfo
  | 0, r => r
  | n + 1, r => .unusable :: gap n r
def poolList (es : List (Nat × CpInfo)) (last : Nat) : List CpInfo := es.foldr (fun e r => gap e.1 (e.2 :: r)) (gap last [])
def pool (es : List (Nat × CpInfo)) (last : Nat) : Array CpInfo := ⟨poolList es last⟩
def fileOf (pool : Array CpInfo) (this : Nat) (attrs : Array Attribute := #[]) (ms : Array MethodInfo := #[]) (fl : Nat := 33) (sup : Nat := 0) (ifs : Array Nat := #[]) (fds : Array FieldInfo := #[]) : ClassFile where
  minorVersion := 0
  majorVersion := 65
  constantPool := pool
  accessFlags := fl
  thisClass := this
  superClass := sup
  interfaces := ifs
  fields := fds
  methods := ms
  attributes := attrs
def plain (name : String) (sup : Option ClassId) : Class where
  name := name
  kind := .ordinary
  loader := none
  accessFlags := 33
  super := sup
  interfaces := #[]
  cf := none
  fields := #[]
  methods := #[]
  instanceTypes := #[]
  staticTypes := #[]
  resolved := #[]
  callSites := []
  init := .initialized
  statics := none
  mirror := none

def pool0 : Array CpInfo := pool [(5, u "<init>"), (0, u "()V"), (1, .class_ 10), (1, u "java/lang/Object")] 113

def k0m0 : Method := { name := "<init>", desc := "()V", sig := { parameters := [], returnType := none }, accessFlags := 1, code := none }
/-- java/lang/Object -/
def k0 : Class := { plain "java/lang/Object" none with
  accessFlags := 33
  interfaces := #[]
  cf := some (fileOf pool0 8 #[] #[{ accessFlags := 1, nameIndex := 5, descriptorIndex := 6, attributes := #[] }] 33 0 #[] #[])
  fields := #[]
  methods := #[k0m0]
  instanceTypes := #[]
  staticTypes := #[]
  resolved := Array.replicate 124 none
  statics := none }

def pool1 : Array CpInfo := pool [(2, .class_ 4), (1, u "java/lang/Object"), (0, u "<init>"), (0, u "()V"), (0, .methodref 8 9), (0, .class_ 10), (0, .nameAndType 11 12), (0, u "com/example/reroster/reroster/model/OneLine"), (0, u "isBreak"), (0, u "(C)Z"), (0, .class_ 14), (0, u "com/example/reroster/reroster/model/OneLineIsBreakPinLaw"), (2, u "law"), (0, u "(II)Z")] 3

def k1m0 : Method := { name := "<init>", desc := "()V", sig := { parameters := [], returnType := none }, accessFlags := 2, code := none }
def k1c1 : Code := { maxStack := 3, maxLocals := 6, code := code, exceptionTable := #[], attributes := #[] }
def k1m1 : Method := { name := "law", desc := "(II)Z", sig := { parameters := [.int, .int], returnType := some .boolean }, accessFlags := 9, code := some k1c1 }
/-- com/example/reroster/reroster/model/OneLineIsBreakPinLaw -/
def k1 : Class := { plain "com/example/reroster/reroster/model/OneLineIsBreakPinLaw" (some 0) with
  accessFlags := 49
  interfaces := #[]
  cf := some (fileOf pool1 13 #[] #[{ accessFlags := 2, nameIndex := 5, descriptorIndex := 6, attributes := #[] }, { accessFlags := 9, nameIndex := 17, descriptorIndex := 18, attributes := #[] }] 49 2 #[] #[])
  fields := #[]
  methods := #[k1m0, k1m1]
  instanceTypes := #[]
  staticTypes := #[]
  resolved := Array.replicate 22 none
  statics := none }

def pool2 : Array CpInfo := pool [(2, .class_ 4), (1, u "java/lang/Object"), (0, u "<init>"), (0, u "()V"), (0, .methodref 8 9), (0, .class_ 10), (0, .nameAndType 11 12), (0, u "java/lang/Character"), (0, u "isISOControl"), (0, u "(C)Z"), (11, .class_ 26), (1, u "com/example/reroster/reroster/model/OneLine"), (0, u "isBreak")] 41

def k2m0 : Method := { name := "<init>", desc := "()V", sig := { parameters := [], returnType := none }, accessFlags := 2, code := none }
def k2c1 : Code := { maxStack := 2, maxLocals := 1, code := prog_33_method_2_code, exceptionTable := #[], attributes := #[] }
def k2m1 : Method := { name := "isBreak", desc := "(C)Z", sig := { parameters := [.char], returnType := some .boolean }, accessFlags := 8, code := some k2c1 }
/-- com/example/reroster/reroster/model/OneLine -/
def k2 : Class := { plain "com/example/reroster/reroster/model/OneLine" (some 0) with
  accessFlags := 49
  interfaces := #[]
  cf := some (fileOf pool2 24 #[] #[{ accessFlags := 2, nameIndex := 5, descriptorIndex := 6, attributes := #[] }, { accessFlags := 8, nameIndex := 27, descriptorIndex := 12, attributes := #[] }] 49 2 #[] #[])
  fields := #[]
  methods := #[k2m0, k2m1]
  instanceTypes := #[]
  staticTypes := #[]
  resolved := Array.replicate 69 none
  statics := none }

def pool3 : Array CpInfo := pool [(1, .class_ 2), (0, u "java/io/Serializable"), (0, .class_ 4), (0, u "java/lang/Object")] 2

/-- java/io/Serializable -/
def k3 : Class := { plain "java/io/Serializable" (some 0) with
  accessFlags := 1537
  interfaces := #[]
  cf := some (fileOf pool3 1 #[] #[] 1537 3 #[] #[])
  fields := #[]
  methods := #[]
  instanceTypes := #[]
  staticTypes := #[]
  resolved := Array.replicate 7 none
  statics := none }

def pool4 : Array CpInfo := pool [(1, .class_ 2), (0, u "java/lang/Comparable"), (0, .class_ 4), (0, u "java/lang/Object")] 7

/-- java/lang/Comparable -/
def k4 : Class := { plain "java/lang/Comparable" (some 0) with
  accessFlags := 1537
  interfaces := #[]
  cf := some (fileOf pool4 1 #[] #[] 1537 3 #[] #[])
  fields := #[]
  methods := #[]
  instanceTypes := #[]
  staticTypes := #[]
  resolved := Array.replicate 12 none
  statics := none }

def pool5 : Array CpInfo := pool [(1, .class_ 2), (0, u "java/lang/constant/Constable"), (0, .class_ 4), (0, u "java/lang/Object")] 6

/-- java/lang/constant/Constable -/
def k5 : Class := { plain "java/lang/constant/Constable" (some 0) with
  accessFlags := 1537
  interfaces := #[]
  cf := some (fileOf pool5 1 #[] #[] 1537 3 #[] #[])
  fields := #[]
  methods := #[]
  instanceTypes := #[]
  staticTypes := #[]
  resolved := Array.replicate 11 none
  statics := none }

def pool6 : Array CpInfo := pool [(1, .class_ 2), (0, u "java/lang/Character"), (18, u "value"), (0, u "C"), (19, .class_ 44), (1, u "java/lang/Object"), (3, .class_ 50), (1, u "java/lang/Character$CharacterCache"), (30, u "(C)Z"), (32, u "(I)Z"), (151, .methodref 1 267), (0, .nameAndType 268 114), (0, u "isISOControl"), (15, u "$assertionsDisabled"), (0, u "Z"), (21, .class_ 309), (1, u "java/lang/Character$UnicodeBlock"), (73, u "TYPE"), (0, u "Ljava/lang/Class;"), (0, .class_ 386), (0, u "java/io/Serializable"), (0, .class_ 388), (0, u "java/lang/Comparable"), (0, .class_ 390), (0, u "java/lang/constant/Constable"), (0, u "MIN_RADIX"), (0, u "I"), (2, u "MAX_RADIX"), (1, u "MIN_VALUE"), (1, u "MAX_VALUE"), (3, u "UNASSIGNED"), (0, u "B"), (0, u "UPPERCASE_LETTER"), (1, u "LOWERCASE_LETTER"), (0, u "TITLECASE_LETTER"), (1, u "MODIFIER_LETTER"), (1, u "OTHER_LETTER"), (1, u "NON_SPACING_MARK"), (1, u "ENCLOSING_MARK"), (1, u "COMBINING_SPACING_MARK"), (1, u "DECIMAL_DIGIT_NUMBER"), (1, u "LETTER_NUMBER"), (1, u "OTHER_NUMBER"), (1, u "SPACE_SEPARATOR"), (1, u "LINE_SEPARATOR"), (1, u "PARAGRAPH_SEPARATOR"), (1, u "CONTROL"), (1, u "FORMAT"), (1, u "PRIVATE_USE"), (1, u "SURROGATE"), (1, u "DASH_PUNCTUATION"), (1, u "START_PUNCTUATION"), (1, u "END_PUNCTUATION"), (1, u "CONNECTOR_PUNCTUATION"), (1, u "OTHER_PUNCTUATION"), (1, u "MATH_SYMBOL"), (1, u "CURRENCY_SYMBOL"), (1, u "MODIFIER_SYMBOL"), (1, u "OTHER_SYMBOL"), (1, u "INITIAL_QUOTE_PUNCTUATION"), (1, u "FINAL_QUOTE_PUNCTUATION"), (1, u "ERROR"), (1, u "DIRECTIONALITY_UNDEFINED"), (0, u "DIRECTIONALITY_LEFT_TO_RIGHT"), (0, u "DIRECTIONALITY_RIGHT_TO_LEFT"), (0, u "DIRECTIONALITY_RIGHT_TO_LEFT_ARABIC"), (0, u "DIRECTIONALITY_EUROPEAN_NUMBER"), (0, u "DIRECTIONALITY_EUROPEAN_NUMBER_SEPARATOR"), (0, u "DIRECTIONALITY_EUROPEAN_NUMBER_TERMINATOR"), (0, u "DIRECTIONALITY_ARABIC_NUMBER"), (0, u "DIRECTIONALITY_COMMON_NUMBER_SEPARATOR"), (0, u "DIRECTIONALITY_NONSPACING_MARK"), (0, u "DIRECTIONALITY_BOUNDARY_NEUTRAL"), (0, u "DIRECTIONALITY_PARAGRAPH_SEPARATOR"), (0, u "DIRECTIONALITY_SEGMENT_SEPARATOR"), (0, u "DIRECTIONALITY_WHITESPACE"), (0, u "DIRECTIONALITY_OTHER_NEUTRALS"), (0, u "DIRECTIONALITY_LEFT_TO_RIGHT_EMBEDDING"), (0, u "DIRECTIONALITY_LEFT_TO_RIGHT_OVERRIDE"), (0, u "DIRECTIONALITY_RIGHT_TO_LEFT_EMBEDDING"), (0, u "DIRECTIONALITY_RIGHT_TO_LEFT_OVERRIDE"), (1, u "DIRECTIONALITY_POP_DIRECTIONAL_FORMAT"), (0, u "DIRECTIONALITY_LEFT_TO_RIGHT_ISOLATE"), (0, u "DIRECTIONALITY_RIGHT_TO_LEFT_ISOLATE"), (0, u "DIRECTIONALITY_FIRST_STRONG_ISOLATE"), (0, u "DIRECTIONALITY_POP_DIRECTIONAL_ISOLATE"), (0, u "MIN_HIGH_SURROGATE"), (0, u "MAX_HIGH_SURROGATE"), (1, u "MIN_LOW_SURROGATE"), (0, u "MAX_LOW_SURROGATE"), (1, u "MIN_SURROGATE"), (0, u "MAX_SURROGATE"), (0, u "MIN_SUPPLEMENTARY_CODE_POINT"), (0, u "MIN_CODE_POINT"), (0, u "MAX_CODE_POINT"), (1, u "serialVersionUID"), (0, u "J"), (2, u "SIZE"), (0, u "BYTES"), (88, .class_ 596), (0, u "java/lang/Character$UnicodeScript"), (0, .class_ 598), (0, u "java/lang/Character$Subset")] 5

def k6c0 : Code := { maxStack := 1, maxLocals := 1, code := jdk_89_method_88_code, exceptionTable := #[], attributes := #[] }
def k6m0 : Method := { name := "isISOControl", desc := "(C)Z", sig := { parameters := [.char], returnType := some .boolean }, accessFlags := 9, code := some k6c0 }
def k6c1 : Code := { maxStack := 2, maxLocals := 1, code := jdk_89_method_89_code, exceptionTable := #[], attributes := #[] }
def k6m1 : Method := { name := "isISOControl", desc := "(I)Z", sig := { parameters := [.int], returnType := some .boolean }, accessFlags := 9, code := some k6c1 }
/-- java/lang/Character -/
def k6 : Class := { plain "java/lang/Character" (some 0) with
  accessFlags := 49
  interfaces := #[3, 4, 5]
  cf := some (fileOf pool6 1 #[.nestMembers #[48, 595, 307, 597]] #[{ accessFlags := 9, nameIndex := 268, descriptorIndex := 81, attributes := #[] }, { accessFlags := 9, nameIndex := 268, descriptorIndex := 114, attributes := #[] }] 49 42 #[385, 387, 389] #[{ accessFlags := 25, nameIndex := 391, descriptorIndex := 392, attributes := #[] }, { accessFlags := 25, nameIndex := 395, descriptorIndex := 392, attributes := #[] }, { accessFlags := 25, nameIndex := 397, descriptorIndex := 22, attributes := #[] }, { accessFlags := 25, nameIndex := 399, descriptorIndex := 22, attributes := #[] }, { accessFlags := 25, nameIndex := 383, descriptorIndex := 384, attributes := #[] }, { accessFlags := 25, nameIndex := 403, descriptorIndex := 404, attributes := #[] }, { accessFlags := 25, nameIndex := 405, descriptorIndex := 404, attributes := #[] }, { accessFlags := 25, nameIndex := 407, descriptorIndex := 404, attributes := #[] }, { accessFlags := 25, nameIndex := 408, descriptorIndex := 404, attributes := #[] }, { accessFlags := 25, nameIndex := 410, descriptorIndex := 404, attributes := #[] }, { accessFlags := 25, nameIndex := 412, descriptorIndex := 404, attributes := #[] }, { accessFlags := 25, nameIndex := 414, descriptorIndex := 404, attributes := #[] }, { accessFlags := 25, nameIndex := 416, descriptorIndex := 404, attributes := #[] }, { accessFlags := 25, nameIndex := 418, descriptorIndex := 404, attributes := #[] }, { accessFlags := 25, nameIndex := 420, descriptorIndex := 404, attributes := #[] }, { accessFlags := 25, nameIndex := 422, descriptorIndex := 404, attributes := #[] }, { accessFlags := 25, nameIndex := 424, descriptorIndex := 404, attributes := #[] }, { accessFlags := 25, nameIndex := 426, descriptorIndex := 404, attributes := #[] }, { accessFlags := 25, nameIndex := 428, descriptorIndex := 404, attributes := #[] }, { accessFlags := 25, nameIndex := 430, descriptorIndex := 404, attributes := #[] }, { accessFlags := 25, nameIndex := 432, descriptorIndex := 404, attributes := #[] }, { accessFlags := 25, nameIndex := 434, descriptorIndex := 404, attributes := #[] }, { accessFlags := 25, nameIndex := 436, descriptorIndex := 404, attributes := #[] }, { accessFlags := 25, nameIndex := 438, descriptorIndex := 404, attributes := #[] }, { accessFlags := 25, nameIndex := 440, descriptorIndex := 404, attributes := #[] }, { accessFlags := 25, nameIndex := 442, descriptorIndex := 404, attributes := #[] }, { accessFlags := 25, nameIndex := 444, descriptorIndex := 404, attributes := #[] }, { accessFlags := 25, nameIndex := 446, descriptorIndex := 404, attributes := #[] }, { accessFlags := 25, nameIndex := 448, descriptorIndex := 404, attributes := #[] }, { accessFlags := 25, nameIndex := 450, descriptorIndex := 404, attributes := #[] }, { accessFlags := 25, nameIndex := 452, descriptorIndex := 404, attributes := #[] }, { accessFlags := 25, nameIndex := 454, descriptorIndex := 404, attributes := #[] }, { accessFlags := 25, nameIndex := 456, descriptorIndex := 404, attributes := #[] }, { accessFlags := 25, nameIndex := 458, descriptorIndex := 404, attributes := #[] }, { accessFlags := 25, nameIndex := 460, descriptorIndex := 404, attributes := #[] }, { accessFlags := 24, nameIndex := 462, descriptorIndex := 392, attributes := #[] }, { accessFlags := 25, nameIndex := 464, descriptorIndex := 404, attributes := #[] }, { accessFlags := 25, nameIndex := 465, descriptorIndex := 404, attributes := #[] }, { accessFlags := 25, nameIndex := 466, descriptorIndex := 404, attributes := #[] }, { accessFlags := 25, nameIndex := 467, descriptorIndex := 404, attributes := #[] }, { accessFlags := 25, nameIndex := 468, descriptorIndex := 404, attributes := #[] }, { accessFlags := 25, nameIndex := 469, descriptorIndex := 404, attributes := #[] }, { accessFlags := 25, nameIndex := 470, descriptorIndex := 404, attributes := #[] }, { accessFlags := 25, nameIndex := 471, descriptorIndex := 404, attributes := #[] }, { accessFlags := 25, nameIndex := 472, descriptorIndex := 404, attributes := #[] }, { accessFlags := 25, nameIndex := 473, descriptorIndex := 404, attributes := #[] }, { accessFlags := 25, nameIndex := 474, descriptorIndex := 404, attributes := #[] }, { accessFlags := 25, nameIndex := 475, descriptorIndex := 404, attributes := #[] }, { accessFlags := 25, nameIndex := 476, descriptorIndex := 404, attributes := #[] }, { accessFlags := 25, nameIndex := 477, descriptorIndex := 404, attributes := #[] }, { accessFlags := 25, nameIndex := 478, descriptorIndex := 404, attributes := #[] }, { accessFlags := 25, nameIndex := 479, descriptorIndex := 404, attributes := #[] }, { accessFlags := 25, nameIndex := 480, descriptorIndex := 404, attributes := #[] }, { accessFlags := 25, nameIndex := 481, descriptorIndex := 404, attributes := #[] }, { accessFlags := 25, nameIndex := 482, descriptorIndex := 404, attributes := #[] }, { accessFlags := 25, nameIndex := 484, descriptorIndex := 404, attributes := #[] }, { accessFlags := 25, nameIndex := 485, descriptorIndex := 404, attributes := #[] }, { accessFlags := 25, nameIndex := 486, descriptorIndex := 404, attributes := #[] }, { accessFlags := 25, nameIndex := 487, descriptorIndex := 404, attributes := #[] }, { accessFlags := 25, nameIndex := 488, descriptorIndex := 404, attributes := #[] }, { accessFlags := 25, nameIndex := 489, descriptorIndex := 22, attributes := #[] }, { accessFlags := 25, nameIndex := 490, descriptorIndex := 22, attributes := #[] }, { accessFlags := 25, nameIndex := 492, descriptorIndex := 22, attributes := #[] }, { accessFlags := 25, nameIndex := 493, descriptorIndex := 22, attributes := #[] }, { accessFlags := 25, nameIndex := 495, descriptorIndex := 22, attributes := #[] }, { accessFlags := 25, nameIndex := 496, descriptorIndex := 22, attributes := #[] }, { accessFlags := 25, nameIndex := 497, descriptorIndex := 392, attributes := #[] }, { accessFlags := 25, nameIndex := 498, descriptorIndex := 392, attributes := #[] }, { accessFlags := 25, nameIndex := 499, descriptorIndex := 392, attributes := #[] }, { accessFlags := 18, nameIndex := 21, descriptorIndex := 22, attributes := #[] }, { accessFlags := 26, nameIndex := 501, descriptorIndex := 502, attributes := #[] }, { accessFlags := 25, nameIndex := 505, descriptorIndex := 392, attributes := #[] }, { accessFlags := 25, nameIndex := 506, descriptorIndex := 392, attributes := #[] }, { accessFlags := 4120, nameIndex := 284, descriptorIndex := 285, attributes := #[] }])
  fields := #[{ name := "MIN_RADIX", type := .int, accessFlags := 25, slot := 0, constantValue := 0 }, { name := "MAX_RADIX", type := .int, accessFlags := 25, slot := 1, constantValue := 0 }, { name := "MIN_VALUE", type := .char, accessFlags := 25, slot := 2, constantValue := 0 }, { name := "MAX_VALUE", type := .char, accessFlags := 25, slot := 3, constantValue := 0 }, { name := "TYPE", type := (.object "java/lang/Class"), accessFlags := 25, slot := 4, constantValue := 0 }, { name := "UNASSIGNED", type := .byte, accessFlags := 25, slot := 5, constantValue := 0 }, { name := "UPPERCASE_LETTER", type := .byte, accessFlags := 25, slot := 6, constantValue := 0 }, { name := "LOWERCASE_LETTER", type := .byte, accessFlags := 25, slot := 7, constantValue := 0 }, { name := "TITLECASE_LETTER", type := .byte, accessFlags := 25, slot := 8, constantValue := 0 }, { name := "MODIFIER_LETTER", type := .byte, accessFlags := 25, slot := 9, constantValue := 0 }, { name := "OTHER_LETTER", type := .byte, accessFlags := 25, slot := 10, constantValue := 0 }, { name := "NON_SPACING_MARK", type := .byte, accessFlags := 25, slot := 11, constantValue := 0 }, { name := "ENCLOSING_MARK", type := .byte, accessFlags := 25, slot := 12, constantValue := 0 }, { name := "COMBINING_SPACING_MARK", type := .byte, accessFlags := 25, slot := 13, constantValue := 0 }, { name := "DECIMAL_DIGIT_NUMBER", type := .byte, accessFlags := 25, slot := 14, constantValue := 0 }, { name := "LETTER_NUMBER", type := .byte, accessFlags := 25, slot := 15, constantValue := 0 }, { name := "OTHER_NUMBER", type := .byte, accessFlags := 25, slot := 16, constantValue := 0 }, { name := "SPACE_SEPARATOR", type := .byte, accessFlags := 25, slot := 17, constantValue := 0 }, { name := "LINE_SEPARATOR", type := .byte, accessFlags := 25, slot := 18, constantValue := 0 }, { name := "PARAGRAPH_SEPARATOR", type := .byte, accessFlags := 25, slot := 19, constantValue := 0 }, { name := "CONTROL", type := .byte, accessFlags := 25, slot := 20, constantValue := 0 }, { name := "FORMAT", type := .byte, accessFlags := 25, slot := 21, constantValue := 0 }, { name := "PRIVATE_USE", type := .byte, accessFlags := 25, slot := 22, constantValue := 0 }, { name := "SURROGATE", type := .byte, accessFlags := 25, slot := 23, constantValue := 0 }, { name := "DASH_PUNCTUATION", type := .byte, accessFlags := 25, slot := 24, constantValue := 0 }, { name := "START_PUNCTUATION", type := .byte, accessFlags := 25, slot := 25, constantValue := 0 }, { name := "END_PUNCTUATION", type := .byte, accessFlags := 25, slot := 26, constantValue := 0 }, { name := "CONNECTOR_PUNCTUATION", type := .byte, accessFlags := 25, slot := 27, constantValue := 0 }, { name := "OTHER_PUNCTUATION", type := .byte, accessFlags := 25, slot := 28, constantValue := 0 }, { name := "MATH_SYMBOL", type := .byte, accessFlags := 25, slot := 29, constantValue := 0 }, { name := "CURRENCY_SYMBOL", type := .byte, accessFlags := 25, slot := 30, constantValue := 0 }, { name := "MODIFIER_SYMBOL", type := .byte, accessFlags := 25, slot := 31, constantValue := 0 }, { name := "OTHER_SYMBOL", type := .byte, accessFlags := 25, slot := 32, constantValue := 0 }, { name := "INITIAL_QUOTE_PUNCTUATION", type := .byte, accessFlags := 25, slot := 33, constantValue := 0 }, { name := "FINAL_QUOTE_PUNCTUATION", type := .byte, accessFlags := 25, slot := 34, constantValue := 0 }, { name := "ERROR", type := .int, accessFlags := 24, slot := 35, constantValue := 0 }, { name := "DIRECTIONALITY_UNDEFINED", type := .byte, accessFlags := 25, slot := 36, constantValue := 0 }, { name := "DIRECTIONALITY_LEFT_TO_RIGHT", type := .byte, accessFlags := 25, slot := 37, constantValue := 0 }, { name := "DIRECTIONALITY_RIGHT_TO_LEFT", type := .byte, accessFlags := 25, slot := 38, constantValue := 0 }, { name := "DIRECTIONALITY_RIGHT_TO_LEFT_ARABIC", type := .byte, accessFlags := 25, slot := 39, constantValue := 0 }, { name := "DIRECTIONALITY_EUROPEAN_NUMBER", type := .byte, accessFlags := 25, slot := 40, constantValue := 0 }, { name := "DIRECTIONALITY_EUROPEAN_NUMBER_SEPARATOR", type := .byte, accessFlags := 25, slot := 41, constantValue := 0 }, { name := "DIRECTIONALITY_EUROPEAN_NUMBER_TERMINATOR", type := .byte, accessFlags := 25, slot := 42, constantValue := 0 }, { name := "DIRECTIONALITY_ARABIC_NUMBER", type := .byte, accessFlags := 25, slot := 43, constantValue := 0 }, { name := "DIRECTIONALITY_COMMON_NUMBER_SEPARATOR", type := .byte, accessFlags := 25, slot := 44, constantValue := 0 }, { name := "DIRECTIONALITY_NONSPACING_MARK", type := .byte, accessFlags := 25, slot := 45, constantValue := 0 }, { name := "DIRECTIONALITY_BOUNDARY_NEUTRAL", type := .byte, accessFlags := 25, slot := 46, constantValue := 0 }, { name := "DIRECTIONALITY_PARAGRAPH_SEPARATOR", type := .byte, accessFlags := 25, slot := 47, constantValue := 0 }, { name := "DIRECTIONALITY_SEGMENT_SEPARATOR", type := .byte, accessFlags := 25, slot := 48, constantValue := 0 }, { name := "DIRECTIONALITY_WHITESPACE", type := .byte, accessFlags := 25, slot := 49, constantValue := 0 }, { name := "DIRECTIONALITY_OTHER_NEUTRALS", type := .byte, accessFlags := 25, slot := 50, constantValue := 0 }, { name := "DIRECTIONALITY_LEFT_TO_RIGHT_EMBEDDING", type := .byte, accessFlags := 25, slot := 51, constantValue := 0 }, { name := "DIRECTIONALITY_LEFT_TO_RIGHT_OVERRIDE", type := .byte, accessFlags := 25, slot := 52, constantValue := 0 }, { name := "DIRECTIONALITY_RIGHT_TO_LEFT_EMBEDDING", type := .byte, accessFlags := 25, slot := 53, constantValue := 0 }, { name := "DIRECTIONALITY_RIGHT_TO_LEFT_OVERRIDE", type := .byte, accessFlags := 25, slot := 54, constantValue := 0 }, { name := "DIRECTIONALITY_POP_DIRECTIONAL_FORMAT", type := .byte, accessFlags := 25, slot := 55, constantValue := 0 }, { name := "DIRECTIONALITY_LEFT_TO_RIGHT_ISOLATE", type := .byte, accessFlags := 25, slot := 56, constantValue := 0 }, { name := "DIRECTIONALITY_RIGHT_TO_LEFT_ISOLATE", type := .byte, accessFlags := 25, slot := 57, constantValue := 0 }, { name := "DIRECTIONALITY_FIRST_STRONG_ISOLATE", type := .byte, accessFlags := 25, slot := 58, constantValue := 0 }, { name := "DIRECTIONALITY_POP_DIRECTIONAL_ISOLATE", type := .byte, accessFlags := 25, slot := 59, constantValue := 0 }, { name := "MIN_HIGH_SURROGATE", type := .char, accessFlags := 25, slot := 60, constantValue := 0 }, { name := "MAX_HIGH_SURROGATE", type := .char, accessFlags := 25, slot := 61, constantValue := 0 }, { name := "MIN_LOW_SURROGATE", type := .char, accessFlags := 25, slot := 62, constantValue := 0 }, { name := "MAX_LOW_SURROGATE", type := .char, accessFlags := 25, slot := 63, constantValue := 0 }, { name := "MIN_SURROGATE", type := .char, accessFlags := 25, slot := 64, constantValue := 0 }, { name := "MAX_SURROGATE", type := .char, accessFlags := 25, slot := 65, constantValue := 0 }, { name := "MIN_SUPPLEMENTARY_CODE_POINT", type := .int, accessFlags := 25, slot := 66, constantValue := 0 }, { name := "MIN_CODE_POINT", type := .int, accessFlags := 25, slot := 67, constantValue := 0 }, { name := "MAX_CODE_POINT", type := .int, accessFlags := 25, slot := 68, constantValue := 0 }, { name := "value", type := .char, accessFlags := 18, slot := 0, constantValue := 0 }, { name := "serialVersionUID", type := .long, accessFlags := 26, slot := 69, constantValue := 0 }, { name := "SIZE", type := .int, accessFlags := 25, slot := 70, constantValue := 0 }, { name := "BYTES", type := .int, accessFlags := 25, slot := 71, constantValue := 0 }, { name := "$assertionsDisabled", type := .boolean, accessFlags := 4120, slot := 72, constantValue := 0 }]
  methods := #[k6m0, k6m1]
  instanceTypes := #[.char]
  staticTypes := #[.int, .int, .char, .char, (.object "java/lang/Class"), .byte, .byte, .byte, .byte, .byte, .byte, .byte, .byte, .byte, .byte, .byte, .byte, .byte, .byte, .byte, .byte, .byte, .byte, .byte, .byte, .byte, .byte, .byte, .byte, .byte, .byte, .byte, .byte, .byte, .byte, .int, .byte, .byte, .byte, .byte, .byte, .byte, .byte, .byte, .byte, .byte, .byte, .byte, .byte, .byte, .byte, .byte, .byte, .byte, .byte, .byte, .byte, .byte, .byte, .byte, .char, .char, .char, .char, .char, .char, .int, .int, .int, .long, .int, .int, .boolean]
  resolved := Array.replicate 604 none
  statics := none }

def pool7 : Array CpInfo := pool [(1, u "java/lang/Cloneable"), (0, .class_ 1), (0, u "java/lang/Object"), (0, .class_ 3)] 3

/-- java/lang/Cloneable -/
def k7 : Class := { plain "java/lang/Cloneable" (some 0) with
  accessFlags := 1537
  interfaces := #[]
  cf := some (fileOf pool7 2 #[] #[] 1537 4 #[] #[])
  fields := #[]
  methods := #[]
  instanceTypes := #[]
  staticTypes := #[]
  resolved := Array.replicate 8 none
  statics := none }

/-- the primitive byte -/
def k8 : Class := { plain "byte" none with kind := .primitive 'B', accessFlags := 0x411 }
/-- [B -/
def k9 : Class := { plain "[B" (some 0) with kind := .array 8 .byte, interfaces := #[7, 3], accessFlags := 1041 }

/-- the primitive int -/
def k10 : Class := { plain "int" none with kind := .primitive 'I', accessFlags := 0x411 }
/-- [I -/
def k11 : Class := { plain "[I" (some 0) with kind := .array 10 .int, interfaces := #[7, 3], accessFlags := 1041 }

def heap : Heap := #[]
def classes : Array Class := #[k0, k1, k2, k3, k4, k5, k6, k7, k8, k9, k10, k11]
def interned : List (Array UInt16 × Addr) := []
def slotsUsed : Nat := 0
def theMethod : MethodId := ⟨1, 1⟩
def args0 : Array Value := #[.int 5, .int 5]
def aboutOver (below : List Frame) : State where
  vm := { classes := classes, interned := interned.toArray }
  heap := heap
  slotsUsed := slotsUsed
  threads := #[{ frames := .invoking theMethod args0 :: below }]
def below0 : List Frame := [.native { method := ⟨0, 0⟩, args := #[] }]
def about1 : State := aboutOver below0
def p0 : Program := .bare "" "" ""
def e0 : Env := launch0.env 0 0 0
theorem w_frames : about1.frames = Frame.invoking theMethod args0 :: below0 := rfl
set_option maxRecDepth 65536 in
theorem w_args : argsFit about1.vm theMethod args0 = true := by decide +kernel
set_option maxRecDepth 65536 in
theorem w_heap : heapFits about1 = true := by decide +kernel
set_option maxRecDepth 65536 in
theorem w_runnable : about1.curStatus? = some .runnable := by decide +kernel
set_option maxRecDepth 65536 in
theorem w_alone : about1.alone = true := by decide +kernel
set_option maxRecDepth 65536 in
theorem w_named : about1.methodNamed? x = some theMethod := by decide +kernel
set_option maxRecDepth 65536 in
theorem w_hears : about1.hears theMethod below0 = true := by decide +kernel
set_option maxRecDepth 65536 in
theorem w_ripe : about1.ripe theMethod args0 below0 = true := by decide +kernel
theorem w_running : about1.status = .running := rfl
set_option maxRecDepth 65536 in
theorem w_room : about1.hasRoom e0.platform room_1 = true :=
  launch0.hasRoom_least _ room_1 (by decide +kernel) (by decide +kernel) (by decide +kernel) (by decide +kernel) (by decide +kernel) (by decide +kernel)
theorem allAtoms_all (ts : List Jvm.Cond) (a : Array Jvm.Value) (st : Jvm.State) : (allAtoms ts).before a st = ts.all (fun c => c.before a st) := by
  induction ts with
  | nil => rfl
  | cons c t ih =>
    show (Jvm.Cond.and c (allAtoms t)).before a st = _
    rw [Jvm.Cond.before_and, ih, List.all_cons]
def words1 : List Jvm.Cond := Jvm.Cond.code x code maxLocals ret :: tables_1
/-- a 'code' word, met by the world's own term for the bytes: nothing is compared byte by byte -/
theorem code_word {y : MethodName} {bytes : ByteArray} {mx : Nat} {rt : Option FieldType} {a : Array Value} {s : State} {m : MethodId} {meth : Method} {c : Code} (h1 : s.methodNamed? y = some m) (h2 : s.vm.method? m = some meth) (h3 : meth.code = some c) (h4 : c.code = bytes)
    (h5 : (c.maxLocals == mx && c.exceptionTable.isEmpty && decide (c.maxStack ≤ mostOperands) && decide (meth.sig.returnType = rt) && !meth.locks && decide (parseMethodDescriptor y.desc = some meth.sig)) = true) : (Jvm.Cond.code y bytes mx rt).before a s = true := by
  simp only [Bool.and_eq_true, beq_iff_eq, Bool.not_eq_true', decide_eq_true_eq] at h5
  obtain ⟨⟨⟨⟨⟨g1, g2⟩, g3⟩, g4⟩, g5⟩, g6⟩ := h5
  simp [Cond.before, Cond.holds, Cond.value, h1, h2, h3, h4, g1, g2, g3, g4, g5, g6]
def isCode : Jvm.Cond → Bool
  | .code _ _ _ _ => true
  | _ => false
theorem all_split {L : List Jvm.Cond} {P : Jvm.Cond → Bool} (h1 : L.all (fun c => isCode c || P c) = true) (h2 : ∀ c ∈ L.filter isCode, P c = true) : L.all P = true := by
  refine List.all_eq_true.mpr fun c hc => ?_
  have h := List.all_eq_true.mp h1 c hc
  rcases Bool.eq_false_or_eq_true (isCode c) with hi | hi
  · exact h2 c (List.mem_filter.mpr ⟨hc, hi⟩)
  · simpa [hi] using h
set_option maxRecDepth 65536 in
theorem w_c0 : (Jvm.Cond.code x code maxLocals ret).before args0 about1 = true := code_word (m := ⟨1, 1⟩) (meth := k1m1) (c := k1c1) (by decide +kernel) rfl rfl rfl (by decide +kernel)
set_option maxRecDepth 65536 in
theorem w_c1 : (Jvm.Cond.code ({ cls := "com/example/reroster/reroster/model/OneLine", name := "isBreak", desc := "(C)Z" } : Jvm.MethodName) prog_33_method_2_code (1 : Nat) (Option.some Jvm.ClassFile.FieldType.boolean)).before args0 about1 = true := code_word (m := ⟨2, 1⟩) (meth := k2m1) (c := k2c1) (by decide +kernel) rfl rfl rfl (by decide +kernel)
set_option maxRecDepth 65536 in
theorem w_c2 : (Jvm.Cond.code ({ cls := "java/lang/Character", name := "isISOControl", desc := "(C)Z" } : Jvm.MethodName) jdk_89_method_88_code (1 : Nat) (Option.some Jvm.ClassFile.FieldType.boolean)).before args0 about1 = true := code_word (m := ⟨6, 0⟩) (meth := k6m0) (c := k6c0) (by decide +kernel) rfl rfl rfl (by decide +kernel)
set_option maxRecDepth 65536 in
theorem w_c3 : (Jvm.Cond.code ({ cls := "java/lang/Character", name := "isISOControl", desc := "(I)Z" } : Jvm.MethodName) jdk_89_method_89_code (1 : Nat) (Option.some Jvm.ClassFile.FieldType.boolean)).before args0 about1 = true := code_word (m := ⟨6, 1⟩) (meth := k6m1) (c := k6c1) (by decide +kernel) rfl rfl rfl (by decide +kernel)
def codes1 : List Jvm.Cond := [Jvm.Cond.code x code maxLocals ret, Jvm.Cond.code ({ cls := "com/example/reroster/reroster/model/OneLine", name := "isBreak", desc := "(C)Z" } : Jvm.MethodName) prog_33_method_2_code (1 : Nat) (Option.some Jvm.ClassFile.FieldType.boolean), Jvm.Cond.code ({ cls := "java/lang/Character", name := "isISOControl", desc := "(C)Z" } : Jvm.MethodName) jdk_89_method_88_code (1 : Nat) (Option.some Jvm.ClassFile.FieldType.boolean), Jvm.Cond.code ({ cls := "java/lang/Character", name := "isISOControl", desc := "(I)Z" } : Jvm.MethodName) jdk_89_method_89_code (1 : Nat) (Option.some Jvm.ClassFile.FieldType.boolean)]
set_option maxRecDepth 65536 in
theorem codes_eq : words1.filter isCode = codes1 := rfl
theorem w_codes : ∀ c ∈ words1.filter isCode, c.before args0 about1 = true := by
  rw [codes_eq]
  intro c hc
  simp only [codes1, List.mem_cons, List.not_mem_nil, or_false] at hc
  rcases hc with rfl | rfl | rfl | rfl
  · exact w_c0
  · exact w_c1
  · exact w_c2
  · exact w_c3
set_option maxRecDepth 65536 in
theorem w_t1 : words1.all (fun c => isCode c || c.before args0 about1) = true := by decide +kernel
theorem w_tables : (allAtoms (Jvm.Cond.code x code maxLocals ret :: tables_1)).before args0 about1 = true := by
  rw [allAtoms_all]
  show words1.all (fun c => c.before args0 about1) = true
  refine all_split ?_ w_codes
  rw [w_t1]
set_option maxRecDepth 65536 in
theorem w_case : (Jvm.Cond.and given_1 narrow_1).before args0 about1 = true := by decide +kernel
theorem w_applies : (headSpec (Jvm.Cond.code x code maxLocals ret :: tables_1) room_1).applies x e0.platform about1 = true :=
  (Spec.applies_iff w_frames).mpr ⟨w_running, w_runnable, w_alone, w_named, w_hears, w_ripe, w_room, w_tables⟩
theorem atStart : AtStart classFile x code maxLocals ret World_1 tables_1 room_1 Calls_1 rest_1 Pre_1 launch0 p0 e0 about1 theMethod args0 below0 :=
  ⟨lists_1, trivial, launch0.admits_env _ _ _, launch0.least_env, fairChoices_fair.cas, fairChoices_fair.clock, w_frames, w_args, w_heap, w_applies, trivial, trivial, w_case⟩
end start1
theorem witness_1 : WitnessClaimed_1 := ⟨start1.p0, start1.e0, start1.about1, start1.theMethod, start1.args0, start1.below0, start1.atStart⟩
end Jvm.Pilot.@@N@@
