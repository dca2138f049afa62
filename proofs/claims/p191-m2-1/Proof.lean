import JvmDerived
import JvmDerived.Pilot.@@N@@Statement
import JvmDerived.Pilot.@@N@@Code
set_option linter.unusedVariables false
set_option linter.unusedSimpArgs false
namespace Jvm.RoadKit
open Sem ClassFile Op Lib Jvm.Stand Jvm.Free Jvm.LawKit
section New
variable {p : Program} {l : Launch} {e : Env} {R : Room} {s : State} {m : MethodId} {args : Array Value} {below : List Frame} {meth : Method} {c : Code} {T : State} {locs : List Loc} {cells slots : Nat}
theorem retI (X : Stand p l e R s m args below meth c T locs cells slots) (hx : p.tables.exec = Jvm.exec) {pc : Nat} {Ls : Array Slot} {z : Int32} {rest : List Value} (hret : meth.sig.returnType = some .int) (hd : decode c.code pc = .ok (.ireturn, 1)) {fs : List Frame}
    (hl : ∀ (f : JFrame) (acts : List Action), f.method = m → f.locked = none → f.entered = [] → (doReturn e (T.setTop f) acts (some (.int z))).1 = T.setFrames fs) : Steps p.tables e below (T.setTop (mkF m pc Ls (.int z :: rest))) (T.setFrames fs) := by
  have hm' : T.vm.method? m = some meth := X.method'
  have hn : narrow .int (.int z) = .int z := rfl
  show Steps p.tables e below (T.setTop { method := m, pc := pc, locals := Ls, stack := _ :: rest, locked := none }) _
  jvm_step X.here [X.here.top, hx, hd, hm', hret, hn]
  first | (intro acts; rw [hl _ acts rfl rfl rfl]) | rw [hl _ _ rfl rfl rfl]
  exact Steps.refl _
end New
end Jvm.RoadKit
namespace Jvm.Pilot.@@N@@
open Jvm Jvm.ClassFile Sem Op Lib Jvm.Free Jvm.Stand Jvm.LawKit Jvm.RoadKit Bundle Jvm.Pilot.@@N@@.Jvm.D
theorem pd0 : parseMethodDescriptor "(JI)J" = some ⟨[.long, .int], some .long⟩ := by decide +kernel
theorem d1_0 : decode prog_5_method_3_code 0 = .ok (.lload_n 0, 1) := by decide +kernel
theorem d1_1 : decode prog_5_method_3_code 1 = .ok (.iload_n 2, 1) := by decide +kernel
theorem d1_2 : decode prog_5_method_3_code 2 = .ok (.lushr, 1) := by decide +kernel
theorem d1_3 : decode prog_5_method_3_code 3 = .ok (.lstore_n 3, 1) := by decide +kernel
theorem d1_4 : decode prog_5_method_3_code 4 = .ok (.lload_n 0, 1) := by decide +kernel
theorem d1_5 : decode prog_5_method_3_code 5 = .ok (.lconst 1, 1) := by decide +kernel
theorem d1_6 : decode prog_5_method_3_code 6 = .ok (.iload_n 2, 1) := by decide +kernel
theorem d1_7 : decode prog_5_method_3_code 7 = .ok (.lshl, 1) := by decide +kernel
theorem d1_8 : decode prog_5_method_3_code 8 = .ok (.lconst 1, 1) := by decide +kernel
theorem d1_9 : decode prog_5_method_3_code 9 = .ok (.lsub, 1) := by decide +kernel
theorem d1_10 : decode prog_5_method_3_code 10 = .ok (.land, 1) := by decide +kernel
theorem d1_11 : decode prog_5_method_3_code 11 = .ok (.lconst 0, 1) := by decide +kernel
theorem d1_12 : decode prog_5_method_3_code 12 = .ok (.lcmp, 1) := by decide +kernel
theorem d1_13 : decode prog_5_method_3_code 13 = .ok (.ifCond .ne 7, 3) := by decide +kernel
theorem d1_16 : decode prog_5_method_3_code 16 = .ok (.lload_n 3, 1) := by decide +kernel
theorem d1_17 : decode prog_5_method_3_code 17 = .ok (.goto 6, 3) := by decide +kernel
theorem d1_20 : decode prog_5_method_3_code 20 = .ok (.lload_n 3, 1) := by decide +kernel
theorem d1_21 : decode prog_5_method_3_code 21 = .ok (.lconst 1, 1) := by decide +kernel
theorem d1_22 : decode prog_5_method_3_code 22 = .ok (.ladd, 1) := by decide +kernel
theorem d1_23 : decode prog_5_method_3_code 23 = .ok (.lreturn, 1) := by decide +kernel
def F1_20 (v3 : Int64) : Int64 := (v3 + (1 : Int64))
theorem b1_20 {p : Program} {l : Launch} {e : Env} {R : Room} {s : State} {m : MethodId} {args : Array Value} {below : List Frame} {meth : Method} {c : Code} {T : State} {locs : List Loc} {cells slots : Nat} {Z : State} {a0 : Array Value} (X : Stand p l e R s m args below meth c T locs cells slots) (hx : p.tables.exec = Jvm.exec) (hZ : Z.Warmed39 s.vm) (hw : ∀ d ∈ tables_1, d.before a0 Z = true) (hby : c.code = prog_5_method_3_code) (hown : s.vm.findClass "com/example/packwise/packwise/BlockSize" = some m.cls) (v0 : Int64) (v2 : Int32) (v3 : Int64) (hret : meth.sig.returnType = some .long) {fs : List Frame} (hr : ∀ (f : JFrame) (acts : List Action), f.method = m → f.locked = none → f.entered = [] → (doReturn e (T.setTop f) acts (some (.long (F1_20 v3)))).1 = T.setFrames fs) : Steps p.tables e below (T.setTop (mkF m 20 #[.val (.long v0), .second, .val (.int v2), .val (.long v3), .second] [])) (T.setFrames fs) := by
  show Steps p.tables e below (T.setTop (mkF m 20 #[.val (.long v0), .second, .val (.int v2), .val (.long v3), .second] [])) _
  refine XS.lloadN X.here hx rfl (hb hby d1_20) rfl ?_
  show Steps p.tables e below (T.setTop (mkF m 21 #[.val (.long v0), .second, .val (.int v2), .val (.long v3), .second] [(.long v3)])) _
  refine XS.lconst X.here hx rfl (hb hby d1_21) ?_
  show Steps p.tables e below (T.setTop (mkF m 22 #[.val (.long v0), .second, .val (.int v2), .val (.long v3), .second] [(.long (1 : Int64)), (.long v3)])) _
  refine XS.ladd X.here hx rfl (hb hby d1_22) rfl ?_
  show Steps p.tables e below (T.setTop (mkF m 23 #[.val (.long v0), .second, .val (.int v2), .val (.long v3), .second] [(.long (v3 + (1 : Int64)))])) _
  rw [show (F1_20 v3) = (v3 + (1 : Int64)) from rfl] at hr
  exact X.lreturnOut hx hret (hb hby d1_23) hr
def F1_16 (v3 : Int64) : Int64 := v3
theorem b1_16 {p : Program} {l : Launch} {e : Env} {R : Room} {s : State} {m : MethodId} {args : Array Value} {below : List Frame} {meth : Method} {c : Code} {T : State} {locs : List Loc} {cells slots : Nat} {Z : State} {a0 : Array Value} (X : Stand p l e R s m args below meth c T locs cells slots) (hx : p.tables.exec = Jvm.exec) (hZ : Z.Warmed39 s.vm) (hw : ∀ d ∈ tables_1, d.before a0 Z = true) (hby : c.code = prog_5_method_3_code) (hown : s.vm.findClass "com/example/packwise/packwise/BlockSize" = some m.cls) (v0 : Int64) (v2 : Int32) (v3 : Int64) (hret : meth.sig.returnType = some .long) {fs : List Frame} (hr : ∀ (f : JFrame) (acts : List Action), f.method = m → f.locked = none → f.entered = [] → (doReturn e (T.setTop f) acts (some (.long (F1_16 v3)))).1 = T.setFrames fs) : Steps p.tables e below (T.setTop (mkF m 16 #[.val (.long v0), .second, .val (.int v2), .val (.long v3), .second] [])) (T.setFrames fs) := by
  show Steps p.tables e below (T.setTop (mkF m 16 #[.val (.long v0), .second, .val (.int v2), .val (.long v3), .second] [])) _
  refine XS.lloadN X.here hx rfl (hb hby d1_16) rfl ?_
  show Steps p.tables e below (T.setTop (mkF m 17 #[.val (.long v0), .second, .val (.int v2), .val (.long v3), .second] [(.long v3)])) _
  refine XS.goto X.here hx rfl (pc0 := 17) (pc' := 23) rfl (hb hby d1_17) (by decide) (by decide) ?_
  show Steps p.tables e below (T.setTop (mkF m 23 #[.val (.long v0), .second, .val (.int v2), .val (.long v3), .second] [(.long v3)])) _
  rw [show (F1_16 v3) = v3 from rfl] at hr
  exact X.lreturnOut hx hret (hb hby d1_23) hr
def F1_0 (v0 : Int64) (v2 : Int32) : Int64 := if (v0 &&& (((1 : Int64) <<< (v2 &&& 0x3f).toInt64) - (1 : Int64))) = (0 : Int64) then (F1_16 ((v0.toUInt64 >>> (v2 &&& 0x3f).toInt64.toUInt64).toInt64)) else (F1_20 ((v0.toUInt64 >>> (v2 &&& 0x3f).toInt64.toUInt64).toInt64))
theorem b1_0 {p : Program} {l : Launch} {e : Env} {R : Room} {s : State} {m : MethodId} {args : Array Value} {below : List Frame} {meth : Method} {c : Code} {T : State} {locs : List Loc} {cells slots : Nat} {Z : State} {a0 : Array Value} (X : Stand p l e R s m args below meth c T locs cells slots) (hx : p.tables.exec = Jvm.exec) (hZ : Z.Warmed39 s.vm) (hw : ∀ d ∈ tables_1, d.before a0 Z = true) (hby : c.code = prog_5_method_3_code) (hown : s.vm.findClass "com/example/packwise/packwise/BlockSize" = some m.cls) (v0 : Int64) (v2 : Int32) (hret : meth.sig.returnType = some .long) {fs : List Frame} (hr : ∀ (f : JFrame) (acts : List Action), f.method = m → f.locked = none → f.entered = [] → (doReturn e (T.setTop f) acts (some (.long (F1_0 v0 v2)))).1 = T.setFrames fs) : Steps p.tables e below (T.setTop (mkF m 0 #[.val (.long v0), .second, .val (.int v2), .unset, .unset] [])) (T.setFrames fs) := by
  show Steps p.tables e below (T.setTop (mkF m 0 #[.val (.long v0), .second, .val (.int v2), .unset, .unset] [])) _
  refine XS.lloadN X.here hx rfl (hb hby d1_0) rfl ?_
  show Steps p.tables e below (T.setTop (mkF m 1 #[.val (.long v0), .second, .val (.int v2), .unset, .unset] [(.long v0)])) _
  refine XS.iloadN X.here hx rfl (hb hby d1_1) rfl ?_
  show Steps p.tables e below (T.setTop (mkF m 2 #[.val (.long v0), .second, .val (.int v2), .unset, .unset] [(.int v2), (.long v0)])) _
  refine XS.lushr X.here hx rfl (hb hby d1_2) rfl ?_
  show Steps p.tables e below (T.setTop (mkF m 3 #[.val (.long v0), .second, .val (.int v2), .unset, .unset] [(.long ((v0.toUInt64 >>> (v2 &&& 0x3f).toInt64.toUInt64).toInt64))])) _
  refine XS.lstoreN X.here hx rfl (hb hby d1_3) rfl (l' := #[.val (.long v0), .second, .val (.int v2), .val (.long ((v0.toUInt64 >>> (v2 &&& 0x3f).toInt64.toUInt64).toInt64)), .second]) rfl ?_
  show Steps p.tables e below (T.setTop (mkF m 4 #[.val (.long v0), .second, .val (.int v2), .val (.long ((v0.toUInt64 >>> (v2 &&& 0x3f).toInt64.toUInt64).toInt64)), .second] [])) _
  refine XS.lloadN X.here hx rfl (hb hby d1_4) rfl ?_
  show Steps p.tables e below (T.setTop (mkF m 5 #[.val (.long v0), .second, .val (.int v2), .val (.long ((v0.toUInt64 >>> (v2 &&& 0x3f).toInt64.toUInt64).toInt64)), .second] [(.long v0)])) _
  refine XS.lconst X.here hx rfl (hb hby d1_5) ?_
  show Steps p.tables e below (T.setTop (mkF m 6 #[.val (.long v0), .second, .val (.int v2), .val (.long ((v0.toUInt64 >>> (v2 &&& 0x3f).toInt64.toUInt64).toInt64)), .second] [(.long (1 : Int64)), (.long v0)])) _
  refine XS.iloadN X.here hx rfl (hb hby d1_6) rfl ?_
  show Steps p.tables e below (T.setTop (mkF m 7 #[.val (.long v0), .second, .val (.int v2), .val (.long ((v0.toUInt64 >>> (v2 &&& 0x3f).toInt64.toUInt64).toInt64)), .second] [(.int v2), (.long (1 : Int64)), (.long v0)])) _
  refine XS.lshl X.here hx rfl (hb hby d1_7) rfl ?_
  show Steps p.tables e below (T.setTop (mkF m 8 #[.val (.long v0), .second, .val (.int v2), .val (.long ((v0.toUInt64 >>> (v2 &&& 0x3f).toInt64.toUInt64).toInt64)), .second] [(.long ((1 : Int64) <<< (v2 &&& 0x3f).toInt64)), (.long v0)])) _
  refine XS.lconst X.here hx rfl (hb hby d1_8) ?_
  show Steps p.tables e below (T.setTop (mkF m 9 #[.val (.long v0), .second, .val (.int v2), .val (.long ((v0.toUInt64 >>> (v2 &&& 0x3f).toInt64.toUInt64).toInt64)), .second] [(.long (1 : Int64)), (.long ((1 : Int64) <<< (v2 &&& 0x3f).toInt64)), (.long v0)])) _
  refine XS.lsub X.here hx rfl (hb hby d1_9) rfl ?_
  show Steps p.tables e below (T.setTop (mkF m 10 #[.val (.long v0), .second, .val (.int v2), .val (.long ((v0.toUInt64 >>> (v2 &&& 0x3f).toInt64.toUInt64).toInt64)), .second] [(.long (((1 : Int64) <<< (v2 &&& 0x3f).toInt64) - (1 : Int64))), (.long v0)])) _
  refine XS.land X.here hx rfl (hb hby d1_10) rfl ?_
  show Steps p.tables e below (T.setTop (mkF m 11 #[.val (.long v0), .second, .val (.int v2), .val (.long ((v0.toUInt64 >>> (v2 &&& 0x3f).toInt64.toUInt64).toInt64)), .second] [(.long (v0 &&& (((1 : Int64) <<< (v2 &&& 0x3f).toInt64) - (1 : Int64))))])) _
  refine XS.lconst X.here hx rfl (hb hby d1_11) ?_
  show Steps p.tables e below (T.setTop (mkF m 12 #[.val (.long v0), .second, .val (.int v2), .val (.long ((v0.toUInt64 >>> (v2 &&& 0x3f).toInt64.toUInt64).toInt64)), .second] [(.long (0 : Int64)), (.long (v0 &&& (((1 : Int64) <<< (v2 &&& 0x3f).toInt64) - (1 : Int64))))])) _
  refine XS.lcmp X.here hx rfl (hb hby d1_12) rfl ?_
  show Steps p.tables e below (T.setTop (mkF m 13 #[.val (.long v0), .second, .val (.int v2), .val (.long ((v0.toUInt64 >>> (v2 &&& 0x3f).toInt64.toUInt64).toInt64)), .second] [(.int (lcmpW (v0 &&& (((1 : Int64) <<< (v2 &&& 0x3f).toInt64) - (1 : Int64))) (0 : Int64)))])) _
  by_cases hc : (v0 &&& (((1 : Int64) <<< (v2 &&& 0x3f).toInt64) - (1 : Int64))) = (0 : Int64)
  · rw [show (F1_0 v0 v2) = (F1_16 ((v0.toUInt64 >>> (v2 &&& 0x3f).toInt64.toUInt64).toInt64)) from if_pos hc] at hr
    refine XS.ifNo X.here hx rfl (hb hby d1_13) rfl ((if0 _ _).trans (teq ((lw_eq _ _).mpr hc)).2) ?_
    exact b1_16 X hx hZ hw hby hown v0 v2 ((v0.toUInt64 >>> (v2 &&& 0x3f).toInt64.toUInt64).toInt64) hret hr
  · rw [show (F1_0 v0 v2) = (F1_20 ((v0.toUInt64 >>> (v2 &&& 0x3f).toInt64.toUInt64).toInt64)) from if_neg hc] at hr
    refine XS.ifYes X.here hx rfl (pc0 := 13) (pc' := 20) rfl (hb hby d1_13) rfl ((if0 _ _).trans (feq (fun q => hc ((lw_eq _ _).mp q))).2) (by decide) (by decide) ?_
    exact b1_20 X hx hZ hw hby hown v0 v2 ((v0.toUInt64 >>> (v2 &&& 0x3f).toInt64.toUInt64).toInt64) hret hr
theorem pn_1 : plainName "com/example/packwise/packwise/BlockSize" = true := by first | (simp [plainName, overriddenIn]; done) | decide +kernel
theorem ef_1 (m : MethodId) (q0 : Int64) (p1 : Int32) : entryFrame m #[(.long q0), (.int p1)] 5 = mkF m 0 #[.val (.long q0), .second, .val (.int p1), .unset, .unset] [] := by first | (simp [entryFrame, mkF, argsToLocals, Value.category]; done) | rfl
def Q_rm1 (Z : State) (q0 : Int64) (p1 : Int32) (h0 : Heap) (n0 : Nat) (v : Option Value) (h : Heap) (L : List Loc) : Prop := (v = some (.long (F1_0 q0 p1)) ∧ Fr n0 L ∧ h = h0)
set_option maxRecDepth 65536 in
set_option maxHeartbeats 40000000 in
theorem rm1 (l : Launch) (Z : State) (a0 : Array Value) (hw : ∀ d ∈ tables_1, d.before a0 Z = true) (ws : List Jvm.Cond) (q0 : Int64) (p1 : Int32) (h0 : Heap) (n0 : Nat) (Z0 : n0 ≤ h0.size) :
    MetFree l (⟨"com/example/packwise/packwise/BlockSize", "blockCount", "(JI)J"⟩ : MethodName) (head1 (Jvm.Cond.code (⟨"com/example/packwise/packwise/BlockSize", "blockCount", "(JI)J"⟩ : MethodName) prog_5_method_3_code 5 (some .long) :: ws) ({ frames := 0, cells := 0, slots := 0, locals := 0 } : Room)) (fun a U => a = #[(.long q0), (.int p1)] ∧ Z.Warmed39 U.vm ∧ U.heap = h0) (fun _ _ _ _ _ => True) (fun _ U o U' => ∃ v L, o = .returned v ∧ Q_rm1 Z q0 p1 h0 n0 v U'.heap L ∧ FrameEnd U o U' L ({ frames := 0, cells := 0, slots := 0, locals := 0 } : Room).cells ({ frames := 0, cells := 0, slots := 0, locals := 0 } : Room).slots) := by
  refine MetFree.of_bodySF (plainFor_of_name pn_1) hisR ?_
  intro p e s m args below meth c s₁ Bd hml0 hP hK
  obtain ⟨rfl, hZ, hh⟩ := hP
  have hx := Bd.exec
  have hby := Bd.bytes
  have hml : c.maxLocals = 5 := hml0
  have hown : s.vm.findClass "com/example/packwise/packwise/BlockSize" = some m.cls := findClass_of_methodNamed Bd.named
  have hnm := (name_of_methodNamed Bd.named Bd.method).1
  have X0 : Stand p l e ({ frames := 0, cells := 0, slots := 0, locals := 0 } : Room) s m #[(.long q0), (.int p1)] below meth c s₁ [] 0 0 := Stand.of_body Bd
  have e0 : s₁.heap = h0 := by rw [← hh, Bd.state]; rfl
  have N0 := Fr.nil n0
  have pre0 : ∀ t, Steps p.tables e below (s₁.setTop (mkF m 0 #[.val (.long q0), .second, .val (.int p1), .unset, .unset] [])) t → Steps p.tables e below (s₁.setTop (entryFrame m #[(.long q0), (.int p1)] 5)) t := fun t k => castTop (ef_1 m q0 p1) k
  obtain ⟨fs, hr, hrun, hended, hW, hsame⟩ := X0.leave (v := some (.long (F1_0 q0 p1))) (fun h => by rw [Bd.returns] at h; cases h)
  refine ⟨_, _, pre0 _ ?_, hrun, hended, _, _, rfl, ⟨rfl, N0, e0⟩, ⟨_, rfl⟩, hW, hsame.mono (by decide) (by decide)⟩
  exact b1_0 X0 hx hZ hw hby hown q0 p1 Bd.returns hr
def shf (p1 : Int32) : Int32 := ((p1 &&& (2147483647 : Int32)) - ((p1 &&& (2147483647 : Int32)) / (63 : Int32)) * (63 : Int32))
def blk (p1 : Int32) : Int64 := ((1 : Int64) <<< ((shf p1) &&& 0x3f).toInt64)
def raw (q0 : Int64) : Int64 := (q0 &&& (9223372036854775807 : Int64))
def F0s_79 : Int64 := (0 : Int64)
theorem b0s_79 {p : Program} {l : Launch} {e : Env} {R : Room} {s : State} {m : MethodId} {args : Array Value} {below : List Frame} {meth : Method} {c : Code} {T : State} {locs : List Loc} {cells slots : Nat} {Z : State} {a0 : Array Value} (X : Stand p l e R s m args below meth c T locs cells slots) (hx : p.tables.exec = Jvm.exec) (hZ : Z.Warmed39 s.vm) (hw : ∀ d ∈ tables_1, d.before a0 Z = true) (hby : c.code = code) (hown : s.vm.findClass "com/example/packwise/packwise/BlockSizeBlockCountPinLaw" = some m.cls) (v0 : Int64) (v2 : Int32) (v3 : Int32) (v4 : Int32) (v5 : Int64) (v7 : Int64) (v9 : Int64) (v11 : Int32) (target : State) (kt : Steps p.tables e below (T.setTop (mkF m 82 #[.val (.long v0), .second, .val (.int v2), .val (.int v3), .val (.int v4), .val (.long v5), .second, .val (.long v7), .second, .val (.long v9), .second, .val (.int v11), .val (.long F0s_79), .second, .unset, .unset, .unset, .unset, .unset, .unset] [])) target) : Steps p.tables e below (T.setTop (mkF m 79 #[.val (.long v0), .second, .val (.int v2), .val (.int v3), .val (.int v4), .val (.long v5), .second, .val (.long v7), .second, .val (.long v9), .second, .val (.int v11), .unset, .unset, .unset, .unset, .unset, .unset, .unset, .unset] [])) target := by
  show Steps p.tables e below (T.setTop (mkF m 79 #[.val (.long v0), .second, .val (.int v2), .val (.int v3), .val (.int v4), .val (.long v5), .second, .val (.long v7), .second, .val (.long v9), .second, .val (.int v11), .unset, .unset, .unset, .unset, .unset, .unset, .unset, .unset] [])) _
  refine XS.lconst X.here hx rfl (hb hby at_79) ?_
  show Steps p.tables e below (T.setTop (mkF m 80 #[.val (.long v0), .second, .val (.int v2), .val (.int v3), .val (.int v4), .val (.long v5), .second, .val (.long v7), .second, .val (.long v9), .second, .val (.int v11), .unset, .unset, .unset, .unset, .unset, .unset, .unset, .unset] [(.long (0 : Int64))])) _
  refine XS.lstore X.here hx rfl (hb hby at_80) rfl (l' := #[.val (.long v0), .second, .val (.int v2), .val (.int v3), .val (.int v4), .val (.long v5), .second, .val (.long v7), .second, .val (.long v9), .second, .val (.int v11), .val (.long (0 : Int64)), .second, .unset, .unset, .unset, .unset, .unset, .unset]) rfl ?_
  rw [show F0s_79 = (0 : Int64) from rfl] at kt
  exact kt
def F0s_72 (v9 : Int64) : Int64 := (v9 - (1 : Int64))
theorem b0s_72 {p : Program} {l : Launch} {e : Env} {R : Room} {s : State} {m : MethodId} {args : Array Value} {below : List Frame} {meth : Method} {c : Code} {T : State} {locs : List Loc} {cells slots : Nat} {Z : State} {a0 : Array Value} (X : Stand p l e R s m args below meth c T locs cells slots) (hx : p.tables.exec = Jvm.exec) (hZ : Z.Warmed39 s.vm) (hw : ∀ d ∈ tables_1, d.before a0 Z = true) (hby : c.code = code) (hown : s.vm.findClass "com/example/packwise/packwise/BlockSizeBlockCountPinLaw" = some m.cls) (v0 : Int64) (v2 : Int32) (v3 : Int32) (v4 : Int32) (v5 : Int64) (v7 : Int64) (v9 : Int64) (v11 : Int32) (target : State) (kt : Steps p.tables e below (T.setTop (mkF m 82 #[.val (.long v0), .second, .val (.int v2), .val (.int v3), .val (.int v4), .val (.long v5), .second, .val (.long v7), .second, .val (.long v9), .second, .val (.int v11), .val (.long (F0s_72 v9)), .second, .unset, .unset, .unset, .unset, .unset, .unset] [])) target) : Steps p.tables e below (T.setTop (mkF m 72 #[.val (.long v0), .second, .val (.int v2), .val (.int v3), .val (.int v4), .val (.long v5), .second, .val (.long v7), .second, .val (.long v9), .second, .val (.int v11), .unset, .unset, .unset, .unset, .unset, .unset, .unset, .unset] [])) target := by
  show Steps p.tables e below (T.setTop (mkF m 72 #[.val (.long v0), .second, .val (.int v2), .val (.int v3), .val (.int v4), .val (.long v5), .second, .val (.long v7), .second, .val (.long v9), .second, .val (.int v11), .unset, .unset, .unset, .unset, .unset, .unset, .unset, .unset] [])) _
  refine XS.lload X.here hx rfl (hb hby at_72) rfl ?_
  show Steps p.tables e below (T.setTop (mkF m 74 #[.val (.long v0), .second, .val (.int v2), .val (.int v3), .val (.int v4), .val (.long v5), .second, .val (.long v7), .second, .val (.long v9), .second, .val (.int v11), .unset, .unset, .unset, .unset, .unset, .unset, .unset, .unset] [(.long v9)])) _
  refine XS.lconst X.here hx rfl (hb hby at_74) ?_
  show Steps p.tables e below (T.setTop (mkF m 75 #[.val (.long v0), .second, .val (.int v2), .val (.int v3), .val (.int v4), .val (.long v5), .second, .val (.long v7), .second, .val (.long v9), .second, .val (.int v11), .unset, .unset, .unset, .unset, .unset, .unset, .unset, .unset] [(.long (1 : Int64)), (.long v9)])) _
  refine XS.lsub X.here hx rfl (hb hby at_75) rfl ?_
  show Steps p.tables e below (T.setTop (mkF m 76 #[.val (.long v0), .second, .val (.int v2), .val (.int v3), .val (.int v4), .val (.long v5), .second, .val (.long v7), .second, .val (.long v9), .second, .val (.int v11), .unset, .unset, .unset, .unset, .unset, .unset, .unset, .unset] [(.long (v9 - (1 : Int64)))])) _
  refine XS.goto X.here hx rfl (pc0 := 76) (pc' := 80) rfl (hb hby at_76) (by decide) (by decide) ?_
  show Steps p.tables e below (T.setTop (mkF m 80 #[.val (.long v0), .second, .val (.int v2), .val (.int v3), .val (.int v4), .val (.long v5), .second, .val (.long v7), .second, .val (.long v9), .second, .val (.int v11), .unset, .unset, .unset, .unset, .unset, .unset, .unset, .unset] [(.long (v9 - (1 : Int64)))])) _
  refine XS.lstore X.here hx rfl (hb hby at_80) rfl (l' := #[.val (.long v0), .second, .val (.int v2), .val (.int v3), .val (.int v4), .val (.long v5), .second, .val (.long v7), .second, .val (.long v9), .second, .val (.int v11), .val (.long (v9 - (1 : Int64))), .second, .unset, .unset, .unset, .unset, .unset, .unset]) rfl ?_
  rw [show (F0s_72 v9) = (v9 - (1 : Int64)) from rfl] at kt
  exact kt
def F0s_65 (v9 : Int64) : Int64 := if (0 : Int64) < v9 then (F0s_72 v9) else F0s_79
theorem b0s_65 {p : Program} {l : Launch} {e : Env} {R : Room} {s : State} {m : MethodId} {args : Array Value} {below : List Frame} {meth : Method} {c : Code} {T : State} {locs : List Loc} {cells slots : Nat} {Z : State} {a0 : Array Value} (X : Stand p l e R s m args below meth c T locs cells slots) (hx : p.tables.exec = Jvm.exec) (hZ : Z.Warmed39 s.vm) (hw : ∀ d ∈ tables_1, d.before a0 Z = true) (hby : c.code = code) (hown : s.vm.findClass "com/example/packwise/packwise/BlockSizeBlockCountPinLaw" = some m.cls) (v0 : Int64) (v2 : Int32) (v3 : Int32) (v4 : Int32) (v5 : Int64) (v7 : Int64) (v9 : Int64) (v11 : Int32) (target : State) (kt : Steps p.tables e below (T.setTop (mkF m 82 #[.val (.long v0), .second, .val (.int v2), .val (.int v3), .val (.int v4), .val (.long v5), .second, .val (.long v7), .second, .val (.long v9), .second, .val (.int v11), .val (.long (F0s_65 v9)), .second, .unset, .unset, .unset, .unset, .unset, .unset] [])) target) : Steps p.tables e below (T.setTop (mkF m 65 #[.val (.long v0), .second, .val (.int v2), .val (.int v3), .val (.int v4), .val (.long v5), .second, .val (.long v7), .second, .val (.long v9), .second, .val (.int v11), .unset, .unset, .unset, .unset, .unset, .unset, .unset, .unset] [])) target := by
  show Steps p.tables e below (T.setTop (mkF m 65 #[.val (.long v0), .second, .val (.int v2), .val (.int v3), .val (.int v4), .val (.long v5), .second, .val (.long v7), .second, .val (.long v9), .second, .val (.int v11), .unset, .unset, .unset, .unset, .unset, .unset, .unset, .unset] [])) _
  refine XS.lload X.here hx rfl (hb hby at_65) rfl ?_
  show Steps p.tables e below (T.setTop (mkF m 67 #[.val (.long v0), .second, .val (.int v2), .val (.int v3), .val (.int v4), .val (.long v5), .second, .val (.long v7), .second, .val (.long v9), .second, .val (.int v11), .unset, .unset, .unset, .unset, .unset, .unset, .unset, .unset] [(.long v9)])) _
  refine XS.lconst X.here hx rfl (hb hby at_67) ?_
  show Steps p.tables e below (T.setTop (mkF m 68 #[.val (.long v0), .second, .val (.int v2), .val (.int v3), .val (.int v4), .val (.long v5), .second, .val (.long v7), .second, .val (.long v9), .second, .val (.int v11), .unset, .unset, .unset, .unset, .unset, .unset, .unset, .unset] [(.long (0 : Int64)), (.long v9)])) _
  refine XS.lcmp X.here hx rfl (hb hby at_68) rfl ?_
  show Steps p.tables e below (T.setTop (mkF m 69 #[.val (.long v0), .second, .val (.int v2), .val (.int v3), .val (.int v4), .val (.long v5), .second, .val (.long v7), .second, .val (.long v9), .second, .val (.int v11), .unset, .unset, .unset, .unset, .unset, .unset, .unset, .unset] [(.int (lcmpW v9 (0 : Int64)))])) _
  by_cases hc : (0 : Int64) < v9
  · rw [show (F0s_65 v9) = (F0s_72 v9) from if_pos hc] at kt
    refine XS.ifNo X.here hx rfl (hb hby at_69) rfl ((if0 _ _).trans (tlt ((lw_gt _ _).mpr hc)).2.2.2) ?_
    exact b0s_72 X hx hZ hw hby hown v0 v2 v3 v4 v5 v7 v9 v11 target kt
  · rw [show (F0s_65 v9) = F0s_79 from if_neg hc] at kt
    refine XS.ifYes X.here hx rfl (pc0 := 69) (pc' := 79) rfl (hb hby at_69) rfl ((if0 _ _).trans (flt (fun q => hc ((lw_gt _ _).mp q))).2.2.2) (by decide) (by decide) ?_
    exact b0s_79 X hx hZ hw hby hown v0 v2 v3 v4 v5 v7 v9 v11 target kt
def F0s_58 (v9 : Int64) : Int64 := v9
theorem b0s_58 {p : Program} {l : Launch} {e : Env} {R : Room} {s : State} {m : MethodId} {args : Array Value} {below : List Frame} {meth : Method} {c : Code} {T : State} {locs : List Loc} {cells slots : Nat} {Z : State} {a0 : Array Value} (X : Stand p l e R s m args below meth c T locs cells slots) (hx : p.tables.exec = Jvm.exec) (hZ : Z.Warmed39 s.vm) (hw : ∀ d ∈ tables_1, d.before a0 Z = true) (hby : c.code = code) (hown : s.vm.findClass "com/example/packwise/packwise/BlockSizeBlockCountPinLaw" = some m.cls) (v0 : Int64) (v2 : Int32) (v3 : Int32) (v4 : Int32) (v5 : Int64) (v7 : Int64) (v9 : Int64) (v11 : Int32) (target : State) (kt : Steps p.tables e below (T.setTop (mkF m 82 #[.val (.long v0), .second, .val (.int v2), .val (.int v3), .val (.int v4), .val (.long v5), .second, .val (.long v7), .second, .val (.long v9), .second, .val (.int v11), .val (.long (F0s_58 v9)), .second, .unset, .unset, .unset, .unset, .unset, .unset] [])) target) : Steps p.tables e below (T.setTop (mkF m 58 #[.val (.long v0), .second, .val (.int v2), .val (.int v3), .val (.int v4), .val (.long v5), .second, .val (.long v7), .second, .val (.long v9), .second, .val (.int v11), .unset, .unset, .unset, .unset, .unset, .unset, .unset, .unset] [])) target := by
  show Steps p.tables e below (T.setTop (mkF m 58 #[.val (.long v0), .second, .val (.int v2), .val (.int v3), .val (.int v4), .val (.long v5), .second, .val (.long v7), .second, .val (.long v9), .second, .val (.int v11), .unset, .unset, .unset, .unset, .unset, .unset, .unset, .unset] [])) _
  refine XS.lload X.here hx rfl (hb hby at_58) rfl ?_
  show Steps p.tables e below (T.setTop (mkF m 60 #[.val (.long v0), .second, .val (.int v2), .val (.int v3), .val (.int v4), .val (.long v5), .second, .val (.long v7), .second, .val (.long v9), .second, .val (.int v11), .unset, .unset, .unset, .unset, .unset, .unset, .unset, .unset] [(.long v9)])) _
  refine XS.lstore X.here hx rfl (hb hby at_60) rfl (l' := #[.val (.long v0), .second, .val (.int v2), .val (.int v3), .val (.int v4), .val (.long v5), .second, .val (.long v7), .second, .val (.long v9), .second, .val (.int v11), .val (.long v9), .second, .unset, .unset, .unset, .unset, .unset, .unset]) rfl ?_
  show Steps p.tables e below (T.setTop (mkF m 62 #[.val (.long v0), .second, .val (.int v2), .val (.int v3), .val (.int v4), .val (.long v5), .second, .val (.long v7), .second, .val (.long v9), .second, .val (.int v11), .val (.long v9), .second, .unset, .unset, .unset, .unset, .unset, .unset] [])) _
  refine XS.goto X.here hx rfl (pc0 := 62) (pc' := 82) rfl (hb hby at_62) (by decide) (by decide) ?_
  rw [show (F0s_58 v9) = v9 from rfl] at kt
  exact kt
def F0s_52 (v9 : Int64) (v11 : Int32) : Int64 := if v11 = (1 : Int32) then (F0s_58 v9) else (F0s_65 v9)
theorem b0s_52 {p : Program} {l : Launch} {e : Env} {R : Room} {s : State} {m : MethodId} {args : Array Value} {below : List Frame} {meth : Method} {c : Code} {T : State} {locs : List Loc} {cells slots : Nat} {Z : State} {a0 : Array Value} (X : Stand p l e R s m args below meth c T locs cells slots) (hx : p.tables.exec = Jvm.exec) (hZ : Z.Warmed39 s.vm) (hw : ∀ d ∈ tables_1, d.before a0 Z = true) (hby : c.code = code) (hown : s.vm.findClass "com/example/packwise/packwise/BlockSizeBlockCountPinLaw" = some m.cls) (v0 : Int64) (v2 : Int32) (v3 : Int32) (v4 : Int32) (v5 : Int64) (v7 : Int64) (v9 : Int64) (v11 : Int32) (target : State) (kt : Steps p.tables e below (T.setTop (mkF m 82 #[.val (.long v0), .second, .val (.int v2), .val (.int v3), .val (.int v4), .val (.long v5), .second, .val (.long v7), .second, .val (.long v9), .second, .val (.int v11), .val (.long (F0s_52 v9 v11)), .second, .unset, .unset, .unset, .unset, .unset, .unset] [])) target) : Steps p.tables e below (T.setTop (mkF m 52 #[.val (.long v0), .second, .val (.int v2), .val (.int v3), .val (.int v4), .val (.long v5), .second, .val (.long v7), .second, .val (.long v9), .second, .val (.int v11), .unset, .unset, .unset, .unset, .unset, .unset, .unset, .unset] [])) target := by
  show Steps p.tables e below (T.setTop (mkF m 52 #[.val (.long v0), .second, .val (.int v2), .val (.int v3), .val (.int v4), .val (.long v5), .second, .val (.long v7), .second, .val (.long v9), .second, .val (.int v11), .unset, .unset, .unset, .unset, .unset, .unset, .unset, .unset] [])) _
  refine XS.iload X.here hx rfl (hb hby at_52) rfl ?_
  show Steps p.tables e below (T.setTop (mkF m 54 #[.val (.long v0), .second, .val (.int v2), .val (.int v3), .val (.int v4), .val (.long v5), .second, .val (.long v7), .second, .val (.long v9), .second, .val (.int v11), .unset, .unset, .unset, .unset, .unset, .unset, .unset, .unset] [(.int v11)])) _
  refine XS.iconst X.here hx rfl (hb hby at_54) ?_
  show Steps p.tables e below (T.setTop (mkF m 55 #[.val (.long v0), .second, .val (.int v2), .val (.int v3), .val (.int v4), .val (.long v5), .second, .val (.long v7), .second, .val (.long v9), .second, .val (.int v11), .unset, .unset, .unset, .unset, .unset, .unset, .unset, .unset] [(.int (1 : Int32)), (.int v11)])) _
  by_cases hc : v11 = (1 : Int32)
  · rw [show (F0s_52 v9 v11) = (F0s_58 v9) from if_pos hc] at kt
    refine XS.icmpNo X.here hx rfl (hb hby at_55) rfl (teq hc).2 ?_
    exact b0s_58 X hx hZ hw hby hown v0 v2 v3 v4 v5 v7 v9 v11 target kt
  · rw [show (F0s_52 v9 v11) = (F0s_65 v9) from if_neg hc] at kt
    refine XS.icmpYes X.here hx rfl (pc0 := 55) (pc' := 65) rfl (hb hby at_55) rfl (feq hc).2 (by decide) (by decide) ?_
    exact b0s_65 X hx hZ hw hby hown v0 v2 v3 v4 v5 v7 v9 v11 target kt
def F0s_45 (v7 : Int64) : Int64 := v7
theorem b0s_45 {p : Program} {l : Launch} {e : Env} {R : Room} {s : State} {m : MethodId} {args : Array Value} {below : List Frame} {meth : Method} {c : Code} {T : State} {locs : List Loc} {cells slots : Nat} {Z : State} {a0 : Array Value} (X : Stand p l e R s m args below meth c T locs cells slots) (hx : p.tables.exec = Jvm.exec) (hZ : Z.Warmed39 s.vm) (hw : ∀ d ∈ tables_1, d.before a0 Z = true) (hby : c.code = code) (hown : s.vm.findClass "com/example/packwise/packwise/BlockSizeBlockCountPinLaw" = some m.cls) (v0 : Int64) (v2 : Int32) (v3 : Int32) (v4 : Int32) (v5 : Int64) (v7 : Int64) (v9 : Int64) (v11 : Int32) (target : State) (kt : Steps p.tables e below (T.setTop (mkF m 82 #[.val (.long v0), .second, .val (.int v2), .val (.int v3), .val (.int v4), .val (.long v5), .second, .val (.long v7), .second, .val (.long v9), .second, .val (.int v11), .val (.long (F0s_45 v7)), .second, .unset, .unset, .unset, .unset, .unset, .unset] [])) target) : Steps p.tables e below (T.setTop (mkF m 45 #[.val (.long v0), .second, .val (.int v2), .val (.int v3), .val (.int v4), .val (.long v5), .second, .val (.long v7), .second, .val (.long v9), .second, .val (.int v11), .unset, .unset, .unset, .unset, .unset, .unset, .unset, .unset] [])) target := by
  show Steps p.tables e below (T.setTop (mkF m 45 #[.val (.long v0), .second, .val (.int v2), .val (.int v3), .val (.int v4), .val (.long v5), .second, .val (.long v7), .second, .val (.long v9), .second, .val (.int v11), .unset, .unset, .unset, .unset, .unset, .unset, .unset, .unset] [])) _
  refine XS.lload X.here hx rfl (hb hby at_45) rfl ?_
  show Steps p.tables e below (T.setTop (mkF m 47 #[.val (.long v0), .second, .val (.int v2), .val (.int v3), .val (.int v4), .val (.long v5), .second, .val (.long v7), .second, .val (.long v9), .second, .val (.int v11), .unset, .unset, .unset, .unset, .unset, .unset, .unset, .unset] [(.long v7)])) _
  refine XS.lstore X.here hx rfl (hb hby at_47) rfl (l' := #[.val (.long v0), .second, .val (.int v2), .val (.int v3), .val (.int v4), .val (.long v5), .second, .val (.long v7), .second, .val (.long v9), .second, .val (.int v11), .val (.long v7), .second, .unset, .unset, .unset, .unset, .unset, .unset]) rfl ?_
  show Steps p.tables e below (T.setTop (mkF m 49 #[.val (.long v0), .second, .val (.int v2), .val (.int v3), .val (.int v4), .val (.long v5), .second, .val (.long v7), .second, .val (.long v9), .second, .val (.int v11), .val (.long v7), .second, .unset, .unset, .unset, .unset, .unset, .unset] [])) _
  refine XS.goto X.here hx rfl (pc0 := 49) (pc' := 82) rfl (hb hby at_49) (by decide) (by decide) ?_
  rw [show (F0s_45 v7) = v7 from rfl] at kt
  exact kt
def F0s_40 (v7 : Int64) (v9 : Int64) (v11 : Int32) : Int64 := if v11 = (0 : Int32) then (F0s_45 v7) else (F0s_52 v9 v11)
theorem b0s_40 {p : Program} {l : Launch} {e : Env} {R : Room} {s : State} {m : MethodId} {args : Array Value} {below : List Frame} {meth : Method} {c : Code} {T : State} {locs : List Loc} {cells slots : Nat} {Z : State} {a0 : Array Value} (X : Stand p l e R s m args below meth c T locs cells slots) (hx : p.tables.exec = Jvm.exec) (hZ : Z.Warmed39 s.vm) (hw : ∀ d ∈ tables_1, d.before a0 Z = true) (hby : c.code = code) (hown : s.vm.findClass "com/example/packwise/packwise/BlockSizeBlockCountPinLaw" = some m.cls) (v0 : Int64) (v2 : Int32) (v3 : Int32) (v4 : Int32) (v5 : Int64) (v7 : Int64) (v9 : Int64) (v11 : Int32) (target : State) (kt : Steps p.tables e below (T.setTop (mkF m 82 #[.val (.long v0), .second, .val (.int v2), .val (.int v3), .val (.int v4), .val (.long v5), .second, .val (.long v7), .second, .val (.long v9), .second, .val (.int v11), .val (.long (F0s_40 v7 v9 v11)), .second, .unset, .unset, .unset, .unset, .unset, .unset] [])) target) : Steps p.tables e below (T.setTop (mkF m 40 #[.val (.long v0), .second, .val (.int v2), .val (.int v3), .val (.int v4), .val (.long v5), .second, .val (.long v7), .second, .val (.long v9), .second, .val (.int v11), .unset, .unset, .unset, .unset, .unset, .unset, .unset, .unset] [])) target := by
  show Steps p.tables e below (T.setTop (mkF m 40 #[.val (.long v0), .second, .val (.int v2), .val (.int v3), .val (.int v4), .val (.long v5), .second, .val (.long v7), .second, .val (.long v9), .second, .val (.int v11), .unset, .unset, .unset, .unset, .unset, .unset, .unset, .unset] [])) _
  refine XS.iload X.here hx rfl (hb hby at_40) rfl ?_
  show Steps p.tables e below (T.setTop (mkF m 42 #[.val (.long v0), .second, .val (.int v2), .val (.int v3), .val (.int v4), .val (.long v5), .second, .val (.long v7), .second, .val (.long v9), .second, .val (.int v11), .unset, .unset, .unset, .unset, .unset, .unset, .unset, .unset] [(.int v11)])) _
  by_cases hc : v11 = (0 : Int32)
  · rw [show (F0s_40 v7 v9 v11) = (F0s_45 v7) from if_pos hc] at kt
    refine XS.ifNo X.here hx rfl (hb hby at_42) rfl ((if0 _ _).trans (teq hc).2) ?_
    exact b0s_45 X hx hZ hw hby hown v0 v2 v3 v4 v5 v7 v9 v11 target kt
  · rw [show (F0s_40 v7 v9 v11) = (F0s_52 v9 v11) from if_neg hc] at kt
    refine XS.ifYes X.here hx rfl (pc0 := 42) (pc' := 52) rfl (hb hby at_42) rfl ((if0 _ _).trans (feq hc).2) (by decide) (by decide) ?_
    exact b0s_52 X hx hZ hw hby hown v0 v2 v3 v4 v5 v7 v9 v11 target kt
def F0s_110 (v14 : Int64) : Int64 := v14
theorem b0s_110 {p : Program} {l : Launch} {e : Env} {R : Room} {s : State} {m : MethodId} {args : Array Value} {below : List Frame} {meth : Method} {c : Code} {T : State} {locs : List Loc} {cells slots : Nat} {Z : State} {a0 : Array Value} (X : Stand p l e R s m args below meth c T locs cells slots) (hx : p.tables.exec = Jvm.exec) (hZ : Z.Warmed39 s.vm) (hw : ∀ d ∈ tables_1, d.before a0 Z = true) (hby : c.code = code) (hown : s.vm.findClass "com/example/packwise/packwise/BlockSizeBlockCountPinLaw" = some m.cls) (v0 : Int64) (v2 : Int32) (v3 : Int32) (v4 : Int32) (v5 : Int64) (v7 : Int64) (v9 : Int64) (v11 : Int32) (v12 : Int64) (v14 : Int64) (v16 : Int64) (target : State) (kt : Steps p.tables e below (T.setTop (mkF m 112 #[.val (.long v0), .second, .val (.int v2), .val (.int v3), .val (.int v4), .val (.long v5), .second, .val (.long v7), .second, .val (.long v9), .second, .val (.int v11), .val (.long v12), .second, .val (.long v14), .second, .val (.long v16), .second, .unset, .unset] [(.long (F0s_110 v14))])) target) : Steps p.tables e below (T.setTop (mkF m 110 #[.val (.long v0), .second, .val (.int v2), .val (.int v3), .val (.int v4), .val (.long v5), .second, .val (.long v7), .second, .val (.long v9), .second, .val (.int v11), .val (.long v12), .second, .val (.long v14), .second, .val (.long v16), .second, .unset, .unset] [])) target := by
  show Steps p.tables e below (T.setTop (mkF m 110 #[.val (.long v0), .second, .val (.int v2), .val (.int v3), .val (.int v4), .val (.long v5), .second, .val (.long v7), .second, .val (.long v9), .second, .val (.int v11), .val (.long v12), .second, .val (.long v14), .second, .val (.long v16), .second, .unset, .unset] [])) _
  refine XS.lload X.here hx rfl (hb hby at_110) rfl ?_
  rw [show (F0s_110 v14) = v14 from rfl] at kt
  exact kt
def F0s_103 (v14 : Int64) : Int64 := (v14 + (1 : Int64))
theorem b0s_103 {p : Program} {l : Launch} {e : Env} {R : Room} {s : State} {m : MethodId} {args : Array Value} {below : List Frame} {meth : Method} {c : Code} {T : State} {locs : List Loc} {cells slots : Nat} {Z : State} {a0 : Array Value} (X : Stand p l e R s m args below meth c T locs cells slots) (hx : p.tables.exec = Jvm.exec) (hZ : Z.Warmed39 s.vm) (hw : ∀ d ∈ tables_1, d.before a0 Z = true) (hby : c.code = code) (hown : s.vm.findClass "com/example/packwise/packwise/BlockSizeBlockCountPinLaw" = some m.cls) (v0 : Int64) (v2 : Int32) (v3 : Int32) (v4 : Int32) (v5 : Int64) (v7 : Int64) (v9 : Int64) (v11 : Int32) (v12 : Int64) (v14 : Int64) (v16 : Int64) (target : State) (kt : Steps p.tables e below (T.setTop (mkF m 112 #[.val (.long v0), .second, .val (.int v2), .val (.int v3), .val (.int v4), .val (.long v5), .second, .val (.long v7), .second, .val (.long v9), .second, .val (.int v11), .val (.long v12), .second, .val (.long v14), .second, .val (.long v16), .second, .unset, .unset] [(.long (F0s_103 v14))])) target) : Steps p.tables e below (T.setTop (mkF m 103 #[.val (.long v0), .second, .val (.int v2), .val (.int v3), .val (.int v4), .val (.long v5), .second, .val (.long v7), .second, .val (.long v9), .second, .val (.int v11), .val (.long v12), .second, .val (.long v14), .second, .val (.long v16), .second, .unset, .unset] [])) target := by
  show Steps p.tables e below (T.setTop (mkF m 103 #[.val (.long v0), .second, .val (.int v2), .val (.int v3), .val (.int v4), .val (.long v5), .second, .val (.long v7), .second, .val (.long v9), .second, .val (.int v11), .val (.long v12), .second, .val (.long v14), .second, .val (.long v16), .second, .unset, .unset] [])) _
  refine XS.lload X.here hx rfl (hb hby at_103) rfl ?_
  show Steps p.tables e below (T.setTop (mkF m 105 #[.val (.long v0), .second, .val (.int v2), .val (.int v3), .val (.int v4), .val (.long v5), .second, .val (.long v7), .second, .val (.long v9), .second, .val (.int v11), .val (.long v12), .second, .val (.long v14), .second, .val (.long v16), .second, .unset, .unset] [(.long v14)])) _
  refine XS.lconst X.here hx rfl (hb hby at_105) ?_
  show Steps p.tables e below (T.setTop (mkF m 106 #[.val (.long v0), .second, .val (.int v2), .val (.int v3), .val (.int v4), .val (.long v5), .second, .val (.long v7), .second, .val (.long v9), .second, .val (.int v11), .val (.long v12), .second, .val (.long v14), .second, .val (.long v16), .second, .unset, .unset] [(.long (1 : Int64)), (.long v14)])) _
  refine XS.ladd X.here hx rfl (hb hby at_106) rfl ?_
  show Steps p.tables e below (T.setTop (mkF m 107 #[.val (.long v0), .second, .val (.int v2), .val (.int v3), .val (.int v4), .val (.long v5), .second, .val (.long v7), .second, .val (.long v9), .second, .val (.int v11), .val (.long v12), .second, .val (.long v14), .second, .val (.long v16), .second, .unset, .unset] [(.long (v14 + (1 : Int64)))])) _
  refine XS.goto X.here hx rfl (pc0 := 107) (pc' := 112) rfl (hb hby at_107) (by decide) (by decide) ?_
  rw [show (F0s_103 v14) = (v14 + (1 : Int64)) from rfl] at kt
  exact kt
def F0s_96 (v14 : Int64) (v16 : Int64) : Int64 := if v16 = (0 : Int64) then (F0s_110 v14) else (F0s_103 v14)
theorem b0s_96 {p : Program} {l : Launch} {e : Env} {R : Room} {s : State} {m : MethodId} {args : Array Value} {below : List Frame} {meth : Method} {c : Code} {T : State} {locs : List Loc} {cells slots : Nat} {Z : State} {a0 : Array Value} (X : Stand p l e R s m args below meth c T locs cells slots) (hx : p.tables.exec = Jvm.exec) (hZ : Z.Warmed39 s.vm) (hw : ∀ d ∈ tables_1, d.before a0 Z = true) (hby : c.code = code) (hown : s.vm.findClass "com/example/packwise/packwise/BlockSizeBlockCountPinLaw" = some m.cls) (v0 : Int64) (v2 : Int32) (v3 : Int32) (v4 : Int32) (v5 : Int64) (v7 : Int64) (v9 : Int64) (v11 : Int32) (v12 : Int64) (v14 : Int64) (v16 : Int64) (target : State) (kt : Steps p.tables e below (T.setTop (mkF m 112 #[.val (.long v0), .second, .val (.int v2), .val (.int v3), .val (.int v4), .val (.long v5), .second, .val (.long v7), .second, .val (.long v9), .second, .val (.int v11), .val (.long v12), .second, .val (.long v14), .second, .val (.long v16), .second, .unset, .unset] [(.long (F0s_96 v14 v16))])) target) : Steps p.tables e below (T.setTop (mkF m 96 #[.val (.long v0), .second, .val (.int v2), .val (.int v3), .val (.int v4), .val (.long v5), .second, .val (.long v7), .second, .val (.long v9), .second, .val (.int v11), .val (.long v12), .second, .val (.long v14), .second, .val (.long v16), .second, .unset, .unset] [])) target := by
  show Steps p.tables e below (T.setTop (mkF m 96 #[.val (.long v0), .second, .val (.int v2), .val (.int v3), .val (.int v4), .val (.long v5), .second, .val (.long v7), .second, .val (.long v9), .second, .val (.int v11), .val (.long v12), .second, .val (.long v14), .second, .val (.long v16), .second, .unset, .unset] [])) _
  refine XS.lload X.here hx rfl (hb hby at_96) rfl ?_
  show Steps p.tables e below (T.setTop (mkF m 98 #[.val (.long v0), .second, .val (.int v2), .val (.int v3), .val (.int v4), .val (.long v5), .second, .val (.long v7), .second, .val (.long v9), .second, .val (.int v11), .val (.long v12), .second, .val (.long v14), .second, .val (.long v16), .second, .unset, .unset] [(.long v16)])) _
  refine XS.lconst X.here hx rfl (hb hby at_98) ?_
  show Steps p.tables e below (T.setTop (mkF m 99 #[.val (.long v0), .second, .val (.int v2), .val (.int v3), .val (.int v4), .val (.long v5), .second, .val (.long v7), .second, .val (.long v9), .second, .val (.int v11), .val (.long v12), .second, .val (.long v14), .second, .val (.long v16), .second, .unset, .unset] [(.long (0 : Int64)), (.long v16)])) _
  refine XS.lcmp X.here hx rfl (hb hby at_99) rfl ?_
  show Steps p.tables e below (T.setTop (mkF m 100 #[.val (.long v0), .second, .val (.int v2), .val (.int v3), .val (.int v4), .val (.long v5), .second, .val (.long v7), .second, .val (.long v9), .second, .val (.int v11), .val (.long v12), .second, .val (.long v14), .second, .val (.long v16), .second, .unset, .unset] [(.int (lcmpW v16 (0 : Int64)))])) _
  by_cases hc : v16 = (0 : Int64)
  · rw [show (F0s_96 v14 v16) = (F0s_110 v14) from if_pos hc] at kt
    refine XS.ifYes X.here hx rfl (pc0 := 100) (pc' := 110) rfl (hb hby at_100) rfl ((if0 _ _).trans (teq ((lw_eq _ _).mpr hc)).1) (by decide) (by decide) ?_
    exact b0s_110 X hx hZ hw hby hown v0 v2 v3 v4 v5 v7 v9 v11 v12 v14 v16 target kt
  · rw [show (F0s_96 v14 v16) = (F0s_103 v14) from if_neg hc] at kt
    refine XS.ifNo X.here hx rfl (hb hby at_100) rfl ((if0 _ _).trans (feq (fun q => hc ((lw_eq _ _).mp q))).1) ?_
    exact b0s_103 X hx hZ hw hby hown v0 v2 v3 v4 v5 v7 v9 v11 v12 v14 v16 target kt
theorem pn_0 : plainName "com/example/packwise/packwise/BlockSizeBlockCountPinLaw" = true := by first | (simp [plainName, overriddenIn]; done) | decide +kernel
theorem ef_0 (m : MethodId) (q0 : Int64) (p1 : Int32) (p2 : Int32) : entryFrame m #[(.long q0), (.int p1), (.int p2)] maxLocals = mkF m 0 #[.val (.long q0), .second, .val (.int p1), .val (.int p2), .unset, .unset, .unset, .unset, .unset, .unset, .unset, .unset, .unset, .unset, .unset, .unset, .unset, .unset, .unset, .unset] [] := by first | (simp [entryFrame, mkF, argsToLocals, Value.category, maxLocals]; done) | rfl
def Q_rm0 (Z : State) (q0 : Int64) (p1 : Int32) (p2 : Int32) (h0 : Heap) (n0 : Nat) (v : Option Value) (h : Heap) (L : List Loc) : Prop := (v = some (.int (1 : Int32)) ∧ Fr n0 L)
set_option maxRecDepth 65536 in
set_option maxHeartbeats 40000000 in
theorem rm0 (l : Launch) (Z : State) (a0 : Array Value) (hw : ∀ d ∈ tables_1, d.before a0 Z = true) (ws : List Jvm.Cond) (q0 : Int64) (p1 : Int32) (p2 : Int32) (h0 : Heap) (n0 : Nat) (Z0 : n0 ≤ h0.size) (hnz : ¬ (blk p1) = (0 : Int64)) (hc124 : (F1_0 (F0s_40 (raw q0) (((raw q0) / (blk p1)) * (blk p1)) ((p2 &&& (2147483647 : Int32)) - ((p2 &&& (2147483647 : Int32)) / (3 : Int32)) * (3 : Int32))) (shf p1)) = (F0s_96 ((F0s_40 (raw q0) (((raw q0) / (blk p1)) * (blk p1)) ((p2 &&& (2147483647 : Int32)) - ((p2 &&& (2147483647 : Int32)) / (3 : Int32)) * (3 : Int32))) / (blk p1)) ((F0s_40 (raw q0) (((raw q0) / (blk p1)) * (blk p1)) ((p2 &&& (2147483647 : Int32)) - ((p2 &&& (2147483647 : Int32)) / (3 : Int32)) * (3 : Int32))) - ((F0s_40 (raw q0) (((raw q0) / (blk p1)) * (blk p1)) ((p2 &&& (2147483647 : Int32)) - ((p2 &&& (2147483647 : Int32)) / (3 : Int32)) * (3 : Int32))) / (blk p1)) * (blk p1)))) :
    MetFree l x (head1 (Jvm.Cond.code x code maxLocals ret :: ws) room_1) (fun a U => a = #[(.long q0), (.int p1), (.int p2)] ∧ Z.Warmed39 U.vm ∧ U.heap = h0) (fun _ _ _ _ _ => True) (fun _ U o U' => ∃ v L, o = .returned v ∧ Q_rm0 Z q0 p1 p2 h0 n0 v U'.heap L ∧ FrameEnd U o U' L room_1.cells room_1.slots) := by
  refine MetFree.of_bodySF (plainFor_of_name pn_0) hisR ?_
  intro p e s m args below meth c s₁ Bd hml0 hP hK
  obtain ⟨rfl, hZ, hh⟩ := hP
  have hx := Bd.exec
  have hby := Bd.bytes
  have hml : c.maxLocals = 20 := hml0
  have hown : s.vm.findClass "com/example/packwise/packwise/BlockSizeBlockCountPinLaw" = some m.cls := findClass_of_methodNamed Bd.named
  have hnm := (name_of_methodNamed Bd.named Bd.method).1
  have X0 : Stand p l e room_1 s m #[(.long q0), (.int p1), (.int p2)] below meth c s₁ [] 0 0 := Stand.of_body Bd
  have e0 : s₁.heap = h0 := by rw [← hh, Bd.state]; rfl
  have N0 := Fr.nil n0
  have pre0 : ∀ t, Steps p.tables e below (s₁.setTop (mkF m 0 #[.val (.long q0), .second, .val (.int p1), .val (.int p2), .unset, .unset, .unset, .unset, .unset, .unset, .unset, .unset, .unset, .unset, .unset, .unset, .unset, .unset, .unset, .unset] [])) t → Steps p.tables e below (s₁.setTop (entryFrame m #[(.long q0), (.int p1), (.int p2)] maxLocals)) t := fun t k => castTop (ef_0 m q0 p1 p2) k
  obtain ⟨_, _, ⟨T1, L1, k1, n1⟩, -, X1, ⟨Lc1, hQ1, l1, y1, z1⟩, st1⟩ := Jvm.LawKit.callS X0 hx (y := (⟨"com/example/packwise/packwise/BlockSize", "blockCount", "(JI)J"⟩ : MethodName)) hown (mvT hZ (hw _ (List.mem_of_getElem? (i := 2) rfl))) (mvT hZ (hw _ (List.mem_of_getElem? (i := 3) rfl))) (mvT hZ (hw _ (List.mem_of_getElem? (i := 4) rfl))) (mvT hZ (hw _ (List.mem_of_getElem? (i := 5) rfl))) (by decide) (backOf (W := 0) (rm1 l Z a0 hw [] (F0s_40 (raw q0) (((raw q0) / (blk p1)) * (blk p1)) ((p2 &&& (2147483647 : Int32)) - ((p2 &&& (2147483647 : Int32)) / (3 : Int32)) * (3 : Int32))) (shf p1) h0 n0 Z0) hZ (hw _ (List.mem_of_getElem? (i := 5) rfl)) (hw _ (List.mem_of_getElem? (i := 4) rfl)) (by decide) (by decide)) (g := (mkF m 118 #[.val (.long q0), .second, .val (.int p1), .val (.int p2), .val (.int (shf p1)), .val (.long (blk p1)), .second, .val (.long (raw q0)), .second, .val (.long (((raw q0) / (blk p1)) * (blk p1))), .second, .val (.int ((p2 &&& (2147483647 : Int32)) - ((p2 &&& (2147483647 : Int32)) / (3 : Int32)) * (3 : Int32))), .val (.long (F0s_40 (raw q0) (((raw q0) / (blk p1)) * (blk p1)) ((p2 &&& (2147483647 : Int32)) - ((p2 &&& (2147483647 : Int32)) / (3 : Int32)) * (3 : Int32)))), .second, .val (.long ((F0s_40 (raw q0) (((raw q0) / (blk p1)) * (blk p1)) ((p2 &&& (2147483647 : Int32)) - ((p2 &&& (2147483647 : Int32)) / (3 : Int32)) * (3 : Int32))) / (blk p1))), .second, .val (.long ((F0s_40 (raw q0) (((raw q0) / (blk p1)) * (blk p1)) ((p2 &&& (2147483647 : Int32)) - ((p2 &&& (2147483647 : Int32)) / (3 : Int32)) * (3 : Int32))) - ((F0s_40 (raw q0) (((raw q0) / (blk p1)) * (blk p1)) ((p2 &&& (2147483647 : Int32)) - ((p2 &&& (2147483647 : Int32)) / (3 : Int32)) * (3 : Int32))) / (blk p1)) * (blk p1))), .second, .val (.long (F0s_96 ((F0s_40 (raw q0) (((raw q0) / (blk p1)) * (blk p1)) ((p2 &&& (2147483647 : Int32)) - ((p2 &&& (2147483647 : Int32)) / (3 : Int32)) * (3 : Int32))) / (blk p1)) ((F0s_40 (raw q0) (((raw q0) / (blk p1)) * (blk p1)) ((p2 &&& (2147483647 : Int32)) - ((p2 &&& (2147483647 : Int32)) / (3 : Int32)) * (3 : Int32))) - ((F0s_40 (raw q0) (((raw q0) / (blk p1)) * (blk p1)) ((p2 &&& (2147483647 : Int32)) - ((p2 &&& (2147483647 : Int32)) / (3 : Int32)) * (3 : Int32))) / (blk p1)) * (blk p1)))), .second] [(.int (shf p1)), (.long (F0s_40 (raw q0) (((raw q0) / (blk p1)) * (blk p1)) ((p2 &&& (2147483647 : Int32)) - ((p2 &&& (2147483647 : Int32)) / (3 : Int32)) * (3 : Int32))))])) rfl (by rw [hml]; rfl) (argsL := [(.long (F0s_40 (raw q0) (((raw q0) / (blk p1)) * (blk p1)) ((p2 &&& (2147483647 : Int32)) - ((p2 &&& (2147483647 : Int32)) / (3 : Int32)) * (3 : Int32)))), (.int (shf p1))]) (rest := []) (lenOf pd0 rfl) rfl (by show 2 * 0 + _ ≤ _; exact Nat.le_of_eq rfl) (hb hby at_118) (fun _ _ => ⟨rfl, e0, (by decide : 0 + 0 ≤ _), (by decide : 0 + 0 ≤ _)⟩)
  dsimp only [Pt.U, Pt.locs, Pt.cells, Pt.slots] at X1 l1 y1 z1 st1 hQ1
  subst l1 y1 z1
  obtain ⟨rfl, N1q, e1⟩ := hQ1
  have N1 := Fr.app N0 N1q
  obtain ⟨fs, hr, hrun, hended, hW, hsame⟩ := X1.leave (v := some (.int (1 : Int32))) (fun h => by rw [Bd.returns] at h; cases h)
  refine ⟨_, _, pre0 _ ?_, hrun, hended, _, _, rfl, ⟨rfl, N1⟩, ⟨_, rfl⟩, hW, hsame.mono (by decide) (by decide)⟩
  show Steps p.tables e below (s₁.setTop (mkF m 0 #[.val (.long q0), .second, .val (.int p1), .val (.int p2), .unset, .unset, .unset, .unset, .unset, .unset, .unset, .unset, .unset, .unset, .unset, .unset, .unset, .unset, .unset, .unset] [])) _
  refine XS.iloadN X0.here hx rfl (hb hby at_0) rfl ?_
  show Steps p.tables e below (s₁.setTop (mkF m 1 #[.val (.long q0), .second, .val (.int p1), .val (.int p2), .unset, .unset, .unset, .unset, .unset, .unset, .unset, .unset, .unset, .unset, .unset, .unset, .unset, .unset, .unset, .unset] [(.int p1)])) _
  refine X0.ldcInt hx hown (mvT hZ (hw _ (List.mem_of_getElem? (i := 0) rfl))) (g := (mkF m 1 #[.val (.long q0), .second, .val (.int p1), .val (.int p2), .unset, .unset, .unset, .unset, .unset, .unset, .unset, .unset, .unset, .unset, .unset, .unset, .unset, .unset, .unset, .unset] [(.int p1)])) rfl (hb hby at_1) _ ?_
  show Steps p.tables e below (s₁.setTop (mkF m 3 #[.val (.long q0), .second, .val (.int p1), .val (.int p2), .unset, .unset, .unset, .unset, .unset, .unset, .unset, .unset, .unset, .unset, .unset, .unset, .unset, .unset, .unset, .unset] [(.int (2147483647 : Int32)), (.int p1)])) _
  refine XS.iand X0.here hx rfl (hb hby at_3) rfl ?_
  show Steps p.tables e below (s₁.setTop (mkF m 4 #[.val (.long q0), .second, .val (.int p1), .val (.int p2), .unset, .unset, .unset, .unset, .unset, .unset, .unset, .unset, .unset, .unset, .unset, .unset, .unset, .unset, .unset, .unset] [(.int (p1 &&& (2147483647 : Int32)))])) _
  refine XS.bipush X0.here hx rfl (hb hby at_4) ?_
  show Steps p.tables e below (s₁.setTop (mkF m 6 #[.val (.long q0), .second, .val (.int p1), .val (.int p2), .unset, .unset, .unset, .unset, .unset, .unset, .unset, .unset, .unset, .unset, .unset, .unset, .unset, .unset, .unset, .unset] [(.int (63 : Int32)), (.int (p1 &&& (2147483647 : Int32)))])) _
  refine XS.irem X0.here hx rfl (hb hby at_6) rfl (by decide) ?_
  show Steps p.tables e below (s₁.setTop (mkF m 7 #[.val (.long q0), .second, .val (.int p1), .val (.int p2), .unset, .unset, .unset, .unset, .unset, .unset, .unset, .unset, .unset, .unset, .unset, .unset, .unset, .unset, .unset, .unset] [(.int ((p1 &&& (2147483647 : Int32)) - ((p1 &&& (2147483647 : Int32)) / (63 : Int32)) * (63 : Int32)))])) _
  refine XS.istore X0.here hx rfl (hb hby at_7) rfl (l' := #[.val (.long q0), .second, .val (.int p1), .val (.int p2), .val (.int ((p1 &&& (2147483647 : Int32)) - ((p1 &&& (2147483647 : Int32)) / (63 : Int32)) * (63 : Int32))), .unset, .unset, .unset, .unset, .unset, .unset, .unset, .unset, .unset, .unset, .unset, .unset, .unset, .unset, .unset]) rfl ?_
  show Steps p.tables e below (s₁.setTop (mkF m 9 #[.val (.long q0), .second, .val (.int p1), .val (.int p2), .val (.int (shf p1)), .unset, .unset, .unset, .unset, .unset, .unset, .unset, .unset, .unset, .unset, .unset, .unset, .unset, .unset, .unset] [])) _
  refine XS.lconst X0.here hx rfl (hb hby at_9) ?_
  show Steps p.tables e below (s₁.setTop (mkF m 10 #[.val (.long q0), .second, .val (.int p1), .val (.int p2), .val (.int (shf p1)), .unset, .unset, .unset, .unset, .unset, .unset, .unset, .unset, .unset, .unset, .unset, .unset, .unset, .unset, .unset] [(.long (1 : Int64))])) _
  refine XS.iload X0.here hx rfl (hb hby at_10) rfl ?_
  show Steps p.tables e below (s₁.setTop (mkF m 12 #[.val (.long q0), .second, .val (.int p1), .val (.int p2), .val (.int (shf p1)), .unset, .unset, .unset, .unset, .unset, .unset, .unset, .unset, .unset, .unset, .unset, .unset, .unset, .unset, .unset] [(.int (shf p1)), (.long (1 : Int64))])) _
  refine XS.lshl X0.here hx rfl (hb hby at_12) rfl ?_
  show Steps p.tables e below (s₁.setTop (mkF m 13 #[.val (.long q0), .second, .val (.int p1), .val (.int p2), .val (.int (shf p1)), .unset, .unset, .unset, .unset, .unset, .unset, .unset, .unset, .unset, .unset, .unset, .unset, .unset, .unset, .unset] [(.long ((1 : Int64) <<< ((shf p1) &&& 0x3f).toInt64))])) _
  refine XS.lstore X0.here hx rfl (hb hby at_13) rfl (l' := #[.val (.long q0), .second, .val (.int p1), .val (.int p2), .val (.int (shf p1)), .val (.long ((1 : Int64) <<< ((shf p1) &&& 0x3f).toInt64)), .second, .unset, .unset, .unset, .unset, .unset, .unset, .unset, .unset, .unset, .unset, .unset, .unset, .unset]) rfl ?_
  show Steps p.tables e below (s₁.setTop (mkF m 15 #[.val (.long q0), .second, .val (.int p1), .val (.int p2), .val (.int (shf p1)), .val (.long (blk p1)), .second, .unset, .unset, .unset, .unset, .unset, .unset, .unset, .unset, .unset, .unset, .unset, .unset, .unset] [])) _
  refine XS.lloadN X0.here hx rfl (hb hby at_15) rfl ?_
  show Steps p.tables e below (s₁.setTop (mkF m 16 #[.val (.long q0), .second, .val (.int p1), .val (.int p2), .val (.int (shf p1)), .val (.long (blk p1)), .second, .unset, .unset, .unset, .unset, .unset, .unset, .unset, .unset, .unset, .unset, .unset, .unset, .unset] [(.long q0)])) _
  refine X0.ldc2Long hx hown (mvT hZ (hw _ (List.mem_of_getElem? (i := 1) rfl))) (g := (mkF m 16 #[.val (.long q0), .second, .val (.int p1), .val (.int p2), .val (.int (shf p1)), .val (.long (blk p1)), .second, .unset, .unset, .unset, .unset, .unset, .unset, .unset, .unset, .unset, .unset, .unset, .unset, .unset] [(.long q0)])) rfl (hb hby at_16) _ ?_
  show Steps p.tables e below (s₁.setTop (mkF m 19 #[.val (.long q0), .second, .val (.int p1), .val (.int p2), .val (.int (shf p1)), .val (.long (blk p1)), .second, .unset, .unset, .unset, .unset, .unset, .unset, .unset, .unset, .unset, .unset, .unset, .unset, .unset] [(.long (9223372036854775807 : Int64)), (.long q0)])) _
  refine XS.land X0.here hx rfl (hb hby at_19) rfl ?_
  show Steps p.tables e below (s₁.setTop (mkF m 20 #[.val (.long q0), .second, .val (.int p1), .val (.int p2), .val (.int (shf p1)), .val (.long (blk p1)), .second, .unset, .unset, .unset, .unset, .unset, .unset, .unset, .unset, .unset, .unset, .unset, .unset, .unset] [(.long (q0 &&& (9223372036854775807 : Int64)))])) _
  refine XS.lstore X0.here hx rfl (hb hby at_20) rfl (l' := #[.val (.long q0), .second, .val (.int p1), .val (.int p2), .val (.int (shf p1)), .val (.long (blk p1)), .second, .val (.long (q0 &&& (9223372036854775807 : Int64))), .second, .unset, .unset, .unset, .unset, .unset, .unset, .unset, .unset, .unset, .unset, .unset]) rfl ?_
  show Steps p.tables e below (s₁.setTop (mkF m 22 #[.val (.long q0), .second, .val (.int p1), .val (.int p2), .val (.int (shf p1)), .val (.long (blk p1)), .second, .val (.long (raw q0)), .second, .unset, .unset, .unset, .unset, .unset, .unset, .unset, .unset, .unset, .unset, .unset] [])) _
  refine XS.lload X0.here hx rfl (hb hby at_22) rfl ?_
  show Steps p.tables e below (s₁.setTop (mkF m 24 #[.val (.long q0), .second, .val (.int p1), .val (.int p2), .val (.int (shf p1)), .val (.long (blk p1)), .second, .val (.long (raw q0)), .second, .unset, .unset, .unset, .unset, .unset, .unset, .unset, .unset, .unset, .unset, .unset] [(.long (raw q0))])) _
  refine XS.lload X0.here hx rfl (hb hby at_24) rfl ?_
  show Steps p.tables e below (s₁.setTop (mkF m 26 #[.val (.long q0), .second, .val (.int p1), .val (.int p2), .val (.int (shf p1)), .val (.long (blk p1)), .second, .val (.long (raw q0)), .second, .unset, .unset, .unset, .unset, .unset, .unset, .unset, .unset, .unset, .unset, .unset] [(.long (blk p1)), (.long (raw q0))])) _
  refine XS.ldiv X0.here hx rfl (hb hby at_26) rfl hnz ?_
  show Steps p.tables e below (s₁.setTop (mkF m 27 #[.val (.long q0), .second, .val (.int p1), .val (.int p2), .val (.int (shf p1)), .val (.long (blk p1)), .second, .val (.long (raw q0)), .second, .unset, .unset, .unset, .unset, .unset, .unset, .unset, .unset, .unset, .unset, .unset] [(.long ((raw q0) / (blk p1)))])) _
  refine XS.lload X0.here hx rfl (hb hby at_27) rfl ?_
  show Steps p.tables e below (s₁.setTop (mkF m 29 #[.val (.long q0), .second, .val (.int p1), .val (.int p2), .val (.int (shf p1)), .val (.long (blk p1)), .second, .val (.long (raw q0)), .second, .unset, .unset, .unset, .unset, .unset, .unset, .unset, .unset, .unset, .unset, .unset] [(.long (blk p1)), (.long ((raw q0) / (blk p1)))])) _
  refine XS.lmul X0.here hx rfl (hb hby at_29) rfl ?_
  show Steps p.tables e below (s₁.setTop (mkF m 30 #[.val (.long q0), .second, .val (.int p1), .val (.int p2), .val (.int (shf p1)), .val (.long (blk p1)), .second, .val (.long (raw q0)), .second, .unset, .unset, .unset, .unset, .unset, .unset, .unset, .unset, .unset, .unset, .unset] [(.long (((raw q0) / (blk p1)) * (blk p1)))])) _
  refine XS.lstore X0.here hx rfl (hb hby at_30) rfl (l' := #[.val (.long q0), .second, .val (.int p1), .val (.int p2), .val (.int (shf p1)), .val (.long (blk p1)), .second, .val (.long (raw q0)), .second, .val (.long (((raw q0) / (blk p1)) * (blk p1))), .second, .unset, .unset, .unset, .unset, .unset, .unset, .unset, .unset, .unset]) rfl ?_
  show Steps p.tables e below (s₁.setTop (mkF m 32 #[.val (.long q0), .second, .val (.int p1), .val (.int p2), .val (.int (shf p1)), .val (.long (blk p1)), .second, .val (.long (raw q0)), .second, .val (.long (((raw q0) / (blk p1)) * (blk p1))), .second, .unset, .unset, .unset, .unset, .unset, .unset, .unset, .unset, .unset] [])) _
  refine XS.iloadN X0.here hx rfl (hb hby at_32) rfl ?_
  show Steps p.tables e below (s₁.setTop (mkF m 33 #[.val (.long q0), .second, .val (.int p1), .val (.int p2), .val (.int (shf p1)), .val (.long (blk p1)), .second, .val (.long (raw q0)), .second, .val (.long (((raw q0) / (blk p1)) * (blk p1))), .second, .unset, .unset, .unset, .unset, .unset, .unset, .unset, .unset, .unset] [(.int p2)])) _
  refine X0.ldcInt hx hown (mvT hZ (hw _ (List.mem_of_getElem? (i := 0) rfl))) (g := (mkF m 33 #[.val (.long q0), .second, .val (.int p1), .val (.int p2), .val (.int (shf p1)), .val (.long (blk p1)), .second, .val (.long (raw q0)), .second, .val (.long (((raw q0) / (blk p1)) * (blk p1))), .second, .unset, .unset, .unset, .unset, .unset, .unset, .unset, .unset, .unset] [(.int p2)])) rfl (hb hby at_33) _ ?_
  show Steps p.tables e below (s₁.setTop (mkF m 35 #[.val (.long q0), .second, .val (.int p1), .val (.int p2), .val (.int (shf p1)), .val (.long (blk p1)), .second, .val (.long (raw q0)), .second, .val (.long (((raw q0) / (blk p1)) * (blk p1))), .second, .unset, .unset, .unset, .unset, .unset, .unset, .unset, .unset, .unset] [(.int (2147483647 : Int32)), (.int p2)])) _
  refine XS.iand X0.here hx rfl (hb hby at_35) rfl ?_
  show Steps p.tables e below (s₁.setTop (mkF m 36 #[.val (.long q0), .second, .val (.int p1), .val (.int p2), .val (.int (shf p1)), .val (.long (blk p1)), .second, .val (.long (raw q0)), .second, .val (.long (((raw q0) / (blk p1)) * (blk p1))), .second, .unset, .unset, .unset, .unset, .unset, .unset, .unset, .unset, .unset] [(.int (p2 &&& (2147483647 : Int32)))])) _
  refine XS.iconst X0.here hx rfl (hb hby at_36) ?_
  show Steps p.tables e below (s₁.setTop (mkF m 37 #[.val (.long q0), .second, .val (.int p1), .val (.int p2), .val (.int (shf p1)), .val (.long (blk p1)), .second, .val (.long (raw q0)), .second, .val (.long (((raw q0) / (blk p1)) * (blk p1))), .second, .unset, .unset, .unset, .unset, .unset, .unset, .unset, .unset, .unset] [(.int (3 : Int32)), (.int (p2 &&& (2147483647 : Int32)))])) _
  refine XS.irem X0.here hx rfl (hb hby at_37) rfl (by decide) ?_
  show Steps p.tables e below (s₁.setTop (mkF m 38 #[.val (.long q0), .second, .val (.int p1), .val (.int p2), .val (.int (shf p1)), .val (.long (blk p1)), .second, .val (.long (raw q0)), .second, .val (.long (((raw q0) / (blk p1)) * (blk p1))), .second, .unset, .unset, .unset, .unset, .unset, .unset, .unset, .unset, .unset] [(.int ((p2 &&& (2147483647 : Int32)) - ((p2 &&& (2147483647 : Int32)) / (3 : Int32)) * (3 : Int32)))])) _
  refine XS.istore X0.here hx rfl (hb hby at_38) rfl (l' := #[.val (.long q0), .second, .val (.int p1), .val (.int p2), .val (.int (shf p1)), .val (.long (blk p1)), .second, .val (.long (raw q0)), .second, .val (.long (((raw q0) / (blk p1)) * (blk p1))), .second, .val (.int ((p2 &&& (2147483647 : Int32)) - ((p2 &&& (2147483647 : Int32)) / (3 : Int32)) * (3 : Int32))), .unset, .unset, .unset, .unset, .unset, .unset, .unset, .unset]) rfl ?_
  show Steps p.tables e below (s₁.setTop (mkF m 40 #[.val (.long q0), .second, .val (.int p1), .val (.int p2), .val (.int (shf p1)), .val (.long (blk p1)), .second, .val (.long (raw q0)), .second, .val (.long (((raw q0) / (blk p1)) * (blk p1))), .second, .val (.int ((p2 &&& (2147483647 : Int32)) - ((p2 &&& (2147483647 : Int32)) / (3 : Int32)) * (3 : Int32))), .unset, .unset, .unset, .unset, .unset, .unset, .unset, .unset] [])) _
  refine b0s_40 X0 hx hZ hw hby hown q0 p1 p2 (shf p1) (blk p1) (raw q0) (((raw q0) / (blk p1)) * (blk p1)) ((p2 &&& (2147483647 : Int32)) - ((p2 &&& (2147483647 : Int32)) / (3 : Int32)) * (3 : Int32)) _ ?_
  show Steps p.tables e below (s₁.setTop (mkF m 82 #[.val (.long q0), .second, .val (.int p1), .val (.int p2), .val (.int (shf p1)), .val (.long (blk p1)), .second, .val (.long (raw q0)), .second, .val (.long (((raw q0) / (blk p1)) * (blk p1))), .second, .val (.int ((p2 &&& (2147483647 : Int32)) - ((p2 &&& (2147483647 : Int32)) / (3 : Int32)) * (3 : Int32))), .val (.long (F0s_40 (raw q0) (((raw q0) / (blk p1)) * (blk p1)) ((p2 &&& (2147483647 : Int32)) - ((p2 &&& (2147483647 : Int32)) / (3 : Int32)) * (3 : Int32)))), .second, .unset, .unset, .unset, .unset, .unset, .unset] [])) _
  refine XS.lload X0.here hx rfl (hb hby at_82) rfl ?_
  show Steps p.tables e below (s₁.setTop (mkF m 84 #[.val (.long q0), .second, .val (.int p1), .val (.int p2), .val (.int (shf p1)), .val (.long (blk p1)), .second, .val (.long (raw q0)), .second, .val (.long (((raw q0) / (blk p1)) * (blk p1))), .second, .val (.int ((p2 &&& (2147483647 : Int32)) - ((p2 &&& (2147483647 : Int32)) / (3 : Int32)) * (3 : Int32))), .val (.long (F0s_40 (raw q0) (((raw q0) / (blk p1)) * (blk p1)) ((p2 &&& (2147483647 : Int32)) - ((p2 &&& (2147483647 : Int32)) / (3 : Int32)) * (3 : Int32)))), .second, .unset, .unset, .unset, .unset, .unset, .unset] [(.long (F0s_40 (raw q0) (((raw q0) / (blk p1)) * (blk p1)) ((p2 &&& (2147483647 : Int32)) - ((p2 &&& (2147483647 : Int32)) / (3 : Int32)) * (3 : Int32))))])) _
  refine XS.lload X0.here hx rfl (hb hby at_84) rfl ?_
  show Steps p.tables e below (s₁.setTop (mkF m 86 #[.val (.long q0), .second, .val (.int p1), .val (.int p2), .val (.int (shf p1)), .val (.long (blk p1)), .second, .val (.long (raw q0)), .second, .val (.long (((raw q0) / (blk p1)) * (blk p1))), .second, .val (.int ((p2 &&& (2147483647 : Int32)) - ((p2 &&& (2147483647 : Int32)) / (3 : Int32)) * (3 : Int32))), .val (.long (F0s_40 (raw q0) (((raw q0) / (blk p1)) * (blk p1)) ((p2 &&& (2147483647 : Int32)) - ((p2 &&& (2147483647 : Int32)) / (3 : Int32)) * (3 : Int32)))), .second, .unset, .unset, .unset, .unset, .unset, .unset] [(.long (blk p1)), (.long (F0s_40 (raw q0) (((raw q0) / (blk p1)) * (blk p1)) ((p2 &&& (2147483647 : Int32)) - ((p2 &&& (2147483647 : Int32)) / (3 : Int32)) * (3 : Int32))))])) _
  refine XS.ldiv X0.here hx rfl (hb hby at_86) rfl hnz ?_
  show Steps p.tables e below (s₁.setTop (mkF m 87 #[.val (.long q0), .second, .val (.int p1), .val (.int p2), .val (.int (shf p1)), .val (.long (blk p1)), .second, .val (.long (raw q0)), .second, .val (.long (((raw q0) / (blk p1)) * (blk p1))), .second, .val (.int ((p2 &&& (2147483647 : Int32)) - ((p2 &&& (2147483647 : Int32)) / (3 : Int32)) * (3 : Int32))), .val (.long (F0s_40 (raw q0) (((raw q0) / (blk p1)) * (blk p1)) ((p2 &&& (2147483647 : Int32)) - ((p2 &&& (2147483647 : Int32)) / (3 : Int32)) * (3 : Int32)))), .second, .unset, .unset, .unset, .unset, .unset, .unset] [(.long ((F0s_40 (raw q0) (((raw q0) / (blk p1)) * (blk p1)) ((p2 &&& (2147483647 : Int32)) - ((p2 &&& (2147483647 : Int32)) / (3 : Int32)) * (3 : Int32))) / (blk p1)))])) _
  refine XS.lstore X0.here hx rfl (hb hby at_87) rfl (l' := #[.val (.long q0), .second, .val (.int p1), .val (.int p2), .val (.int (shf p1)), .val (.long (blk p1)), .second, .val (.long (raw q0)), .second, .val (.long (((raw q0) / (blk p1)) * (blk p1))), .second, .val (.int ((p2 &&& (2147483647 : Int32)) - ((p2 &&& (2147483647 : Int32)) / (3 : Int32)) * (3 : Int32))), .val (.long (F0s_40 (raw q0) (((raw q0) / (blk p1)) * (blk p1)) ((p2 &&& (2147483647 : Int32)) - ((p2 &&& (2147483647 : Int32)) / (3 : Int32)) * (3 : Int32)))), .second, .val (.long ((F0s_40 (raw q0) (((raw q0) / (blk p1)) * (blk p1)) ((p2 &&& (2147483647 : Int32)) - ((p2 &&& (2147483647 : Int32)) / (3 : Int32)) * (3 : Int32))) / (blk p1))), .second, .unset, .unset, .unset, .unset]) rfl ?_
  show Steps p.tables e below (s₁.setTop (mkF m 89 #[.val (.long q0), .second, .val (.int p1), .val (.int p2), .val (.int (shf p1)), .val (.long (blk p1)), .second, .val (.long (raw q0)), .second, .val (.long (((raw q0) / (blk p1)) * (blk p1))), .second, .val (.int ((p2 &&& (2147483647 : Int32)) - ((p2 &&& (2147483647 : Int32)) / (3 : Int32)) * (3 : Int32))), .val (.long (F0s_40 (raw q0) (((raw q0) / (blk p1)) * (blk p1)) ((p2 &&& (2147483647 : Int32)) - ((p2 &&& (2147483647 : Int32)) / (3 : Int32)) * (3 : Int32)))), .second, .val (.long ((F0s_40 (raw q0) (((raw q0) / (blk p1)) * (blk p1)) ((p2 &&& (2147483647 : Int32)) - ((p2 &&& (2147483647 : Int32)) / (3 : Int32)) * (3 : Int32))) / (blk p1))), .second, .unset, .unset, .unset, .unset] [])) _
  refine XS.lload X0.here hx rfl (hb hby at_89) rfl ?_
  show Steps p.tables e below (s₁.setTop (mkF m 91 #[.val (.long q0), .second, .val (.int p1), .val (.int p2), .val (.int (shf p1)), .val (.long (blk p1)), .second, .val (.long (raw q0)), .second, .val (.long (((raw q0) / (blk p1)) * (blk p1))), .second, .val (.int ((p2 &&& (2147483647 : Int32)) - ((p2 &&& (2147483647 : Int32)) / (3 : Int32)) * (3 : Int32))), .val (.long (F0s_40 (raw q0) (((raw q0) / (blk p1)) * (blk p1)) ((p2 &&& (2147483647 : Int32)) - ((p2 &&& (2147483647 : Int32)) / (3 : Int32)) * (3 : Int32)))), .second, .val (.long ((F0s_40 (raw q0) (((raw q0) / (blk p1)) * (blk p1)) ((p2 &&& (2147483647 : Int32)) - ((p2 &&& (2147483647 : Int32)) / (3 : Int32)) * (3 : Int32))) / (blk p1))), .second, .unset, .unset, .unset, .unset] [(.long (F0s_40 (raw q0) (((raw q0) / (blk p1)) * (blk p1)) ((p2 &&& (2147483647 : Int32)) - ((p2 &&& (2147483647 : Int32)) / (3 : Int32)) * (3 : Int32))))])) _
  refine XS.lload X0.here hx rfl (hb hby at_91) rfl ?_
  show Steps p.tables e below (s₁.setTop (mkF m 93 #[.val (.long q0), .second, .val (.int p1), .val (.int p2), .val (.int (shf p1)), .val (.long (blk p1)), .second, .val (.long (raw q0)), .second, .val (.long (((raw q0) / (blk p1)) * (blk p1))), .second, .val (.int ((p2 &&& (2147483647 : Int32)) - ((p2 &&& (2147483647 : Int32)) / (3 : Int32)) * (3 : Int32))), .val (.long (F0s_40 (raw q0) (((raw q0) / (blk p1)) * (blk p1)) ((p2 &&& (2147483647 : Int32)) - ((p2 &&& (2147483647 : Int32)) / (3 : Int32)) * (3 : Int32)))), .second, .val (.long ((F0s_40 (raw q0) (((raw q0) / (blk p1)) * (blk p1)) ((p2 &&& (2147483647 : Int32)) - ((p2 &&& (2147483647 : Int32)) / (3 : Int32)) * (3 : Int32))) / (blk p1))), .second, .unset, .unset, .unset, .unset] [(.long (blk p1)), (.long (F0s_40 (raw q0) (((raw q0) / (blk p1)) * (blk p1)) ((p2 &&& (2147483647 : Int32)) - ((p2 &&& (2147483647 : Int32)) / (3 : Int32)) * (3 : Int32))))])) _
  refine XS.lrem X0.here hx rfl (hb hby at_93) rfl hnz ?_
  show Steps p.tables e below (s₁.setTop (mkF m 94 #[.val (.long q0), .second, .val (.int p1), .val (.int p2), .val (.int (shf p1)), .val (.long (blk p1)), .second, .val (.long (raw q0)), .second, .val (.long (((raw q0) / (blk p1)) * (blk p1))), .second, .val (.int ((p2 &&& (2147483647 : Int32)) - ((p2 &&& (2147483647 : Int32)) / (3 : Int32)) * (3 : Int32))), .val (.long (F0s_40 (raw q0) (((raw q0) / (blk p1)) * (blk p1)) ((p2 &&& (2147483647 : Int32)) - ((p2 &&& (2147483647 : Int32)) / (3 : Int32)) * (3 : Int32)))), .second, .val (.long ((F0s_40 (raw q0) (((raw q0) / (blk p1)) * (blk p1)) ((p2 &&& (2147483647 : Int32)) - ((p2 &&& (2147483647 : Int32)) / (3 : Int32)) * (3 : Int32))) / (blk p1))), .second, .unset, .unset, .unset, .unset] [(.long ((F0s_40 (raw q0) (((raw q0) / (blk p1)) * (blk p1)) ((p2 &&& (2147483647 : Int32)) - ((p2 &&& (2147483647 : Int32)) / (3 : Int32)) * (3 : Int32))) - ((F0s_40 (raw q0) (((raw q0) / (blk p1)) * (blk p1)) ((p2 &&& (2147483647 : Int32)) - ((p2 &&& (2147483647 : Int32)) / (3 : Int32)) * (3 : Int32))) / (blk p1)) * (blk p1)))])) _
  refine XS.lstore X0.here hx rfl (hb hby at_94) rfl (l' := #[.val (.long q0), .second, .val (.int p1), .val (.int p2), .val (.int (shf p1)), .val (.long (blk p1)), .second, .val (.long (raw q0)), .second, .val (.long (((raw q0) / (blk p1)) * (blk p1))), .second, .val (.int ((p2 &&& (2147483647 : Int32)) - ((p2 &&& (2147483647 : Int32)) / (3 : Int32)) * (3 : Int32))), .val (.long (F0s_40 (raw q0) (((raw q0) / (blk p1)) * (blk p1)) ((p2 &&& (2147483647 : Int32)) - ((p2 &&& (2147483647 : Int32)) / (3 : Int32)) * (3 : Int32)))), .second, .val (.long ((F0s_40 (raw q0) (((raw q0) / (blk p1)) * (blk p1)) ((p2 &&& (2147483647 : Int32)) - ((p2 &&& (2147483647 : Int32)) / (3 : Int32)) * (3 : Int32))) / (blk p1))), .second, .val (.long ((F0s_40 (raw q0) (((raw q0) / (blk p1)) * (blk p1)) ((p2 &&& (2147483647 : Int32)) - ((p2 &&& (2147483647 : Int32)) / (3 : Int32)) * (3 : Int32))) - ((F0s_40 (raw q0) (((raw q0) / (blk p1)) * (blk p1)) ((p2 &&& (2147483647 : Int32)) - ((p2 &&& (2147483647 : Int32)) / (3 : Int32)) * (3 : Int32))) / (blk p1)) * (blk p1))), .second, .unset, .unset]) rfl ?_
  show Steps p.tables e below (s₁.setTop (mkF m 96 #[.val (.long q0), .second, .val (.int p1), .val (.int p2), .val (.int (shf p1)), .val (.long (blk p1)), .second, .val (.long (raw q0)), .second, .val (.long (((raw q0) / (blk p1)) * (blk p1))), .second, .val (.int ((p2 &&& (2147483647 : Int32)) - ((p2 &&& (2147483647 : Int32)) / (3 : Int32)) * (3 : Int32))), .val (.long (F0s_40 (raw q0) (((raw q0) / (blk p1)) * (blk p1)) ((p2 &&& (2147483647 : Int32)) - ((p2 &&& (2147483647 : Int32)) / (3 : Int32)) * (3 : Int32)))), .second, .val (.long ((F0s_40 (raw q0) (((raw q0) / (blk p1)) * (blk p1)) ((p2 &&& (2147483647 : Int32)) - ((p2 &&& (2147483647 : Int32)) / (3 : Int32)) * (3 : Int32))) / (blk p1))), .second, .val (.long ((F0s_40 (raw q0) (((raw q0) / (blk p1)) * (blk p1)) ((p2 &&& (2147483647 : Int32)) - ((p2 &&& (2147483647 : Int32)) / (3 : Int32)) * (3 : Int32))) - ((F0s_40 (raw q0) (((raw q0) / (blk p1)) * (blk p1)) ((p2 &&& (2147483647 : Int32)) - ((p2 &&& (2147483647 : Int32)) / (3 : Int32)) * (3 : Int32))) / (blk p1)) * (blk p1))), .second, .unset, .unset] [])) _
  refine b0s_96 X0 hx hZ hw hby hown q0 p1 p2 (shf p1) (blk p1) (raw q0) (((raw q0) / (blk p1)) * (blk p1)) ((p2 &&& (2147483647 : Int32)) - ((p2 &&& (2147483647 : Int32)) / (3 : Int32)) * (3 : Int32)) (F0s_40 (raw q0) (((raw q0) / (blk p1)) * (blk p1)) ((p2 &&& (2147483647 : Int32)) - ((p2 &&& (2147483647 : Int32)) / (3 : Int32)) * (3 : Int32))) ((F0s_40 (raw q0) (((raw q0) / (blk p1)) * (blk p1)) ((p2 &&& (2147483647 : Int32)) - ((p2 &&& (2147483647 : Int32)) / (3 : Int32)) * (3 : Int32))) / (blk p1)) ((F0s_40 (raw q0) (((raw q0) / (blk p1)) * (blk p1)) ((p2 &&& (2147483647 : Int32)) - ((p2 &&& (2147483647 : Int32)) / (3 : Int32)) * (3 : Int32))) - ((F0s_40 (raw q0) (((raw q0) / (blk p1)) * (blk p1)) ((p2 &&& (2147483647 : Int32)) - ((p2 &&& (2147483647 : Int32)) / (3 : Int32)) * (3 : Int32))) / (blk p1)) * (blk p1)) _ ?_
  show Steps p.tables e below (s₁.setTop (mkF m 112 #[.val (.long q0), .second, .val (.int p1), .val (.int p2), .val (.int (shf p1)), .val (.long (blk p1)), .second, .val (.long (raw q0)), .second, .val (.long (((raw q0) / (blk p1)) * (blk p1))), .second, .val (.int ((p2 &&& (2147483647 : Int32)) - ((p2 &&& (2147483647 : Int32)) / (3 : Int32)) * (3 : Int32))), .val (.long (F0s_40 (raw q0) (((raw q0) / (blk p1)) * (blk p1)) ((p2 &&& (2147483647 : Int32)) - ((p2 &&& (2147483647 : Int32)) / (3 : Int32)) * (3 : Int32)))), .second, .val (.long ((F0s_40 (raw q0) (((raw q0) / (blk p1)) * (blk p1)) ((p2 &&& (2147483647 : Int32)) - ((p2 &&& (2147483647 : Int32)) / (3 : Int32)) * (3 : Int32))) / (blk p1))), .second, .val (.long ((F0s_40 (raw q0) (((raw q0) / (blk p1)) * (blk p1)) ((p2 &&& (2147483647 : Int32)) - ((p2 &&& (2147483647 : Int32)) / (3 : Int32)) * (3 : Int32))) - ((F0s_40 (raw q0) (((raw q0) / (blk p1)) * (blk p1)) ((p2 &&& (2147483647 : Int32)) - ((p2 &&& (2147483647 : Int32)) / (3 : Int32)) * (3 : Int32))) / (blk p1)) * (blk p1))), .second, .unset, .unset] [(.long (F0s_96 ((F0s_40 (raw q0) (((raw q0) / (blk p1)) * (blk p1)) ((p2 &&& (2147483647 : Int32)) - ((p2 &&& (2147483647 : Int32)) / (3 : Int32)) * (3 : Int32))) / (blk p1)) ((F0s_40 (raw q0) (((raw q0) / (blk p1)) * (blk p1)) ((p2 &&& (2147483647 : Int32)) - ((p2 &&& (2147483647 : Int32)) / (3 : Int32)) * (3 : Int32))) - ((F0s_40 (raw q0) (((raw q0) / (blk p1)) * (blk p1)) ((p2 &&& (2147483647 : Int32)) - ((p2 &&& (2147483647 : Int32)) / (3 : Int32)) * (3 : Int32))) / (blk p1)) * (blk p1))))])) _
  refine XS.lstore X0.here hx rfl (hb hby at_112) rfl (l' := #[.val (.long q0), .second, .val (.int p1), .val (.int p2), .val (.int (shf p1)), .val (.long (blk p1)), .second, .val (.long (raw q0)), .second, .val (.long (((raw q0) / (blk p1)) * (blk p1))), .second, .val (.int ((p2 &&& (2147483647 : Int32)) - ((p2 &&& (2147483647 : Int32)) / (3 : Int32)) * (3 : Int32))), .val (.long (F0s_40 (raw q0) (((raw q0) / (blk p1)) * (blk p1)) ((p2 &&& (2147483647 : Int32)) - ((p2 &&& (2147483647 : Int32)) / (3 : Int32)) * (3 : Int32)))), .second, .val (.long ((F0s_40 (raw q0) (((raw q0) / (blk p1)) * (blk p1)) ((p2 &&& (2147483647 : Int32)) - ((p2 &&& (2147483647 : Int32)) / (3 : Int32)) * (3 : Int32))) / (blk p1))), .second, .val (.long ((F0s_40 (raw q0) (((raw q0) / (blk p1)) * (blk p1)) ((p2 &&& (2147483647 : Int32)) - ((p2 &&& (2147483647 : Int32)) / (3 : Int32)) * (3 : Int32))) - ((F0s_40 (raw q0) (((raw q0) / (blk p1)) * (blk p1)) ((p2 &&& (2147483647 : Int32)) - ((p2 &&& (2147483647 : Int32)) / (3 : Int32)) * (3 : Int32))) / (blk p1)) * (blk p1))), .second, .val (.long (F0s_96 ((F0s_40 (raw q0) (((raw q0) / (blk p1)) * (blk p1)) ((p2 &&& (2147483647 : Int32)) - ((p2 &&& (2147483647 : Int32)) / (3 : Int32)) * (3 : Int32))) / (blk p1)) ((F0s_40 (raw q0) (((raw q0) / (blk p1)) * (blk p1)) ((p2 &&& (2147483647 : Int32)) - ((p2 &&& (2147483647 : Int32)) / (3 : Int32)) * (3 : Int32))) - ((F0s_40 (raw q0) (((raw q0) / (blk p1)) * (blk p1)) ((p2 &&& (2147483647 : Int32)) - ((p2 &&& (2147483647 : Int32)) / (3 : Int32)) * (3 : Int32))) / (blk p1)) * (blk p1)))), .second]) rfl ?_
  show Steps p.tables e below (s₁.setTop (mkF m 114 #[.val (.long q0), .second, .val (.int p1), .val (.int p2), .val (.int (shf p1)), .val (.long (blk p1)), .second, .val (.long (raw q0)), .second, .val (.long (((raw q0) / (blk p1)) * (blk p1))), .second, .val (.int ((p2 &&& (2147483647 : Int32)) - ((p2 &&& (2147483647 : Int32)) / (3 : Int32)) * (3 : Int32))), .val (.long (F0s_40 (raw q0) (((raw q0) / (blk p1)) * (blk p1)) ((p2 &&& (2147483647 : Int32)) - ((p2 &&& (2147483647 : Int32)) / (3 : Int32)) * (3 : Int32)))), .second, .val (.long ((F0s_40 (raw q0) (((raw q0) / (blk p1)) * (blk p1)) ((p2 &&& (2147483647 : Int32)) - ((p2 &&& (2147483647 : Int32)) / (3 : Int32)) * (3 : Int32))) / (blk p1))), .second, .val (.long ((F0s_40 (raw q0) (((raw q0) / (blk p1)) * (blk p1)) ((p2 &&& (2147483647 : Int32)) - ((p2 &&& (2147483647 : Int32)) / (3 : Int32)) * (3 : Int32))) - ((F0s_40 (raw q0) (((raw q0) / (blk p1)) * (blk p1)) ((p2 &&& (2147483647 : Int32)) - ((p2 &&& (2147483647 : Int32)) / (3 : Int32)) * (3 : Int32))) / (blk p1)) * (blk p1))), .second, .val (.long (F0s_96 ((F0s_40 (raw q0) (((raw q0) / (blk p1)) * (blk p1)) ((p2 &&& (2147483647 : Int32)) - ((p2 &&& (2147483647 : Int32)) / (3 : Int32)) * (3 : Int32))) / (blk p1)) ((F0s_40 (raw q0) (((raw q0) / (blk p1)) * (blk p1)) ((p2 &&& (2147483647 : Int32)) - ((p2 &&& (2147483647 : Int32)) / (3 : Int32)) * (3 : Int32))) - ((F0s_40 (raw q0) (((raw q0) / (blk p1)) * (blk p1)) ((p2 &&& (2147483647 : Int32)) - ((p2 &&& (2147483647 : Int32)) / (3 : Int32)) * (3 : Int32))) / (blk p1)) * (blk p1)))), .second] [])) _
  refine XS.lload X0.here hx rfl (hb hby at_114) rfl ?_
  show Steps p.tables e below (s₁.setTop (mkF m 116 #[.val (.long q0), .second, .val (.int p1), .val (.int p2), .val (.int (shf p1)), .val (.long (blk p1)), .second, .val (.long (raw q0)), .second, .val (.long (((raw q0) / (blk p1)) * (blk p1))), .second, .val (.int ((p2 &&& (2147483647 : Int32)) - ((p2 &&& (2147483647 : Int32)) / (3 : Int32)) * (3 : Int32))), .val (.long (F0s_40 (raw q0) (((raw q0) / (blk p1)) * (blk p1)) ((p2 &&& (2147483647 : Int32)) - ((p2 &&& (2147483647 : Int32)) / (3 : Int32)) * (3 : Int32)))), .second, .val (.long ((F0s_40 (raw q0) (((raw q0) / (blk p1)) * (blk p1)) ((p2 &&& (2147483647 : Int32)) - ((p2 &&& (2147483647 : Int32)) / (3 : Int32)) * (3 : Int32))) / (blk p1))), .second, .val (.long ((F0s_40 (raw q0) (((raw q0) / (blk p1)) * (blk p1)) ((p2 &&& (2147483647 : Int32)) - ((p2 &&& (2147483647 : Int32)) / (3 : Int32)) * (3 : Int32))) - ((F0s_40 (raw q0) (((raw q0) / (blk p1)) * (blk p1)) ((p2 &&& (2147483647 : Int32)) - ((p2 &&& (2147483647 : Int32)) / (3 : Int32)) * (3 : Int32))) / (blk p1)) * (blk p1))), .second, .val (.long (F0s_96 ((F0s_40 (raw q0) (((raw q0) / (blk p1)) * (blk p1)) ((p2 &&& (2147483647 : Int32)) - ((p2 &&& (2147483647 : Int32)) / (3 : Int32)) * (3 : Int32))) / (blk p1)) ((F0s_40 (raw q0) (((raw q0) / (blk p1)) * (blk p1)) ((p2 &&& (2147483647 : Int32)) - ((p2 &&& (2147483647 : Int32)) / (3 : Int32)) * (3 : Int32))) - ((F0s_40 (raw q0) (((raw q0) / (blk p1)) * (blk p1)) ((p2 &&& (2147483647 : Int32)) - ((p2 &&& (2147483647 : Int32)) / (3 : Int32)) * (3 : Int32))) / (blk p1)) * (blk p1)))), .second] [(.long (F0s_40 (raw q0) (((raw q0) / (blk p1)) * (blk p1)) ((p2 &&& (2147483647 : Int32)) - ((p2 &&& (2147483647 : Int32)) / (3 : Int32)) * (3 : Int32))))])) _
  refine XS.iload X0.here hx rfl (hb hby at_116) rfl ?_
  show Steps p.tables e below (s₁.setTop (mkF m 118 #[.val (.long q0), .second, .val (.int p1), .val (.int p2), .val (.int (shf p1)), .val (.long (blk p1)), .second, .val (.long (raw q0)), .second, .val (.long (((raw q0) / (blk p1)) * (blk p1))), .second, .val (.int ((p2 &&& (2147483647 : Int32)) - ((p2 &&& (2147483647 : Int32)) / (3 : Int32)) * (3 : Int32))), .val (.long (F0s_40 (raw q0) (((raw q0) / (blk p1)) * (blk p1)) ((p2 &&& (2147483647 : Int32)) - ((p2 &&& (2147483647 : Int32)) / (3 : Int32)) * (3 : Int32)))), .second, .val (.long ((F0s_40 (raw q0) (((raw q0) / (blk p1)) * (blk p1)) ((p2 &&& (2147483647 : Int32)) - ((p2 &&& (2147483647 : Int32)) / (3 : Int32)) * (3 : Int32))) / (blk p1))), .second, .val (.long ((F0s_40 (raw q0) (((raw q0) / (blk p1)) * (blk p1)) ((p2 &&& (2147483647 : Int32)) - ((p2 &&& (2147483647 : Int32)) / (3 : Int32)) * (3 : Int32))) - ((F0s_40 (raw q0) (((raw q0) / (blk p1)) * (blk p1)) ((p2 &&& (2147483647 : Int32)) - ((p2 &&& (2147483647 : Int32)) / (3 : Int32)) * (3 : Int32))) / (blk p1)) * (blk p1))), .second, .val (.long (F0s_96 ((F0s_40 (raw q0) (((raw q0) / (blk p1)) * (blk p1)) ((p2 &&& (2147483647 : Int32)) - ((p2 &&& (2147483647 : Int32)) / (3 : Int32)) * (3 : Int32))) / (blk p1)) ((F0s_40 (raw q0) (((raw q0) / (blk p1)) * (blk p1)) ((p2 &&& (2147483647 : Int32)) - ((p2 &&& (2147483647 : Int32)) / (3 : Int32)) * (3 : Int32))) - ((F0s_40 (raw q0) (((raw q0) / (blk p1)) * (blk p1)) ((p2 &&& (2147483647 : Int32)) - ((p2 &&& (2147483647 : Int32)) / (3 : Int32)) * (3 : Int32))) / (blk p1)) * (blk p1)))), .second] [(.int (shf p1)), (.long (F0s_40 (raw q0) (((raw q0) / (blk p1)) * (blk p1)) ((p2 &&& (2147483647 : Int32)) - ((p2 &&& (2147483647 : Int32)) / (3 : Int32)) * (3 : Int32))))])) _
  refine st1 _ ?_
  show Steps p.tables e below (T1.setTop (mkF m 121 #[.val (.long q0), .second, .val (.int p1), .val (.int p2), .val (.int (shf p1)), .val (.long (blk p1)), .second, .val (.long (raw q0)), .second, .val (.long (((raw q0) / (blk p1)) * (blk p1))), .second, .val (.int ((p2 &&& (2147483647 : Int32)) - ((p2 &&& (2147483647 : Int32)) / (3 : Int32)) * (3 : Int32))), .val (.long (F0s_40 (raw q0) (((raw q0) / (blk p1)) * (blk p1)) ((p2 &&& (2147483647 : Int32)) - ((p2 &&& (2147483647 : Int32)) / (3 : Int32)) * (3 : Int32)))), .second, .val (.long ((F0s_40 (raw q0) (((raw q0) / (blk p1)) * (blk p1)) ((p2 &&& (2147483647 : Int32)) - ((p2 &&& (2147483647 : Int32)) / (3 : Int32)) * (3 : Int32))) / (blk p1))), .second, .val (.long ((F0s_40 (raw q0) (((raw q0) / (blk p1)) * (blk p1)) ((p2 &&& (2147483647 : Int32)) - ((p2 &&& (2147483647 : Int32)) / (3 : Int32)) * (3 : Int32))) - ((F0s_40 (raw q0) (((raw q0) / (blk p1)) * (blk p1)) ((p2 &&& (2147483647 : Int32)) - ((p2 &&& (2147483647 : Int32)) / (3 : Int32)) * (3 : Int32))) / (blk p1)) * (blk p1))), .second, .val (.long (F0s_96 ((F0s_40 (raw q0) (((raw q0) / (blk p1)) * (blk p1)) ((p2 &&& (2147483647 : Int32)) - ((p2 &&& (2147483647 : Int32)) / (3 : Int32)) * (3 : Int32))) / (blk p1)) ((F0s_40 (raw q0) (((raw q0) / (blk p1)) * (blk p1)) ((p2 &&& (2147483647 : Int32)) - ((p2 &&& (2147483647 : Int32)) / (3 : Int32)) * (3 : Int32))) - ((F0s_40 (raw q0) (((raw q0) / (blk p1)) * (blk p1)) ((p2 &&& (2147483647 : Int32)) - ((p2 &&& (2147483647 : Int32)) / (3 : Int32)) * (3 : Int32))) / (blk p1)) * (blk p1)))), .second] [(.long (F1_0 (F0s_40 (raw q0) (((raw q0) / (blk p1)) * (blk p1)) ((p2 &&& (2147483647 : Int32)) - ((p2 &&& (2147483647 : Int32)) / (3 : Int32)) * (3 : Int32))) (shf p1)))])) _
  refine XS.lload X1.here hx rfl (hb hby at_121) rfl ?_
  show Steps p.tables e below (T1.setTop (mkF m 123 #[.val (.long q0), .second, .val (.int p1), .val (.int p2), .val (.int (shf p1)), .val (.long (blk p1)), .second, .val (.long (raw q0)), .second, .val (.long (((raw q0) / (blk p1)) * (blk p1))), .second, .val (.int ((p2 &&& (2147483647 : Int32)) - ((p2 &&& (2147483647 : Int32)) / (3 : Int32)) * (3 : Int32))), .val (.long (F0s_40 (raw q0) (((raw q0) / (blk p1)) * (blk p1)) ((p2 &&& (2147483647 : Int32)) - ((p2 &&& (2147483647 : Int32)) / (3 : Int32)) * (3 : Int32)))), .second, .val (.long ((F0s_40 (raw q0) (((raw q0) / (blk p1)) * (blk p1)) ((p2 &&& (2147483647 : Int32)) - ((p2 &&& (2147483647 : Int32)) / (3 : Int32)) * (3 : Int32))) / (blk p1))), .second, .val (.long ((F0s_40 (raw q0) (((raw q0) / (blk p1)) * (blk p1)) ((p2 &&& (2147483647 : Int32)) - ((p2 &&& (2147483647 : Int32)) / (3 : Int32)) * (3 : Int32))) - ((F0s_40 (raw q0) (((raw q0) / (blk p1)) * (blk p1)) ((p2 &&& (2147483647 : Int32)) - ((p2 &&& (2147483647 : Int32)) / (3 : Int32)) * (3 : Int32))) / (blk p1)) * (blk p1))), .second, .val (.long (F0s_96 ((F0s_40 (raw q0) (((raw q0) / (blk p1)) * (blk p1)) ((p2 &&& (2147483647 : Int32)) - ((p2 &&& (2147483647 : Int32)) / (3 : Int32)) * (3 : Int32))) / (blk p1)) ((F0s_40 (raw q0) (((raw q0) / (blk p1)) * (blk p1)) ((p2 &&& (2147483647 : Int32)) - ((p2 &&& (2147483647 : Int32)) / (3 : Int32)) * (3 : Int32))) - ((F0s_40 (raw q0) (((raw q0) / (blk p1)) * (blk p1)) ((p2 &&& (2147483647 : Int32)) - ((p2 &&& (2147483647 : Int32)) / (3 : Int32)) * (3 : Int32))) / (blk p1)) * (blk p1)))), .second] [(.long (F0s_96 ((F0s_40 (raw q0) (((raw q0) / (blk p1)) * (blk p1)) ((p2 &&& (2147483647 : Int32)) - ((p2 &&& (2147483647 : Int32)) / (3 : Int32)) * (3 : Int32))) / (blk p1)) ((F0s_40 (raw q0) (((raw q0) / (blk p1)) * (blk p1)) ((p2 &&& (2147483647 : Int32)) - ((p2 &&& (2147483647 : Int32)) / (3 : Int32)) * (3 : Int32))) - ((F0s_40 (raw q0) (((raw q0) / (blk p1)) * (blk p1)) ((p2 &&& (2147483647 : Int32)) - ((p2 &&& (2147483647 : Int32)) / (3 : Int32)) * (3 : Int32))) / (blk p1)) * (blk p1)))), (.long (F1_0 (F0s_40 (raw q0) (((raw q0) / (blk p1)) * (blk p1)) ((p2 &&& (2147483647 : Int32)) - ((p2 &&& (2147483647 : Int32)) / (3 : Int32)) * (3 : Int32))) (shf p1)))])) _
  refine XS.lcmp X1.here hx rfl (hb hby at_123) rfl ?_
  show Steps p.tables e below (T1.setTop (mkF m 124 #[.val (.long q0), .second, .val (.int p1), .val (.int p2), .val (.int (shf p1)), .val (.long (blk p1)), .second, .val (.long (raw q0)), .second, .val (.long (((raw q0) / (blk p1)) * (blk p1))), .second, .val (.int ((p2 &&& (2147483647 : Int32)) - ((p2 &&& (2147483647 : Int32)) / (3 : Int32)) * (3 : Int32))), .val (.long (F0s_40 (raw q0) (((raw q0) / (blk p1)) * (blk p1)) ((p2 &&& (2147483647 : Int32)) - ((p2 &&& (2147483647 : Int32)) / (3 : Int32)) * (3 : Int32)))), .second, .val (.long ((F0s_40 (raw q0) (((raw q0) / (blk p1)) * (blk p1)) ((p2 &&& (2147483647 : Int32)) - ((p2 &&& (2147483647 : Int32)) / (3 : Int32)) * (3 : Int32))) / (blk p1))), .second, .val (.long ((F0s_40 (raw q0) (((raw q0) / (blk p1)) * (blk p1)) ((p2 &&& (2147483647 : Int32)) - ((p2 &&& (2147483647 : Int32)) / (3 : Int32)) * (3 : Int32))) - ((F0s_40 (raw q0) (((raw q0) / (blk p1)) * (blk p1)) ((p2 &&& (2147483647 : Int32)) - ((p2 &&& (2147483647 : Int32)) / (3 : Int32)) * (3 : Int32))) / (blk p1)) * (blk p1))), .second, .val (.long (F0s_96 ((F0s_40 (raw q0) (((raw q0) / (blk p1)) * (blk p1)) ((p2 &&& (2147483647 : Int32)) - ((p2 &&& (2147483647 : Int32)) / (3 : Int32)) * (3 : Int32))) / (blk p1)) ((F0s_40 (raw q0) (((raw q0) / (blk p1)) * (blk p1)) ((p2 &&& (2147483647 : Int32)) - ((p2 &&& (2147483647 : Int32)) / (3 : Int32)) * (3 : Int32))) - ((F0s_40 (raw q0) (((raw q0) / (blk p1)) * (blk p1)) ((p2 &&& (2147483647 : Int32)) - ((p2 &&& (2147483647 : Int32)) / (3 : Int32)) * (3 : Int32))) / (blk p1)) * (blk p1)))), .second] [(.int (lcmpW (F1_0 (F0s_40 (raw q0) (((raw q0) / (blk p1)) * (blk p1)) ((p2 &&& (2147483647 : Int32)) - ((p2 &&& (2147483647 : Int32)) / (3 : Int32)) * (3 : Int32))) (shf p1)) (F0s_96 ((F0s_40 (raw q0) (((raw q0) / (blk p1)) * (blk p1)) ((p2 &&& (2147483647 : Int32)) - ((p2 &&& (2147483647 : Int32)) / (3 : Int32)) * (3 : Int32))) / (blk p1)) ((F0s_40 (raw q0) (((raw q0) / (blk p1)) * (blk p1)) ((p2 &&& (2147483647 : Int32)) - ((p2 &&& (2147483647 : Int32)) / (3 : Int32)) * (3 : Int32))) - ((F0s_40 (raw q0) (((raw q0) / (blk p1)) * (blk p1)) ((p2 &&& (2147483647 : Int32)) - ((p2 &&& (2147483647 : Int32)) / (3 : Int32)) * (3 : Int32))) / (blk p1)) * (blk p1)))))])) _
  refine XS.ifNo X1.here hx rfl (hb hby at_124) rfl ((if0 _ _).trans (teq ((lw_eq _ _).mpr hc124)).2) ?_
  show Steps p.tables e below (T1.setTop (mkF m 127 #[.val (.long q0), .second, .val (.int p1), .val (.int p2), .val (.int (shf p1)), .val (.long (blk p1)), .second, .val (.long (raw q0)), .second, .val (.long (((raw q0) / (blk p1)) * (blk p1))), .second, .val (.int ((p2 &&& (2147483647 : Int32)) - ((p2 &&& (2147483647 : Int32)) / (3 : Int32)) * (3 : Int32))), .val (.long (F0s_40 (raw q0) (((raw q0) / (blk p1)) * (blk p1)) ((p2 &&& (2147483647 : Int32)) - ((p2 &&& (2147483647 : Int32)) / (3 : Int32)) * (3 : Int32)))), .second, .val (.long ((F0s_40 (raw q0) (((raw q0) / (blk p1)) * (blk p1)) ((p2 &&& (2147483647 : Int32)) - ((p2 &&& (2147483647 : Int32)) / (3 : Int32)) * (3 : Int32))) / (blk p1))), .second, .val (.long ((F0s_40 (raw q0) (((raw q0) / (blk p1)) * (blk p1)) ((p2 &&& (2147483647 : Int32)) - ((p2 &&& (2147483647 : Int32)) / (3 : Int32)) * (3 : Int32))) - ((F0s_40 (raw q0) (((raw q0) / (blk p1)) * (blk p1)) ((p2 &&& (2147483647 : Int32)) - ((p2 &&& (2147483647 : Int32)) / (3 : Int32)) * (3 : Int32))) / (blk p1)) * (blk p1))), .second, .val (.long (F0s_96 ((F0s_40 (raw q0) (((raw q0) / (blk p1)) * (blk p1)) ((p2 &&& (2147483647 : Int32)) - ((p2 &&& (2147483647 : Int32)) / (3 : Int32)) * (3 : Int32))) / (blk p1)) ((F0s_40 (raw q0) (((raw q0) / (blk p1)) * (blk p1)) ((p2 &&& (2147483647 : Int32)) - ((p2 &&& (2147483647 : Int32)) / (3 : Int32)) * (3 : Int32))) - ((F0s_40 (raw q0) (((raw q0) / (blk p1)) * (blk p1)) ((p2 &&& (2147483647 : Int32)) - ((p2 &&& (2147483647 : Int32)) / (3 : Int32)) * (3 : Int32))) / (blk p1)) * (blk p1)))), .second] [])) _
  refine XS.iconst X1.here hx rfl (hb hby at_127) ?_
  show Steps p.tables e below (T1.setTop (mkF m 128 #[.val (.long q0), .second, .val (.int p1), .val (.int p2), .val (.int (shf p1)), .val (.long (blk p1)), .second, .val (.long (raw q0)), .second, .val (.long (((raw q0) / (blk p1)) * (blk p1))), .second, .val (.int ((p2 &&& (2147483647 : Int32)) - ((p2 &&& (2147483647 : Int32)) / (3 : Int32)) * (3 : Int32))), .val (.long (F0s_40 (raw q0) (((raw q0) / (blk p1)) * (blk p1)) ((p2 &&& (2147483647 : Int32)) - ((p2 &&& (2147483647 : Int32)) / (3 : Int32)) * (3 : Int32)))), .second, .val (.long ((F0s_40 (raw q0) (((raw q0) / (blk p1)) * (blk p1)) ((p2 &&& (2147483647 : Int32)) - ((p2 &&& (2147483647 : Int32)) / (3 : Int32)) * (3 : Int32))) / (blk p1))), .second, .val (.long ((F0s_40 (raw q0) (((raw q0) / (blk p1)) * (blk p1)) ((p2 &&& (2147483647 : Int32)) - ((p2 &&& (2147483647 : Int32)) / (3 : Int32)) * (3 : Int32))) - ((F0s_40 (raw q0) (((raw q0) / (blk p1)) * (blk p1)) ((p2 &&& (2147483647 : Int32)) - ((p2 &&& (2147483647 : Int32)) / (3 : Int32)) * (3 : Int32))) / (blk p1)) * (blk p1))), .second, .val (.long (F0s_96 ((F0s_40 (raw q0) (((raw q0) / (blk p1)) * (blk p1)) ((p2 &&& (2147483647 : Int32)) - ((p2 &&& (2147483647 : Int32)) / (3 : Int32)) * (3 : Int32))) / (blk p1)) ((F0s_40 (raw q0) (((raw q0) / (blk p1)) * (blk p1)) ((p2 &&& (2147483647 : Int32)) - ((p2 &&& (2147483647 : Int32)) / (3 : Int32)) * (3 : Int32))) - ((F0s_40 (raw q0) (((raw q0) / (blk p1)) * (blk p1)) ((p2 &&& (2147483647 : Int32)) - ((p2 &&& (2147483647 : Int32)) / (3 : Int32)) * (3 : Int32))) / (blk p1)) * (blk p1)))), .second] [(.int (1 : Int32))])) _
  refine XS.goto X1.here hx rfl (pc0 := 128) (pc' := 132) rfl (hb hby at_128) (by decide) (by decide) ?_
  show Steps p.tables e below (T1.setTop (mkF m 132 #[.val (.long q0), .second, .val (.int p1), .val (.int p2), .val (.int (shf p1)), .val (.long (blk p1)), .second, .val (.long (raw q0)), .second, .val (.long (((raw q0) / (blk p1)) * (blk p1))), .second, .val (.int ((p2 &&& (2147483647 : Int32)) - ((p2 &&& (2147483647 : Int32)) / (3 : Int32)) * (3 : Int32))), .val (.long (F0s_40 (raw q0) (((raw q0) / (blk p1)) * (blk p1)) ((p2 &&& (2147483647 : Int32)) - ((p2 &&& (2147483647 : Int32)) / (3 : Int32)) * (3 : Int32)))), .second, .val (.long ((F0s_40 (raw q0) (((raw q0) / (blk p1)) * (blk p1)) ((p2 &&& (2147483647 : Int32)) - ((p2 &&& (2147483647 : Int32)) / (3 : Int32)) * (3 : Int32))) / (blk p1))), .second, .val (.long ((F0s_40 (raw q0) (((raw q0) / (blk p1)) * (blk p1)) ((p2 &&& (2147483647 : Int32)) - ((p2 &&& (2147483647 : Int32)) / (3 : Int32)) * (3 : Int32))) - ((F0s_40 (raw q0) (((raw q0) / (blk p1)) * (blk p1)) ((p2 &&& (2147483647 : Int32)) - ((p2 &&& (2147483647 : Int32)) / (3 : Int32)) * (3 : Int32))) / (blk p1)) * (blk p1))), .second, .val (.long (F0s_96 ((F0s_40 (raw q0) (((raw q0) / (blk p1)) * (blk p1)) ((p2 &&& (2147483647 : Int32)) - ((p2 &&& (2147483647 : Int32)) / (3 : Int32)) * (3 : Int32))) / (blk p1)) ((F0s_40 (raw q0) (((raw q0) / (blk p1)) * (blk p1)) ((p2 &&& (2147483647 : Int32)) - ((p2 &&& (2147483647 : Int32)) / (3 : Int32)) * (3 : Int32))) - ((F0s_40 (raw q0) (((raw q0) / (blk p1)) * (blk p1)) ((p2 &&& (2147483647 : Int32)) - ((p2 &&& (2147483647 : Int32)) / (3 : Int32)) * (3 : Int32))) / (blk p1)) * (blk p1)))), .second] [(.int (1 : Int32))])) _
  exact retN X1 hx (t := .boolean) Bd.returns (by simp) (hb hby at_132) hr
theorem own_bv (x : Int32) (h : 0 ≤ x.toInt) : x.toBitVec.toNat = x.toInt.toNat := by
  have e : x.toInt = x.toBitVec.toInt := rfl
  have hl := x.toBitVec.isLt
  rw [BitVec.toInt_eq_toNat_cond] at e
  split at e <;> omega
theorem own_bvL (x : Int64) (h : 0 ≤ x.toInt) : x.toBitVec.toNat = x.toInt.toNat := by
  have e : x.toInt = x.toBitVec.toInt := rfl
  have hl := x.toBitVec.isLt
  rw [BitVec.toInt_eq_toNat_cond] at e
  split at e <;> omega
theorem own_rem (x y : Int32) (d : Int) (hy : y.toInt = d) (hd : 0 < d) (h : 0 ≤ x.toInt) : 0 ≤ (x - (x / y) * y).toInt ∧ (x - (x / y) * y).toInt < d := by
  rw [irem_eq_mod, (c_irem x y d hy).1 h]
  exact ⟨Int.emod_nonneg _ (by omega), Int.emod_lt_of_pos _ hd⟩
theorem own_m31 (x : Int32) : 0 ≤ (x &&& (2147483647 : Int32)).toInt := by
  rw [c_mask x 2147483647 31 (by decide) (by decide)]; exact Int.emod_nonneg _ (by decide)
theorem own_shf (p1 : Int32) : 0 ≤ (shf p1).toInt ∧ (shf p1).toInt < 63 := own_rem _ _ 63 rfl (by decide) (own_m31 p1)
theorem own_pw {K : Nat} (h : K < 63) : 1 ≤ ((2 ^ K : Nat) : Int) ∧ ((2 ^ K : Nat) : Int) ≤ 4611686018427387904 := by
  have h1 : 2 ^ K ≤ 2 ^ 62 := Nat.pow_le_pow_right (by decide) (by omega)
  have h2 : 0 < 2 ^ K := Nat.two_pow_pos K
  have e : (2 : Nat) ^ 62 = 4611686018427387904 := by decide
  omega
theorem own_one (s : Int32) (h : 0 ≤ s.toInt ∧ s.toInt < 63) : ((1 : Int64) <<< (s &&& 0x3f).toInt64).toInt = ((2 ^ s.toInt.toNat : Nat) : Int) := by
  have hb := own_bv s h.1
  have a := c_lshl 1 s s.toInt.toNat (by omega)
  have b := own_pw (K := s.toInt.toNat) (by omega)
  have r := rng64 ((1 : Int64) <<< (s &&& 0x3f).toInt64)
  have e1 : (1 : Int64).toInt = 1 := rfl
  rw [e1, Int.one_mul] at a
  omega
theorem own_blk (p1 : Int32) : (blk p1).toInt = ((2 ^ (shf p1).toInt.toNat : Nat) : Int) := own_one (shf p1) (own_shf p1)
theorem own_nz (p1 : Int32) : ¬ blk p1 = (0 : Int64) := by
  intro h
  have a := own_blk p1
  have b := own_pw (K := (shf p1).toInt.toNat) (by have := own_shf p1; omega)
  rw [h] at a
  have e0 : (0 : Int64).toInt = 0 := rfl
  omega
theorem own_ushr0 (n : Int64) (s : Int32) (h : s.toInt = 0) : ((n.toUInt64 >>> (s &&& 0x3f).toInt64.toUInt64).toInt64) = n := by
  have e : s = 0 := by rw [← Int32.toInt_inj]; exact h
  subst e
  rw [show ((0 : Int32) &&& 0x3f).toInt64.toUInt64 = 0 from by decide]
  rw [UInt64.shiftRight_zero]
  rfl
theorem own_div (n : Int64) (s : Int32) (b : Int64) (hs : 0 ≤ s.toInt ∧ s.toInt < 63) (hb : b = (1 : Int64) <<< (s &&& 0x3f).toInt64) (hn : 0 ≤ n.toInt) :
    F1_0 n s = F0s_96 (n / b) (n - (n / b) * b) := by
  have hP := own_one s hs
  rw [← hb] at hP
  have hw := own_pw (K := s.toInt.toNat) (by omega)
  have hr := rng64 n
  have hsb := own_bv s hs.1
  have e0 : (0 : Int64).toInt = 0 := rfl
  have em : (-1 : Int64).toInt = -1 := rfl
  have d1 := (c_ldiv n b _ hP (fun q => by rw [q, em] at hP; omega)).1 hn
  have d2 := (c_lrem n b _ hP).1 hn
  have d3 : ((n.toUInt64 >>> (s &&& 0x3f).toInt64.toUInt64).toInt64).toInt = n.toInt / ((2 ^ s.toInt.toNat : Nat) : Int) := by
    by_cases h0 : s.toInt = 0
    · rw [own_ushr0 n s h0, h0, show (((2 ^ (0 : Int).toNat : Nat) : Int)) = 1 from rfl, Int.ediv_one]
    · rw [c_lushr n s s.toInt.toNat (by omega) (by omega), Int.emod_eq_of_lt hn (by omega)]
  have dm : (b - (1 : Int64)).toInt = ((2 ^ s.toInt.toNat : Nat) : Int) - 1 := by
    have a := c_lsub b 1
    have r := rng64 (b - 1)
    have e1 : (1 : Int64).toInt = 1 := rfl
    omega
  have d4 : (n &&& (b - (1 : Int64))).toInt = n.toInt % ((2 ^ s.toInt.toNat : Nat) : Int) := by
    refine c_maskL n _ s.toInt.toNat (by omega) ?_
    rw [own_bvL _ (by omega), dm]
    omega
  have u : ((n.toUInt64 >>> (s &&& 0x3f).toInt64.toUInt64).toInt64) = n / b := by rw [← Int64.toInt_inj, d3, d1]
  by_cases hz : n.toInt % ((2 ^ s.toInt.toNat : Nat) : Int) = 0
  · have c1 : (n &&& (b - (1 : Int64))) = (0 : Int64) := by rw [← Int64.toInt_inj, d4, hz]; rfl
    have c2 : (n - (n / b) * b) = (0 : Int64) := by rw [← Int64.toInt_inj, d2, hz]; rfl
    rw [show F0s_96 (n / b) (n - (n / b) * b) = F0s_110 (n / b) from if_pos c2]
    rw [hb] at c1
    rw [show F1_0 n s = F1_16 ((n.toUInt64 >>> (s &&& 0x3f).toInt64.toUInt64).toInt64) from if_pos c1, u]; rfl
  · have c1 : ¬ (n &&& (b - (1 : Int64))) = (0 : Int64) := by rw [← Int64.toInt_inj, d4]; exact hz
    have c2 : ¬ (n - (n / b) * b) = (0 : Int64) := by rw [← Int64.toInt_inj, d2]; exact hz
    rw [show F0s_96 (n / b) (n - (n / b) * b) = F0s_103 (n / b) from if_neg c2]
    rw [hb] at c1
    rw [show F1_0 n s = F1_20 ((n.toUInt64 >>> (s &&& 0x3f).toInt64.toUInt64).toInt64) from if_neg c1, u]; rfl
theorem own_raw (q0 : Int64) : 0 ≤ (raw q0).toInt := by
  show 0 ≤ (q0 &&& (9223372036854775807 : Int64)).toInt
  rw [c_maskL q0 9223372036854775807 63 (by decide) (by decide)]; exact Int.emod_nonneg _ (by decide)
theorem own_count (r b : Int64) (m : Int32) (hr : 0 ≤ r.toInt) (hb : 0 < b.toInt) : 0 ≤ (F0s_40 r ((r / b) * b) m).toInt := by
  have em : (-1 : Int64).toInt = -1 := rfl
  have e0 : (0 : Int64).toInt = 0 := rfl
  have e1 : (1 : Int64).toInt = 1 := rfl
  have d1 := (c_ldiv r b _ rfl (fun q => by rw [q] at hb; omega)).1 hr
  have q0 := Int.ediv_nonneg hr (Int.le_of_lt hb)
  have q1 : 0 ≤ (r.toInt / b.toInt) * b.toInt := Int.mul_nonneg q0 (Int.le_of_lt hb)
  have q2 : (r.toInt / b.toInt) * b.toInt ≤ r.toInt := Int.ediv_mul_le _ (by omega)
  have rr := rng64 r
  have hbase : ((r / b) * b).toInt = (r.toInt / b.toInt) * b.toInt := by
    have a := c_lmul (r / b) b
    have rm := rng64 ((r / b) * b)
    rw [d1] at a
    omega
  by_cases h : m = (0 : Int32)
  · rw [show F0s_40 r ((r / b) * b) m = r from if_pos h]; exact hr
  · rw [show F0s_40 r ((r / b) * b) m = F0s_52 ((r / b) * b) m from if_neg h]
    by_cases h2 : m = (1 : Int32)
    · rw [show F0s_52 ((r / b) * b) m = (r / b) * b from if_pos h2, hbase]; exact q1
    · rw [show F0s_52 ((r / b) * b) m = F0s_65 ((r / b) * b) from if_neg h2]
      by_cases h3 : (0 : Int64) < (r / b) * b
      · rw [show F0s_65 ((r / b) * b) = (r / b) * b - 1 from if_pos h3]
        have a := c_lsub ((r / b) * b) 1
        have rm := rng64 ((r / b) * b - 1)
        rw [Int64.lt_iff_toInt_lt] at h3
        omega
      · rw [show F0s_65 ((r / b) * b) = 0 from if_neg h3]; decide
theorem own_law (q0 : Int64) (p1 m : Int32) : F1_0 (F0s_40 (raw q0) (((raw q0) / (blk p1)) * (blk p1)) m) (shf p1) = F0s_96 ((F0s_40 (raw q0) (((raw q0) / (blk p1)) * (blk p1)) m) / (blk p1)) ((F0s_40 (raw q0) (((raw q0) / (blk p1)) * (blk p1)) m) - ((F0s_40 (raw q0) (((raw q0) / (blk p1)) * (blk p1)) m) / (blk p1)) * (blk p1)) := by
  refine own_div _ (shf p1) (blk p1) (own_shf p1) rfl (own_count _ _ _ (own_raw q0) ?_)
  rw [own_blk]
  have := own_pw (K := (shf p1).toInt.toNat) (by have := own_shf p1; omega)
  omega

set_option maxRecDepth 65536 in
set_option maxHeartbeats 40000000 in
theorem comes_1 {Post : Tables → Env → Array Value → State → Outcome → State → Prop} (hpost : ∀ tb e args s v u, (limb_1_1.after args s (.returned v) u = true ∧ limb_1_2.after args s (.returned v) u = true ∧ True) → FrameEnd s (.returned v) u (Jvm.fieldLocs frame_1_writes args s ++ Jvm.arrayLocs frame_1_arrays args s ++ Jvm.staticLocs frame_1_statics s) 0 0 → Post tb e args s (.returned v) u) :
    ArmFor flags0 classFile x code maxLocals ret World_1 tables_1 room_1 Calls_1 rest_1 Pre_1 Post := by
  intro l hfl _ _ p e ha hc hk s m args below hf hA hF happ hP
  obtain ⟨hcalls, hrest, hpre⟩ := hP
  obtain ⟨-, -, -, hnamed, -, -, -, hat⟩ := (Spec.applies_iff hf).mp happ
  obtain ⟨hg, hn⟩ := and_e (Cond.before_iff.mp (show (Jvm.Cond.and given_1 narrow_1).before args s = true from hpre))
  obtain ⟨gc, g0⟩ := and_e hg
  obtain ⟨k0, g1⟩ := and_e g0
  obtain ⟨k1, g2⟩ := and_e g1
  have k2 := g2
  obtain ⟨w0, w1, w2, rfl⟩ : ∃ w0 w1 w2 : Value, args = #[w0, w1, w2] := by
    have hs : args.size = 3 := by simpa [Cond.value, given_1] using gc
    obtain ⟨L⟩ := args
    match L, hs with
    | [w0, w1, w2], _ => exact ⟨w0, w1, w2, rfl⟩
  have hw := fun d (hd : d ∈ tables_1) => atoms_spec (ws := Jvm.Cond.code x code maxLocals ret :: tables_1) hat d (List.mem_cons_of_mem _ hd)
  obtain ⟨i0, ei0⟩ := isL_v k0
  obtain rfl : w0 = (.long i0) := Option.some.inj ei0
  obtain ⟨i1, ei1⟩ := is_v k1
  obtain rfl : w1 = (.int i1) := Option.some.inj ei1
  obtain ⟨i2, ei2⟩ := is_v k2
  obtain rfl : w2 = (.int i2) := Option.some.inj ei2
  obtain ⟨n, o, h1, h2, h3, _, L, rfl, ⟨rfl, N⟩, hq⟩ := rm0 l s _ hw tables_1 i0 i1 i2 s.heap s.heap.size (Nat.le_refl _) (own_nz i1) (own_law _ _ _) p e ha hc hk s m _ below hf ((Spec.applies_iff_loose hf).mp happ).1 ⟨rfl, State.Warmed39.refl s, rfl⟩ trivial
  refine ⟨n, _, h1, h2, h3, hpost _ _ _ _ _ _ ⟨Cond.after_iff.mpr rfl, Cond.after_iff.mpr (eq_i res_at (Term.int_eval (1)) rfl), trivial⟩ ⟨hq.1, hq.2.1, (hq.2.2.sift fun y hy => Or.inr (N y hy)).mono (by decide) (by decide)⟩⟩
theorem main_1_1 : Claimed_1_1 := comes_1 fun _ _ _ _ _ _ h hF => ⟨h.1, hF⟩
theorem main_1_2 : Claimed_1_2 := comes_1 fun _ _ _ _ _ _ h hF => ⟨h.2.1, hF⟩
end Jvm.Pilot.@@N@@
namespace Jvm.Pilot.@@N@@
open Jvm Jvm.ClassFile Sem Op Lib Jvm.Free Jvm.Stand Jvm.Pilot.@@N@@.Jvm.D
/-! MADE BY PROGRAM (witnessworld.py) out of the Statement's table words and the real class files: 9 classes; the members and pool entries that the words name. The judged class is class 1, her method 1. -/
namespace start1
open Jvm.ClassFile
def u (s : String) : CpInfo := .utf8 (stringToUtf16 s)
/-- a pool by its gaps: so many unusable entries, then the entry; so many at the end -/
def gap : Nat → List CpInfo → List CpInfo
  | 0, r => r
  | n + 1, r => .unusable :: gap n r
def poolList (es : List (Nat × CpInfo)) (last : Nat) : List CpInfo := es.foldr (fun e r => gap e.1 (e.2 :: r)) (gap last [])
def pool (es : List (Nat × CpInfo)) (last : Nat) : Array CpInfo := ⟨poolList es last⟩
def fileOf (pool : Array CpInfo) (this : Nat) (attrs : Array Attribute := #[]) (ms : Array MethodInfo := #[]) (fl : Nat := 33) (sup : Nat := 0) (ifs : Array Nat := #[]) (fds : Array FieldInfo := #[]) : ClassFile where
  minorVersion := 0
  majorVersion := 65
  constantPool := pool
  accessFlags := fl
  thisClass := this
  superClass := sup
  interfaces := ifs
  fields := fds
  methods := ms
  attributes := attrs
def plain (name : String) (sup : Option ClassId) : Class where
  name := name
  kind := .ordinary
  loader := none
  accessFlags := 33
  super := sup
  interfaces := #[]
  cf := none
  fields := #[]
  methods := #[]
  instanceTypes := #[]
  staticTypes := #[]
  resolved := #[]
  callSites := []
  init := .initialized
  statics := none
  mirror := none

def pool0 : Array CpInfo := pool [(5, u "<init>"), (0, u "()V"), (1, .class_ 10), (1, u "java/lang/Object")] 113

def k0m0 : Method := { name := "<init>", desc := "()V", sig := { parameters := [], returnType := none }, accessFlags := 1, code := none }
/-- java/lang/Object -/
def k0 : Class := { plain "java/lang/Object" none with
  accessFlags := 33
  interfaces := #[]
  cf := some (fileOf pool0 8 #[] #[{ accessFlags := 1, nameIndex := 5, descriptorIndex := 6, attributes := #[] }] 33 0 #[] #[])
  fields := #[]
  methods := #[k0m0]
  instanceTypes := #[]
  staticTypes := #[]
  resolved := Array.replicate 124 none
  statics := none }

def pool1 : Array CpInfo := pool [(2, .class_ 4), (1, u "java/lang/Object"), (0, u "<init>"), (0, u "()V"), (0, .integer 2147483647), (2, .long 9223372036854775807), (1, .methodref 13 14), (0, .class_ 15), (0, .nameAndType 16 17), (0, u "com/example/packwise/packwise/BlockSize"), (0, u "blockCount"), (0, u "(JI)J"), (0, .class_ 19), (0, u "com/example/packwise/packwise/BlockSizeBlockCountPinLaw"), (2, u "law"), (0, u "(JII)Z")] 3

def k1m0 : Method := { name := "<init>", desc := "()V", sig := { parameters := [], returnType := none }, accessFlags := 2, code := none }
def k1c1 : Code := { maxStack := 4, maxLocals := 20, code := code, exceptionTable := #[], attributes := #[] }
def k1m1 : Method := { name := "law", desc := "(JII)Z", sig := { parameters := [.long, .int, .int], returnType := some .boolean }, accessFlags := 9, code := some k1c1 }
/-- com/example/packwise/packwise/BlockSizeBlockCountPinLaw -/
def k1 : Class := { plain "com/example/packwise/packwise/BlockSizeBlockCountPinLaw" (some 0) with
  accessFlags := 49
  interfaces := #[]
  cf := some (fileOf pool1 18 #[] #[{ accessFlags := 2, nameIndex := 5, descriptorIndex := 6, attributes := #[] }, { accessFlags := 9, nameIndex := 22, descriptorIndex := 23, attributes := #[] }] 49 2 #[] #[])
  fields := #[]
  methods := #[k1m0, k1m1]
  instanceTypes := #[]
  staticTypes := #[]
  resolved := Array.replicate 27 none
  statics := none }

def pool2 : Array CpInfo := pool [(2, .class_ 4), (1, u "java/lang/Object"), (0, u "<init>"), (0, u "()V"), (0, .class_ 8), (0, u "com/example/packwise/packwise/BlockSize"), (24, u "MIN"), (0, u "I"), (2, u "MAX"), (5, u "blockCount"), (0, u "(JI)J")] 2

def k2m0 : Method := { name := "<init>", desc := "()V", sig := { parameters := [], returnType := none }, accessFlags := 2, code := none }
def k2c1 : Code := { maxStack := 6, maxLocals := 5, code := prog_5_method_3_code, exceptionTable := #[], attributes := #[] }
def k2m1 : Method := { name := "blockCount", desc := "(JI)J", sig := { parameters := [.long, .int], returnType := some .long }, accessFlags := 8, code := some k2c1 }
/-- com/example/packwise/packwise/BlockSize -/
def k2 : Class := { plain "com/example/packwise/packwise/BlockSize" (some 0) with
  accessFlags := 48
  interfaces := #[]
  cf := some (fileOf pool2 7 #[] #[{ accessFlags := 2, nameIndex := 5, descriptorIndex := 6, attributes := #[] }, { accessFlags := 8, nameIndex := 43, descriptorIndex := 44, attributes := #[] }] 48 2 #[] #[{ accessFlags := 24, nameIndex := 33, descriptorIndex := 34, attributes := #[] }, { accessFlags := 24, nameIndex := 37, descriptorIndex := 34, attributes := #[] }])
  fields := #[{ name := "MIN", type := .int, accessFlags := 24, slot := 0, constantValue := 0 }, { name := "MAX", type := .int, accessFlags := 24, slot := 1, constantValue := 0 }]
  methods := #[k2m0, k2m1]
  instanceTypes := #[]
  staticTypes := #[.int, .int]
  resolved := Array.replicate 47 none
  statics := none }

def pool3 : Array CpInfo := pool [(1, u "java/lang/Cloneable"), (0, .class_ 1), (0, u "java/lang/Object"), (0, .class_ 3)] 3

/-- java/lang/Cloneable -/
def k3 : Class := { plain "java/lang/Cloneable" (some 0) with
  accessFlags := 1537
  interfaces := #[]
  cf := some (fileOf pool3 2 #[] #[] 1537 4 #[] #[])
  fields := #[]
  methods := #[]
  instanceTypes := #[]
  staticTypes := #[]
  resolved := Array.replicate 8 none
  statics := none }

def pool4 : Array CpInfo := pool [(1, u "java/io/Serializable"), (0, .class_ 1), (0, u "java/lang/Object"), (0, .class_ 3)] 3

/-- java/io/Serializable -/
def k4 : Class := { plain "java/io/Serializable" (some 0) with
  accessFlags := 1537
  interfaces := #[]
  cf := some (fileOf pool4 2 #[] #[] 1537 4 #[] #[])
  fields := #[]
  methods := #[]
  instanceTypes := #[]
  staticTypes := #[]
  resolved := Array.replicate 8 none
  statics := none }

/-- the primitive byte -/
def k5 : Class := { plain "byte" none with kind := .primitive 'B', accessFlags := 0x411 }
/-- [B -/
def k6 : Class := { plain "[B" (some 0) with kind := .array 5 .byte, interfaces := #[3, 4], accessFlags := 1041 }

/-- the primitive int -/
def k7 : Class := { plain "int" none with kind := .primitive 'I', accessFlags := 0x411 }
/-- [I -/
def k8 : Class := { plain "[I" (some 0) with kind := .array 7 .int, interfaces := #[3, 4], accessFlags := 1041 }

def heap : Heap := #[]
def classes : Array Class := #[k0, k1, k2, k3, k4, k5, k6, k7, k8]
def interned : List (Array UInt16 × Addr) := []
def slotsUsed : Nat := 0
def theMethod : MethodId := ⟨1, 1⟩
def args0 : Array Value := #[.long 5, .int 5, .int 5]
def aboutOver (below : List Frame) : State where
  vm := { classes := classes, interned := interned.toArray }
  heap := heap
  slotsUsed := slotsUsed
  threads := #[{ frames := .invoking theMethod args0 :: below }]
def below0 : List Frame := [.native { method := ⟨0, 0⟩, args := #[] }]
def about1 : State := aboutOver below0
def p0 : Program := .bare "" "" ""
def e0 : Env := launch0.env 0 0 0
theorem w_frames : about1.frames = Frame.invoking theMethod args0 :: below0 := rfl
set_option maxRecDepth 65536 in
theorem w_args : argsFit about1.vm theMethod args0 = true := by decide +kernel
set_option maxRecDepth 65536 in
theorem w_heap : heapFits about1 = true := by decide +kernel
set_option maxRecDepth 65536 in
theorem w_runnable : about1.curStatus? = some .runnable := by decide +kernel
set_option maxRecDepth 65536 in
theorem w_alone : about1.alone = true := by decide +kernel
set_option maxRecDepth 65536 in
theorem w_named : about1.methodNamed? x = some theMethod := by decide +kernel
set_option maxRecDepth 65536 in
theorem w_hears : about1.hears theMethod below0 = true := by decide +kernel
set_option maxRecDepth 65536 in
theorem w_ripe : about1.ripe theMethod args0 below0 = true := by decide +kernel
theorem w_running : about1.status = .running := rfl
set_option maxRecDepth 65536 in
theorem w_room : about1.hasRoom e0.platform room_1 = true :=
  launch0.hasRoom_least _ room_1 (by decide +kernel) (by decide +kernel) (by decide +kernel) (by decide +kernel) (by decide +kernel) (by decide +kernel)
theorem allAtoms_all (ts : List Jvm.Cond) (a : Array Jvm.Value) (st : Jvm.State) : (allAtoms ts).before a st = ts.all (fun c => c.before a st) := by
  induction ts with
  | nil => rfl
  | cons c t ih =>
    show (Jvm.Cond.and c (allAtoms t)).before a st = _
    rw [Jvm.Cond.before_and, ih, List.all_cons]
def words1 : List Jvm.Cond := Jvm.Cond.code x code maxLocals ret :: tables_1
/-- a 'code' word, met by the world's own term for the bytes: nothing is compared byte by byte -/
theorem code_word {y : MethodName} {bytes : ByteArray} {mx : Nat} {rt : Option FieldType} {a : Array Value} {s : State} {m : MethodId} {meth : Method} {c : Code} (h1 : s.methodNamed? y = some m) (h2 : s.vm.method? m = some meth) (h3 : meth.code = some c) (h4 : c.code = bytes)
    (h5 : (c.maxLocals == mx && c.exceptionTable.isEmpty && decide (c.maxStack ≤ mostOperands) && decide (meth.sig.returnType = rt) && !meth.locks && decide (parseMethodDescriptor y.desc = some meth.sig)) = true) : (Jvm.Cond.code y bytes mx rt).before a s = true := by
  simp only [Bool.and_eq_true, beq_iff_eq, Bool.not_eq_true', decide_eq_true_eq] at h5
  obtain ⟨⟨⟨⟨⟨g1, g2⟩, g3⟩, g4⟩, g5⟩, g6⟩ := h5
  simp [Cond.before, Cond.holds, Cond.value, h1, h2, h3, h4, g1, g2, g3, g4, g5, g6]
def isCode : Jvm.Cond → Bool
  | .code _ _ _ _ => true
  | _ => false
theorem all_split {L : List Jvm.Cond} {P : Jvm.Cond → Bool} (h1 : L.all (fun c => isCode c || P c) = true) (h2 : ∀ c ∈ L.filter isCode, P c = true) : L.all P = true := by
  refine List.all_eq_true.mpr fun c hc => ?_
  have h := List.all_eq_true.mp h1 c hc
  rcases Bool.eq_false_or_eq_true (isCode c) with hi | hi
  · exact h2 c (List.mem_filter.mpr ⟨hc, hi⟩)
  · simpa [hi] using h
set_option maxRecDepth 65536 in
theorem w_c0 : (Jvm.Cond.code x code maxLocals ret).before args0 about1 = true := code_word (m := ⟨1, 1⟩) (meth := k1m1) (c := k1c1) (by decide +kernel) rfl rfl rfl (by decide +kernel)
set_option maxRecDepth 65536 in
theorem w_c1 : (Jvm.Cond.code ({ cls := "com/example/packwise/packwise/BlockSize", name := "blockCount", desc := "(JI)J" } : Jvm.MethodName) prog_5_method_3_code (5 : Nat) (Option.some Jvm.ClassFile.FieldType.long)).before args0 about1 = true := code_word (m := ⟨2, 1⟩) (meth := k2m1) (c := k2c1) (by decide +kernel) rfl rfl rfl (by decide +kernel)
def codes1 : List Jvm.Cond := [Jvm.Cond.code x code maxLocals ret, Jvm.Cond.code ({ cls := "com/example/packwise/packwise/BlockSize", name := "blockCount", desc := "(JI)J" } : Jvm.MethodName) prog_5_method_3_code (5 : Nat) (Option.some Jvm.ClassFile.FieldType.long)]
set_option maxRecDepth 65536 in
theorem codes_eq : words1.filter isCode = codes1 := rfl
theorem w_codes : ∀ c ∈ words1.filter isCode, c.before args0 about1 = true := by
  rw [codes_eq]
  intro c hc
  simp only [codes1, List.mem_cons, List.not_mem_nil, or_false] at hc
  rcases hc with rfl | rfl
  · exact w_c0
  · exact w_c1
set_option maxRecDepth 65536 in
theorem w_t1 : words1.all (fun c => isCode c || c.before args0 about1) = true := by decide +kernel
theorem w_tables : (allAtoms (Jvm.Cond.code x code maxLocals ret :: tables_1)).before args0 about1 = true := by
  rw [allAtoms_all]
  show words1.all (fun c => c.before args0 about1) = true
  refine all_split ?_ w_codes
  rw [w_t1]
set_option maxRecDepth 65536 in
theorem w_case : (Jvm.Cond.and given_1 narrow_1).before args0 about1 = true := by decide +kernel
theorem w_applies : (headSpec (Jvm.Cond.code x code maxLocals ret :: tables_1) room_1).applies x e0.platform about1 = true :=
  (Spec.applies_iff w_frames).mpr ⟨w_running, w_runnable, w_alone, w_named, w_hears, w_ripe, w_room, w_tables⟩
theorem atStart : AtStart classFile x code maxLocals ret World_1 tables_1 room_1 Calls_1 rest_1 Pre_1 launch0 p0 e0 about1 theMethod args0 below0 :=
  ⟨lists_1, trivial, launch0.admits_env _ _ _, launch0.least_env, fairChoices_fair.cas, fairChoices_fair.clock, w_frames, w_args, w_heap, w_applies, trivial, trivial, w_case⟩
end start1
theorem witness_1 : WitnessClaimed_1 := ⟨start1.p0, start1.e0, start1.about1, start1.theMethod, start1.args0, start1.below0, start1.atStart⟩
end Jvm.Pilot.@@N@@
