import JvmDerived
import JvmDerived.Pilot.@@N@@Statement
import JvmDerived.Pilot.@@N@@Code
set_option linter.unusedVariables false
set_option linter.unusedSimpArgs false
namespace Jvm.RoadKit
open Sem ClassFile Op Lib Jvm.Stand Jvm.Free Jvm.LawKit
section New
variable {p : Program} {l : Launch} {e : Env} {R : Room} {s : State} {m : MethodId} {args : Array Value} {below : List Frame} {meth : Method} {c : Code} {T : State} {locs : List Loc} {cells slots : Nat}
theorem retI (X : Stand p l e R s m args below meth c T locs cells slots) (hx : p.tables.exec = Jvm.exec) {pc : Nat} {Ls : Array Slot} {z : Int32} {rest : List Value} (hret : meth.sig.returnType = some .int) (hd : decode c.code pc = .ok (.ireturn, 1)) {fs : List Frame}
    (hl : ∀ (f : JFrame) (acts : List Action), f.method = m → f.locked = none → f.entered = [] → (doReturn e (T.setTop f) acts (some (.int z))).1 = T.setFrames fs) : Steps p.tables e below (T.setTop (mkF m pc Ls (.int z :: rest))) (T.setFrames fs) := by
  have hm' : T.vm.method? m = some meth := X.method'
  have hn : narrow .int (.int z) = .int z := rfl
  show Steps p.tables e below (T.setTop { method := m, pc := pc, locals := Ls, stack := _ :: rest, locked := none }) _
  jvm_step X.here [X.here.top, hx, hd, hm', hret, hn]
  first | (intro acts; rw [hl _ acts rfl rfl rfl]) | rw [hl _ _ rfl rfl rfl]
  exact Steps.refl _
end New
end Jvm.RoadKit
namespace Jvm.Pilot.@@N@@
open Jvm Jvm.ClassFile Sem Op Lib Jvm.Free Jvm.Stand Jvm.LawKit Jvm.RoadKit Bundle Jvm.Pilot.@@N@@.Jvm.D
theorem pd0 : parseMethodDescriptor "(IIIIIII)V" = some ⟨[.int, .int, .int, .int, .int, .int, .int], none⟩ := by decide +kernel
theorem pd1 : parseMethodDescriptor "(II)I" = some ⟨[.int, .int], some .int⟩ := by decide +kernel
theorem d1_0 : decode prog_18_method_1_code 0 = .ok (.aload_n 0, 1) := by decide +kernel
theorem d1_1 : decode prog_18_method_1_code 1 = .ok (.invokespecial 1, 3) := by decide +kernel
theorem d1_4 : decode prog_18_method_1_code 4 = .ok (.aload_n 0, 1) := by decide +kernel
theorem d1_5 : decode prog_18_method_1_code 5 = .ok (.iload_n 1, 1) := by decide +kernel
theorem d1_6 : decode prog_18_method_1_code 6 = .ok (.putfield 7, 3) := by decide +kernel
theorem d1_9 : decode prog_18_method_1_code 9 = .ok (.aload_n 0, 1) := by decide +kernel
theorem d1_10 : decode prog_18_method_1_code 10 = .ok (.iload_n 2, 1) := by decide +kernel
theorem d1_11 : decode prog_18_method_1_code 11 = .ok (.putfield 13, 3) := by decide +kernel
theorem d1_14 : decode prog_18_method_1_code 14 = .ok (.aload_n 0, 1) := by decide +kernel
theorem d1_15 : decode prog_18_method_1_code 15 = .ok (.iload_n 3, 1) := by decide +kernel
theorem d1_16 : decode prog_18_method_1_code 16 = .ok (.putfield 16, 3) := by decide +kernel
theorem d1_19 : decode prog_18_method_1_code 19 = .ok (.aload_n 0, 1) := by decide +kernel
theorem d1_20 : decode prog_18_method_1_code 20 = .ok (.iload 4, 2) := by decide +kernel
theorem d1_22 : decode prog_18_method_1_code 22 = .ok (.putfield 19, 3) := by decide +kernel
theorem d1_25 : decode prog_18_method_1_code 25 = .ok (.aload_n 0, 1) := by decide +kernel
theorem d1_26 : decode prog_18_method_1_code 26 = .ok (.iload 5, 2) := by decide +kernel
theorem d1_28 : decode prog_18_method_1_code 28 = .ok (.putfield 22, 3) := by decide +kernel
theorem d1_31 : decode prog_18_method_1_code 31 = .ok (.aload_n 0, 1) := by decide +kernel
theorem d1_32 : decode prog_18_method_1_code 32 = .ok (.iload 6, 2) := by decide +kernel
theorem d1_34 : decode prog_18_method_1_code 34 = .ok (.putfield 25, 3) := by decide +kernel
theorem d1_37 : decode prog_18_method_1_code 37 = .ok (.aload_n 0, 1) := by decide +kernel
theorem d1_38 : decode prog_18_method_1_code 38 = .ok (.iload 7, 2) := by decide +kernel
theorem d1_40 : decode prog_18_method_1_code 40 = .ok (.putfield 28, 3) := by decide +kernel
theorem d1_43 : decode prog_18_method_1_code 43 = .ok (.aload_n 0, 1) := by decide +kernel
theorem d1_44 : decode prog_18_method_1_code 44 = .ok (.iload 7, 2) := by decide +kernel
theorem d1_46 : decode prog_18_method_1_code 46 = .ok (.iconst 1, 1) := by decide +kernel
theorem d1_47 : decode prog_18_method_1_code 47 = .ok (.iadd, 1) := by decide +kernel
theorem d1_48 : decode prog_18_method_1_code 48 = .ok (.putfield 31, 3) := by decide +kernel
theorem d1_51 : decode prog_18_method_1_code 51 = .ok (.aload_n 0, 1) := by decide +kernel
theorem d1_52 : decode prog_18_method_1_code 52 = .ok (.iload_n 3, 1) := by decide +kernel
theorem d1_53 : decode prog_18_method_1_code 53 = .ok (.iload 5, 2) := by decide +kernel
theorem d1_55 : decode prog_18_method_1_code 55 = .ok (.imul, 1) := by decide +kernel
theorem d1_56 : decode prog_18_method_1_code 56 = .ok (.aload_n 0, 1) := by decide +kernel
theorem d1_57 : decode prog_18_method_1_code 57 = .ok (.getfield 31, 3) := by decide +kernel
theorem d1_60 : decode prog_18_method_1_code 60 = .ok (.imul, 1) := by decide +kernel
theorem d1_61 : decode prog_18_method_1_code 61 = .ok (.putfield 34, 3) := by decide +kernel
theorem d1_64 : decode prog_18_method_1_code 64 = .ok (.return_, 1) := by decide +kernel
theorem pn_1 : plainName "com/example/kent_ridge/kentridge/HangulSyllables" = true := by first | (simp [plainName, overriddenIn]; done) | decide +kernel
theorem ef_1 (m : MethodId) (r0 : Addr) (p1 : Int32) (p2 : Int32) (p3 : Int32) (p4 : Int32) (p5 : Int32) (p6 : Int32) (p7 : Int32) : entryFrame m #[(.ref r0), (.int p1), (.int p2), (.int p3), (.int p4), (.int p5), (.int p6), (.int p7)] 8 = mkF m 0 #[.val (.ref r0), .val (.int p1), .val (.int p2), .val (.int p3), .val (.int p4), .val (.int p5), .val (.int p6), .val (.int p7)] [] := by first | (simp [entryFrame, mkF, argsToLocals, Value.category]; done) | rfl
def Q_rm1 (Z : State) (r0 : Addr) (p1 : Int32) (p2 : Int32) (p3 : Int32) (p4 : Int32) (p5 : Int32) (p6 : Int32) (p7 : Int32) (h0 : Heap) (n0 : Nat) (v : Option Value) (h : Heap) (L : List Loc) : Prop := (v = none ∧ Fr n0 L ∧ Keep h0 h [r0] ∧ Exa Z h r0 "com/example/kent_ridge/kentridge/HangulSyllables" ∧ Fld Z h r0 "com/example/kent_ridge/kentridge/HangulSyllables" "firstSyllable" "I" (.int p1) ∧ Fld Z h r0 "com/example/kent_ridge/kentridge/HangulSyllables" "firstLead" "I" (.int p2) ∧ Fld Z h r0 "com/example/kent_ridge/kentridge/HangulSyllables" "leadCount" "I" (.int p3) ∧ Fld Z h r0 "com/example/kent_ridge/kentridge/HangulSyllables" "firstVowel" "I" (.int p4) ∧ Fld Z h r0 "com/example/kent_ridge/kentridge/HangulSyllables" "vowelCount" "I" (.int p5) ∧ Fld Z h r0 "com/example/kent_ridge/kentridge/HangulSyllables" "firstTrail" "I" (.int p6) ∧ Fld Z h r0 "com/example/kent_ridge/kentridge/HangulSyllables" "trailCount" "I" (.int p7) ∧ Fld Z h r0 "com/example/kent_ridge/kentridge/HangulSyllables" "trailStates" "I" (.int (p7 + (1 : Int32))) ∧ Fld Z h r0 "com/example/kent_ridge/kentridge/HangulSyllables" "syllableCount" "I" (.int ((p3 * p5) * (p7 + (1 : Int32)))))
set_option maxRecDepth 65536 in
set_option maxHeartbeats 40000000 in
theorem rm1 (l : Launch) (Z : State) (a0 : Array Value) (hw : ∀ d ∈ tables_1, d.before a0 Z = true) (ws : List Jvm.Cond) (r0 : Addr) (p1 : Int32) (p2 : Int32) (p3 : Int32) (p4 : Int32) (p5 : Int32) (p6 : Int32) (p7 : Int32) (h0 : Heap) (n0 : Nat) (Z0 : n0 ≤ h0.size) (E0 : Exa Z h0 r0 "com/example/kent_ridge/kentridge/HangulSyllables") (F0_firstSyllable : Fld Z h0 r0 "com/example/kent_ridge/kentridge/HangulSyllables" "firstSyllable" "I" (.int (0 : Int32))) (F0_firstLead : Fld Z h0 r0 "com/example/kent_ridge/kentridge/HangulSyllables" "firstLead" "I" (.int (0 : Int32))) (F0_leadCount : Fld Z h0 r0 "com/example/kent_ridge/kentridge/HangulSyllables" "leadCount" "I" (.int (0 : Int32))) (F0_firstVowel : Fld Z h0 r0 "com/example/kent_ridge/kentridge/HangulSyllables" "firstVowel" "I" (.int (0 : Int32))) (F0_vowelCount : Fld Z h0 r0 "com/example/kent_ridge/kentridge/HangulSyllables" "vowelCount" "I" (.int (0 : Int32))) (F0_firstTrail : Fld Z h0 r0 "com/example/kent_ridge/kentridge/HangulSyllables" "firstTrail" "I" (.int (0 : Int32))) (F0_trailCount : Fld Z h0 r0 "com/example/kent_ridge/kentridge/HangulSyllables" "trailCount" "I" (.int (0 : Int32))) (F0_trailStates : Fld Z h0 r0 "com/example/kent_ridge/kentridge/HangulSyllables" "trailStates" "I" (.int (0 : Int32))) (F0_syllableCount : Fld Z h0 r0 "com/example/kent_ridge/kentridge/HangulSyllables" "syllableCount" "I" (.int (0 : Int32))) (G0 : n0 ≤ r0) :
    MetFree l (⟨"com/example/kent_ridge/kentridge/HangulSyllables", "<init>", "(IIIIIII)V"⟩ : MethodName) (head1 (Jvm.Cond.code (⟨"com/example/kent_ridge/kentridge/HangulSyllables", "<init>", "(IIIIIII)V"⟩ : MethodName) prog_18_method_1_code 8 none :: ws) ({ frames := 1, cells := 0, slots := 0, locals := 12 } : Room)) (fun a U => a = #[(.ref r0), (.int p1), (.int p2), (.int p3), (.int p4), (.int p5), (.int p6), (.int p7)] ∧ Z.Warmed39 U.vm ∧ U.heap = h0) (fun _ _ _ _ _ => True) (fun _ U o U' => ∃ v L, o = .returned v ∧ Q_rm1 Z r0 p1 p2 p3 p4 p5 p6 p7 h0 n0 v U'.heap L ∧ FrameEnd U o U' L ({ frames := 1, cells := 0, slots := 0, locals := 12 } : Room).cells ({ frames := 1, cells := 0, slots := 0, locals := 12 } : Room).slots) := by
  refine MetFree.of_bodySF (plainFor_of_name pn_1) hisR ?_
  intro p e s m args below meth c s₁ Bd hml0 hP hK
  obtain ⟨rfl, hZ, hh⟩ := hP
  have hx := Bd.exec
  have hby := Bd.bytes
  have hml : c.maxLocals = 8 := hml0
  have hown : s.vm.findClass "com/example/kent_ridge/kentridge/HangulSyllables" = some m.cls := findClass_of_methodNamed Bd.named
  have hnm := (name_of_methodNamed Bd.named Bd.method).1
  have X0 : Stand p l e ({ frames := 1, cells := 0, slots := 0, locals := 12 } : Room) s m #[(.ref r0), (.int p1), (.int p2), (.int p3), (.int p4), (.int p5), (.int p6), (.int p7)] below meth c s₁ [] 0 0 := Stand.of_body Bd
  have e0 : s₁.heap = h0 := by rw [← hh, Bd.state]; rfl
  have N0 := Fr.nil n0
  have pre0 : ∀ t, Steps p.tables e below (s₁.setTop (mkF m 0 #[.val (.ref r0), .val (.int p1), .val (.int p2), .val (.int p3), .val (.int p4), .val (.int p5), .val (.int p6), .val (.int p7)] [])) t → Steps p.tables e below (s₁.setTop (entryFrame m #[(.ref r0), (.int p1), (.int p2), (.int p3), (.int p4), (.int p5), (.int p6), (.int p7)] 8)) t := fun t k => castTop (ef_1 m r0 p1 p2 p3 p4 p5 p6 p7) k
  obtain ⟨T1, X1, e1, st1⟩ := initO X0 hx hZ hown (hw _ (List.mem_of_getElem? (i := 7) rfl)) (hw _ (List.mem_of_getElem? (i := 8) rfl)) (hw _ (List.mem_of_getElem? (i := 9) rfl)) e0 (g := (mkF m 1 #[.val (.ref r0), .val (.int p1), .val (.int p2), .val (.int p3), .val (.int p4), .val (.int p5), .val (.int p6), .val (.int p7)] [(.ref r0)])) rfl (by rw [hml]; rfl) rfl (hb hby d1_1) (by decide) (W := 0) (by show 2 * 0 + _ ≤ _; exact Nat.le_of_eq rfl) (by decide)
  obtain ⟨T2, h2, X2, e2, W2, st2⟩ := putF X1 hx hZ hown (host := "") (Or.inl (hw _ (List.mem_of_getElem? (i := 10) rfl))) Via.refl e1 F0_firstSyllable E0 (Or.inr ⟨(hw _ (List.mem_of_getElem? (i := 11) rfl)), rfl, hnm⟩) (hw _ (List.mem_of_getElem? (i := 1) rfl)) (ty := .int) (by decide) rfl rfl (g := (mkF m 6 #[.val (.ref r0), .val (.int p1), .val (.int p2), .val (.int p3), .val (.int p4), .val (.int p5), .val (.int p6), .val (.int p7)] [(.int p1), (.ref r0)])) rfl rfl (hb hby d1_6)
  have Fw2 : Fld Z h2 r0 "com/example/kent_ridge/kentridge/HangulSyllables" "firstSyllable" "I" (.int p1) := F0_firstSyllable.same W2
  have N2 := Fr.snoc X2 N0 G0
  have f2_E_r0 : Exa Z h2 r0 "com/example/kent_ridge/kentridge/HangulSyllables" := E0.wr W2
  have f2_K : Keep h0 h2 [r0] := (Keep.refl h0 [r0]).wr W2 (Or.inl (List.mem_of_getElem? (i := 0) rfl))
  have f2_F_r0_firstLead : Fld Z h2 r0 "com/example/kent_ridge/kentridge/HangulSyllables" "firstLead" "I" (.int (0 : Int32)) := F0_firstLead.other W2 (Or.inr (slot_ne (Or.inr (hw _ (List.mem_of_getElem? (i := 13) rfl))) (Or.inr (hw _ (List.mem_of_getElem? (i := 11) rfl))) (by decide) (t := .int) (t' := .int) (by decide) (by decide)))
  have f2_F_r0_leadCount : Fld Z h2 r0 "com/example/kent_ridge/kentridge/HangulSyllables" "leadCount" "I" (.int (0 : Int32)) := F0_leadCount.other W2 (Or.inr (slot_ne (Or.inr (hw _ (List.mem_of_getElem? (i := 15) rfl))) (Or.inr (hw _ (List.mem_of_getElem? (i := 11) rfl))) (by decide) (t := .int) (t' := .int) (by decide) (by decide)))
  have f2_F_r0_firstVowel : Fld Z h2 r0 "com/example/kent_ridge/kentridge/HangulSyllables" "firstVowel" "I" (.int (0 : Int32)) := F0_firstVowel.other W2 (Or.inr (slot_ne (Or.inr (hw _ (List.mem_of_getElem? (i := 17) rfl))) (Or.inr (hw _ (List.mem_of_getElem? (i := 11) rfl))) (by decide) (t := .int) (t' := .int) (by decide) (by decide)))
  have f2_F_r0_vowelCount : Fld Z h2 r0 "com/example/kent_ridge/kentridge/HangulSyllables" "vowelCount" "I" (.int (0 : Int32)) := F0_vowelCount.other W2 (Or.inr (slot_ne (Or.inr (hw _ (List.mem_of_getElem? (i := 19) rfl))) (Or.inr (hw _ (List.mem_of_getElem? (i := 11) rfl))) (by decide) (t := .int) (t' := .int) (by decide) (by decide)))
  have f2_F_r0_firstTrail : Fld Z h2 r0 "com/example/kent_ridge/kentridge/HangulSyllables" "firstTrail" "I" (.int (0 : Int32)) := F0_firstTrail.other W2 (Or.inr (slot_ne (Or.inr (hw _ (List.mem_of_getElem? (i := 21) rfl))) (Or.inr (hw _ (List.mem_of_getElem? (i := 11) rfl))) (by decide) (t := .int) (t' := .int) (by decide) (by decide)))
  have f2_F_r0_trailCount : Fld Z h2 r0 "com/example/kent_ridge/kentridge/HangulSyllables" "trailCount" "I" (.int (0 : Int32)) := F0_trailCount.other W2 (Or.inr (slot_ne (Or.inr (hw _ (List.mem_of_getElem? (i := 23) rfl))) (Or.inr (hw _ (List.mem_of_getElem? (i := 11) rfl))) (by decide) (t := .int) (t' := .int) (by decide) (by decide)))
  have f2_F_r0_trailStates : Fld Z h2 r0 "com/example/kent_ridge/kentridge/HangulSyllables" "trailStates" "I" (.int (0 : Int32)) := F0_trailStates.other W2 (Or.inr (slot_ne (Or.inr (hw _ (List.mem_of_getElem? (i := 25) rfl))) (Or.inr (hw _ (List.mem_of_getElem? (i := 11) rfl))) (by decide) (t := .int) (t' := .int) (by decide) (by decide)))
  have f2_F_r0_syllableCount : Fld Z h2 r0 "com/example/kent_ridge/kentridge/HangulSyllables" "syllableCount" "I" (.int (0 : Int32)) := F0_syllableCount.other W2 (Or.inr (slot_ne (Or.inr (hw _ (List.mem_of_getElem? (i := 27) rfl))) (Or.inr (hw _ (List.mem_of_getElem? (i := 11) rfl))) (by decide) (t := .int) (t' := .int) (by decide) (by decide)))
  have Z2 : n0 ≤ Array.size h2 := Nat.le_trans Z0 (Keep.of_wr W2).1
  obtain ⟨T3, h3, X3, e3, W3, st3⟩ := putF X2 hx hZ hown (host := "") (Or.inl (hw _ (List.mem_of_getElem? (i := 12) rfl))) Via.refl e2 f2_F_r0_firstLead f2_E_r0 (Or.inr ⟨(hw _ (List.mem_of_getElem? (i := 13) rfl)), rfl, hnm⟩) (hw _ (List.mem_of_getElem? (i := 1) rfl)) (ty := .int) (by decide) rfl rfl (g := (mkF m 11 #[.val (.ref r0), .val (.int p1), .val (.int p2), .val (.int p3), .val (.int p4), .val (.int p5), .val (.int p6), .val (.int p7)] [(.int p2), (.ref r0)])) rfl rfl (hb hby d1_11)
  have Fw3 : Fld Z h3 r0 "com/example/kent_ridge/kentridge/HangulSyllables" "firstLead" "I" (.int p2) := f2_F_r0_firstLead.same W3
  have N3 := Fr.snoc X3 N2 G0
  have f3_E_r0 : Exa Z h3 r0 "com/example/kent_ridge/kentridge/HangulSyllables" := f2_E_r0.wr W3
  have f3_K : Keep h0 h3 [r0] := f2_K.wr W3 (Or.inl (List.mem_of_getElem? (i := 0) rfl))
  have f3_F_r0_firstSyllable : Fld Z h3 r0 "com/example/kent_ridge/kentridge/HangulSyllables" "firstSyllable" "I" (.int p1) := Fw2.other W3 (Or.inr (slot_ne (Or.inr (hw _ (List.mem_of_getElem? (i := 11) rfl))) (Or.inr (hw _ (List.mem_of_getElem? (i := 13) rfl))) (by decide) (t := .int) (t' := .int) (by decide) (by decide)))
  have f3_F_r0_leadCount : Fld Z h3 r0 "com/example/kent_ridge/kentridge/HangulSyllables" "leadCount" "I" (.int (0 : Int32)) := f2_F_r0_leadCount.other W3 (Or.inr (slot_ne (Or.inr (hw _ (List.mem_of_getElem? (i := 15) rfl))) (Or.inr (hw _ (List.mem_of_getElem? (i := 13) rfl))) (by decide) (t := .int) (t' := .int) (by decide) (by decide)))
  have f3_F_r0_firstVowel : Fld Z h3 r0 "com/example/kent_ridge/kentridge/HangulSyllables" "firstVowel" "I" (.int (0 : Int32)) := f2_F_r0_firstVowel.other W3 (Or.inr (slot_ne (Or.inr (hw _ (List.mem_of_getElem? (i := 17) rfl))) (Or.inr (hw _ (List.mem_of_getElem? (i := 13) rfl))) (by decide) (t := .int) (t' := .int) (by decide) (by decide)))
  have f3_F_r0_vowelCount : Fld Z h3 r0 "com/example/kent_ridge/kentridge/HangulSyllables" "vowelCount" "I" (.int (0 : Int32)) := f2_F_r0_vowelCount.other W3 (Or.inr (slot_ne (Or.inr (hw _ (List.mem_of_getElem? (i := 19) rfl))) (Or.inr (hw _ (List.mem_of_getElem? (i := 13) rfl))) (by decide) (t := .int) (t' := .int) (by decide) (by decide)))
  have f3_F_r0_firstTrail : Fld Z h3 r0 "com/example/kent_ridge/kentridge/HangulSyllables" "firstTrail" "I" (.int (0 : Int32)) := f2_F_r0_firstTrail.other W3 (Or.inr (slot_ne (Or.inr (hw _ (List.mem_of_getElem? (i := 21) rfl))) (Or.inr (hw _ (List.mem_of_getElem? (i := 13) rfl))) (by decide) (t := .int) (t' := .int) (by decide) (by decide)))
  have f3_F_r0_trailCount : Fld Z h3 r0 "com/example/kent_ridge/kentridge/HangulSyllables" "trailCount" "I" (.int (0 : Int32)) := f2_F_r0_trailCount.other W3 (Or.inr (slot_ne (Or.inr (hw _ (List.mem_of_getElem? (i := 23) rfl))) (Or.inr (hw _ (List.mem_of_getElem? (i := 13) rfl))) (by decide) (t := .int) (t' := .int) (by decide) (by decide)))
  have f3_F_r0_trailStates : Fld Z h3 r0 "com/example/kent_ridge/kentridge/HangulSyllables" "trailStates" "I" (.int (0 : Int32)) := f2_F_r0_trailStates.other W3 (Or.inr (slot_ne (Or.inr (hw _ (List.mem_of_getElem? (i := 25) rfl))) (Or.inr (hw _ (List.mem_of_getElem? (i := 13) rfl))) (by decide) (t := .int) (t' := .int) (by decide) (by decide)))
  have f3_F_r0_syllableCount : Fld Z h3 r0 "com/example/kent_ridge/kentridge/HangulSyllables" "syllableCount" "I" (.int (0 : Int32)) := f2_F_r0_syllableCount.other W3 (Or.inr (slot_ne (Or.inr (hw _ (List.mem_of_getElem? (i := 27) rfl))) (Or.inr (hw _ (List.mem_of_getElem? (i := 13) rfl))) (by decide) (t := .int) (t' := .int) (by decide) (by decide)))
  have Z3 : n0 ≤ Array.size h3 := Nat.le_trans Z2 (Keep.of_wr W3).1
  obtain ⟨T4, h4, X4, e4, W4, st4⟩ := putF X3 hx hZ hown (host := "") (Or.inl (hw _ (List.mem_of_getElem? (i := 14) rfl))) Via.refl e3 f3_F_r0_leadCount f3_E_r0 (Or.inr ⟨(hw _ (List.mem_of_getElem? (i := 15) rfl)), rfl, hnm⟩) (hw _ (List.mem_of_getElem? (i := 1) rfl)) (ty := .int) (by decide) rfl rfl (g := (mkF m 16 #[.val (.ref r0), .val (.int p1), .val (.int p2), .val (.int p3), .val (.int p4), .val (.int p5), .val (.int p6), .val (.int p7)] [(.int p3), (.ref r0)])) rfl rfl (hb hby d1_16)
  have Fw4 : Fld Z h4 r0 "com/example/kent_ridge/kentridge/HangulSyllables" "leadCount" "I" (.int p3) := f3_F_r0_leadCount.same W4
  have N4 := Fr.snoc X4 N3 G0
  have f4_E_r0 : Exa Z h4 r0 "com/example/kent_ridge/kentridge/HangulSyllables" := f3_E_r0.wr W4
  have f4_K : Keep h0 h4 [r0] := f3_K.wr W4 (Or.inl (List.mem_of_getElem? (i := 0) rfl))
  have f4_F_r0_firstSyllable : Fld Z h4 r0 "com/example/kent_ridge/kentridge/HangulSyllables" "firstSyllable" "I" (.int p1) := f3_F_r0_firstSyllable.other W4 (Or.inr (slot_ne (Or.inr (hw _ (List.mem_of_getElem? (i := 11) rfl))) (Or.inr (hw _ (List.mem_of_getElem? (i := 15) rfl))) (by decide) (t := .int) (t' := .int) (by decide) (by decide)))
  have f4_F_r0_firstLead : Fld Z h4 r0 "com/example/kent_ridge/kentridge/HangulSyllables" "firstLead" "I" (.int p2) := Fw3.other W4 (Or.inr (slot_ne (Or.inr (hw _ (List.mem_of_getElem? (i := 13) rfl))) (Or.inr (hw _ (List.mem_of_getElem? (i := 15) rfl))) (by decide) (t := .int) (t' := .int) (by decide) (by decide)))
  have f4_F_r0_firstVowel : Fld Z h4 r0 "com/example/kent_ridge/kentridge/HangulSyllables" "firstVowel" "I" (.int (0 : Int32)) := f3_F_r0_firstVowel.other W4 (Or.inr (slot_ne (Or.inr (hw _ (List.mem_of_getElem? (i := 17) rfl))) (Or.inr (hw _ (List.mem_of_getElem? (i := 15) rfl))) (by decide) (t := .int) (t' := .int) (by decide) (by decide)))
  have f4_F_r0_vowelCount : Fld Z h4 r0 "com/example/kent_ridge/kentridge/HangulSyllables" "vowelCount" "I" (.int (0 : Int32)) := f3_F_r0_vowelCount.other W4 (Or.inr (slot_ne (Or.inr (hw _ (List.mem_of_getElem? (i := 19) rfl))) (Or.inr (hw _ (List.mem_of_getElem? (i := 15) rfl))) (by decide) (t := .int) (t' := .int) (by decide) (by decide)))
  have f4_F_r0_firstTrail : Fld Z h4 r0 "com/example/kent_ridge/kentridge/HangulSyllables" "firstTrail" "I" (.int (0 : Int32)) := f3_F_r0_firstTrail.other W4 (Or.inr (slot_ne (Or.inr (hw _ (List.mem_of_getElem? (i := 21) rfl))) (Or.inr (hw _ (List.mem_of_getElem? (i := 15) rfl))) (by decide) (t := .int) (t' := .int) (by decide) (by decide)))
  have f4_F_r0_trailCount : Fld Z h4 r0 "com/example/kent_ridge/kentridge/HangulSyllables" "trailCount" "I" (.int (0 : Int32)) := f3_F_r0_trailCount.other W4 (Or.inr (slot_ne (Or.inr (hw _ (List.mem_of_getElem? (i := 23) rfl))) (Or.inr (hw _ (List.mem_of_getElem? (i := 15) rfl))) (by decide) (t := .int) (t' := .int) (by decide) (by decide)))
  have f4_F_r0_trailStates : Fld Z h4 r0 "com/example/kent_ridge/kentridge/HangulSyllables" "trailStates" "I" (.int (0 : Int32)) := f3_F_r0_trailStates.other W4 (Or.inr (slot_ne (Or.inr (hw _ (List.mem_of_getElem? (i := 25) rfl))) (Or.inr (hw _ (List.mem_of_getElem? (i := 15) rfl))) (by decide) (t := .int) (t' := .int) (by decide) (by decide)))
  have f4_F_r0_syllableCount : Fld Z h4 r0 "com/example/kent_ridge/kentridge/HangulSyllables" "syllableCount" "I" (.int (0 : Int32)) := f3_F_r0_syllableCount.other W4 (Or.inr (slot_ne (Or.inr (hw _ (List.mem_of_getElem? (i := 27) rfl))) (Or.inr (hw _ (List.mem_of_getElem? (i := 15) rfl))) (by decide) (t := .int) (t' := .int) (by decide) (by decide)))
  have Z4 : n0 ≤ Array.size h4 := Nat.le_trans Z3 (Keep.of_wr W4).1
  obtain ⟨T5, h5, X5, e5, W5, st5⟩ := putF X4 hx hZ hown (host := "") (Or.inl (hw _ (List.mem_of_getElem? (i := 16) rfl))) Via.refl e4 f4_F_r0_firstVowel f4_E_r0 (Or.inr ⟨(hw _ (List.mem_of_getElem? (i := 17) rfl)), rfl, hnm⟩) (hw _ (List.mem_of_getElem? (i := 1) rfl)) (ty := .int) (by decide) rfl rfl (g := (mkF m 22 #[.val (.ref r0), .val (.int p1), .val (.int p2), .val (.int p3), .val (.int p4), .val (.int p5), .val (.int p6), .val (.int p7)] [(.int p4), (.ref r0)])) rfl rfl (hb hby d1_22)
  have Fw5 : Fld Z h5 r0 "com/example/kent_ridge/kentridge/HangulSyllables" "firstVowel" "I" (.int p4) := f4_F_r0_firstVowel.same W5
  have N5 := Fr.snoc X5 N4 G0
  have f5_E_r0 : Exa Z h5 r0 "com/example/kent_ridge/kentridge/HangulSyllables" := f4_E_r0.wr W5
  have f5_K : Keep h0 h5 [r0] := f4_K.wr W5 (Or.inl (List.mem_of_getElem? (i := 0) rfl))
  have f5_F_r0_firstSyllable : Fld Z h5 r0 "com/example/kent_ridge/kentridge/HangulSyllables" "firstSyllable" "I" (.int p1) := f4_F_r0_firstSyllable.other W5 (Or.inr (slot_ne (Or.inr (hw _ (List.mem_of_getElem? (i := 11) rfl))) (Or.inr (hw _ (List.mem_of_getElem? (i := 17) rfl))) (by decide) (t := .int) (t' := .int) (by decide) (by decide)))
  have f5_F_r0_firstLead : Fld Z h5 r0 "com/example/kent_ridge/kentridge/HangulSyllables" "firstLead" "I" (.int p2) := f4_F_r0_firstLead.other W5 (Or.inr (slot_ne (Or.inr (hw _ (List.mem_of_getElem? (i := 13) rfl))) (Or.inr (hw _ (List.mem_of_getElem? (i := 17) rfl))) (by decide) (t := .int) (t' := .int) (by decide) (by decide)))
  have f5_F_r0_leadCount : Fld Z h5 r0 "com/example/kent_ridge/kentridge/HangulSyllables" "leadCount" "I" (.int p3) := Fw4.other W5 (Or.inr (slot_ne (Or.inr (hw _ (List.mem_of_getElem? (i := 15) rfl))) (Or.inr (hw _ (List.mem_of_getElem? (i := 17) rfl))) (by decide) (t := .int) (t' := .int) (by decide) (by decide)))
  have f5_F_r0_vowelCount : Fld Z h5 r0 "com/example/kent_ridge/kentridge/HangulSyllables" "vowelCount" "I" (.int (0 : Int32)) := f4_F_r0_vowelCount.other W5 (Or.inr (slot_ne (Or.inr (hw _ (List.mem_of_getElem? (i := 19) rfl))) (Or.inr (hw _ (List.mem_of_getElem? (i := 17) rfl))) (by decide) (t := .int) (t' := .int) (by decide) (by decide)))
  have f5_F_r0_firstTrail : Fld Z h5 r0 "com/example/kent_ridge/kentridge/HangulSyllables" "firstTrail" "I" (.int (0 : Int32)) := f4_F_r0_firstTrail.other W5 (Or.inr (slot_ne (Or.inr (hw _ (List.mem_of_getElem? (i := 21) rfl))) (Or.inr (hw _ (List.mem_of_getElem? (i := 17) rfl))) (by decide) (t := .int) (t' := .int) (by decide) (by decide)))
  have f5_F_r0_trailCount : Fld Z h5 r0 "com/example/kent_ridge/kentridge/HangulSyllables" "trailCount" "I" (.int (0 : Int32)) := f4_F_r0_trailCount.other W5 (Or.inr (slot_ne (Or.inr (hw _ (List.mem_of_getElem? (i := 23) rfl))) (Or.inr (hw _ (List.mem_of_getElem? (i := 17) rfl))) (by decide) (t := .int) (t' := .int) (by decide) (by decide)))
  have f5_F_r0_trailStates : Fld Z h5 r0 "com/example/kent_ridge/kentridge/HangulSyllables" "trailStates" "I" (.int (0 : Int32)) := f4_F_r0_trailStates.other W5 (Or.inr (slot_ne (Or.inr (hw _ (List.mem_of_getElem? (i := 25) rfl))) (Or.inr (hw _ (List.mem_of_getElem? (i := 17) rfl))) (by decide) (t := .int) (t' := .int) (by decide) (by decide)))
  have f5_F_r0_syllableCount : Fld Z h5 r0 "com/example/kent_ridge/kentridge/HangulSyllables" "syllableCount" "I" (.int (0 : Int32)) := f4_F_r0_syllableCount.other W5 (Or.inr (slot_ne (Or.inr (hw _ (List.mem_of_getElem? (i := 27) rfl))) (Or.inr (hw _ (List.mem_of_getElem? (i := 17) rfl))) (by decide) (t := .int) (t' := .int) (by decide) (by decide)))
  have Z5 : n0 ≤ Array.size h5 := Nat.le_trans Z4 (Keep.of_wr W5).1
  obtain ⟨T6, h6, X6, e6, W6, st6⟩ := putF X5 hx hZ hown (host := "") (Or.inl (hw _ (List.mem_of_getElem? (i := 18) rfl))) Via.refl e5 f5_F_r0_vowelCount f5_E_r0 (Or.inr ⟨(hw _ (List.mem_of_getElem? (i := 19) rfl)), rfl, hnm⟩) (hw _ (List.mem_of_getElem? (i := 1) rfl)) (ty := .int) (by decide) rfl rfl (g := (mkF m 28 #[.val (.ref r0), .val (.int p1), .val (.int p2), .val (.int p3), .val (.int p4), .val (.int p5), .val (.int p6), .val (.int p7)] [(.int p5), (.ref r0)])) rfl rfl (hb hby d1_28)
  have Fw6 : Fld Z h6 r0 "com/example/kent_ridge/kentridge/HangulSyllables" "vowelCount" "I" (.int p5) := f5_F_r0_vowelCount.same W6
  have N6 := Fr.snoc X6 N5 G0
  have f6_E_r0 : Exa Z h6 r0 "com/example/kent_ridge/kentridge/HangulSyllables" := f5_E_r0.wr W6
  have f6_K : Keep h0 h6 [r0] := f5_K.wr W6 (Or.inl (List.mem_of_getElem? (i := 0) rfl))
  have f6_F_r0_firstSyllable : Fld Z h6 r0 "com/example/kent_ridge/kentridge/HangulSyllables" "firstSyllable" "I" (.int p1) := f5_F_r0_firstSyllable.other W6 (Or.inr (slot_ne (Or.inr (hw _ (List.mem_of_getElem? (i := 11) rfl))) (Or.inr (hw _ (List.mem_of_getElem? (i := 19) rfl))) (by decide) (t := .int) (t' := .int) (by decide) (by decide)))
  have f6_F_r0_firstLead : Fld Z h6 r0 "com/example/kent_ridge/kentridge/HangulSyllables" "firstLead" "I" (.int p2) := f5_F_r0_firstLead.other W6 (Or.inr (slot_ne (Or.inr (hw _ (List.mem_of_getElem? (i := 13) rfl))) (Or.inr (hw _ (List.mem_of_getElem? (i := 19) rfl))) (by decide) (t := .int) (t' := .int) (by decide) (by decide)))
  have f6_F_r0_leadCount : Fld Z h6 r0 "com/example/kent_ridge/kentridge/HangulSyllables" "leadCount" "I" (.int p3) := f5_F_r0_leadCount.other W6 (Or.inr (slot_ne (Or.inr (hw _ (List.mem_of_getElem? (i := 15) rfl))) (Or.inr (hw _ (List.mem_of_getElem? (i := 19) rfl))) (by decide) (t := .int) (t' := .int) (by decide) (by decide)))
  have f6_F_r0_firstVowel : Fld Z h6 r0 "com/example/kent_ridge/kentridge/HangulSyllables" "firstVowel" "I" (.int p4) := Fw5.other W6 (Or.inr (slot_ne (Or.inr (hw _ (List.mem_of_getElem? (i := 17) rfl))) (Or.inr (hw _ (List.mem_of_getElem? (i := 19) rfl))) (by decide) (t := .int) (t' := .int) (by decide) (by decide)))
  have f6_F_r0_firstTrail : Fld Z h6 r0 "com/example/kent_ridge/kentridge/HangulSyllables" "firstTrail" "I" (.int (0 : Int32)) := f5_F_r0_firstTrail.other W6 (Or.inr (slot_ne (Or.inr (hw _ (List.mem_of_getElem? (i := 21) rfl))) (Or.inr (hw _ (List.mem_of_getElem? (i := 19) rfl))) (by decide) (t := .int) (t' := .int) (by decide) (by decide)))
  have f6_F_r0_trailCount : Fld Z h6 r0 "com/example/kent_ridge/kentridge/HangulSyllables" "trailCount" "I" (.int (0 : Int32)) := f5_F_r0_trailCount.other W6 (Or.inr (slot_ne (Or.inr (hw _ (List.mem_of_getElem? (i := 23) rfl))) (Or.inr (hw _ (List.mem_of_getElem? (i := 19) rfl))) (by decide) (t := .int) (t' := .int) (by decide) (by decide)))
  have f6_F_r0_trailStates : Fld Z h6 r0 "com/example/kent_ridge/kentridge/HangulSyllables" "trailStates" "I" (.int (0 : Int32)) := f5_F_r0_trailStates.other W6 (Or.inr (slot_ne (Or.inr (hw _ (List.mem_of_getElem? (i := 25) rfl))) (Or.inr (hw _ (List.mem_of_getElem? (i := 19) rfl))) (by decide) (t := .int) (t' := .int) (by decide) (by decide)))
  have f6_F_r0_syllableCount : Fld Z h6 r0 "com/example/kent_ridge/kentridge/HangulSyllables" "syllableCount" "I" (.int (0 : Int32)) := f5_F_r0_syllableCount.other W6 (Or.inr (slot_ne (Or.inr (hw _ (List.mem_of_getElem? (i := 27) rfl))) (Or.inr (hw _ (List.mem_of_getElem? (i := 19) rfl))) (by decide) (t := .int) (t' := .int) (by decide) (by decide)))
  have Z6 : n0 ≤ Array.size h6 := Nat.le_trans Z5 (Keep.of_wr W6).1
  obtain ⟨T7, h7, X7, e7, W7, st7⟩ := putF X6 hx hZ hown (host := "") (Or.inl (hw _ (List.mem_of_getElem? (i := 20) rfl))) Via.refl e6 f6_F_r0_firstTrail f6_E_r0 (Or.inr ⟨(hw _ (List.mem_of_getElem? (i := 21) rfl)), rfl, hnm⟩) (hw _ (List.mem_of_getElem? (i := 1) rfl)) (ty := .int) (by decide) rfl rfl (g := (mkF m 34 #[.val (.ref r0), .val (.int p1), .val (.int p2), .val (.int p3), .val (.int p4), .val (.int p5), .val (.int p6), .val (.int p7)] [(.int p6), (.ref r0)])) rfl rfl (hb hby d1_34)
  have Fw7 : Fld Z h7 r0 "com/example/kent_ridge/kentridge/HangulSyllables" "firstTrail" "I" (.int p6) := f6_F_r0_firstTrail.same W7
  have N7 := Fr.snoc X7 N6 G0
  have f7_E_r0 : Exa Z h7 r0 "com/example/kent_ridge/kentridge/HangulSyllables" := f6_E_r0.wr W7
  have f7_K : Keep h0 h7 [r0] := f6_K.wr W7 (Or.inl (List.mem_of_getElem? (i := 0) rfl))
  have f7_F_r0_firstSyllable : Fld Z h7 r0 "com/example/kent_ridge/kentridge/HangulSyllables" "firstSyllable" "I" (.int p1) := f6_F_r0_firstSyllable.other W7 (Or.inr (slot_ne (Or.inr (hw _ (List.mem_of_getElem? (i := 11) rfl))) (Or.inr (hw _ (List.mem_of_getElem? (i := 21) rfl))) (by decide) (t := .int) (t' := .int) (by decide) (by decide)))
  have f7_F_r0_firstLead : Fld Z h7 r0 "com/example/kent_ridge/kentridge/HangulSyllables" "firstLead" "I" (.int p2) := f6_F_r0_firstLead.other W7 (Or.inr (slot_ne (Or.inr (hw _ (List.mem_of_getElem? (i := 13) rfl))) (Or.inr (hw _ (List.mem_of_getElem? (i := 21) rfl))) (by decide) (t := .int) (t' := .int) (by decide) (by decide)))
  have f7_F_r0_leadCount : Fld Z h7 r0 "com/example/kent_ridge/kentridge/HangulSyllables" "leadCount" "I" (.int p3) := f6_F_r0_leadCount.other W7 (Or.inr (slot_ne (Or.inr (hw _ (List.mem_of_getElem? (i := 15) rfl))) (Or.inr (hw _ (List.mem_of_getElem? (i := 21) rfl))) (by decide) (t := .int) (t' := .int) (by decide) (by decide)))
  have f7_F_r0_firstVowel : Fld Z h7 r0 "com/example/kent_ridge/kentridge/HangulSyllables" "firstVowel" "I" (.int p4) := f6_F_r0_firstVowel.other W7 (Or.inr (slot_ne (Or.inr (hw _ (List.mem_of_getElem? (i := 17) rfl))) (Or.inr (hw _ (List.mem_of_getElem? (i := 21) rfl))) (by decide) (t := .int) (t' := .int) (by decide) (by decide)))
  have f7_F_r0_vowelCount : Fld Z h7 r0 "com/example/kent_ridge/kentridge/HangulSyllables" "vowelCount" "I" (.int p5) := Fw6.other W7 (Or.inr (slot_ne (Or.inr (hw _ (List.mem_of_getElem? (i := 19) rfl))) (Or.inr (hw _ (List.mem_of_getElem? (i := 21) rfl))) (by decide) (t := .int) (t' := .int) (by decide) (by decide)))
  have f7_F_r0_trailCount : Fld Z h7 r0 "com/example/kent_ridge/kentridge/HangulSyllables" "trailCount" "I" (.int (0 : Int32)) := f6_F_r0_trailCount.other W7 (Or.inr (slot_ne (Or.inr (hw _ (List.mem_of_getElem? (i := 23) rfl))) (Or.inr (hw _ (List.mem_of_getElem? (i := 21) rfl))) (by decide) (t := .int) (t' := .int) (by decide) (by decide)))
  have f7_F_r0_trailStates : Fld Z h7 r0 "com/example/kent_ridge/kentridge/HangulSyllables" "trailStates" "I" (.int (0 : Int32)) := f6_F_r0_trailStates.other W7 (Or.inr (slot_ne (Or.inr (hw _ (List.mem_of_getElem? (i := 25) rfl))) (Or.inr (hw _ (List.mem_of_getElem? (i := 21) rfl))) (by decide) (t := .int) (t' := .int) (by decide) (by decide)))
  have f7_F_r0_syllableCount : Fld Z h7 r0 "com/example/kent_ridge/kentridge/HangulSyllables" "syllableCount" "I" (.int (0 : Int32)) := f6_F_r0_syllableCount.other W7 (Or.inr (slot_ne (Or.inr (hw _ (List.mem_of_getElem? (i := 27) rfl))) (Or.inr (hw _ (List.mem_of_getElem? (i := 21) rfl))) (by decide) (t := .int) (t' := .int) (by decide) (by decide)))
  have Z7 : n0 ≤ Array.size h7 := Nat.le_trans Z6 (Keep.of_wr W7).1
  obtain ⟨T8, h8, X8, e8, W8, st8⟩ := putF X7 hx hZ hown (host := "") (Or.inl (hw _ (List.mem_of_getElem? (i := 22) rfl))) Via.refl e7 f7_F_r0_trailCount f7_E_r0 (Or.inr ⟨(hw _ (List.mem_of_getElem? (i := 23) rfl)), rfl, hnm⟩) (hw _ (List.mem_of_getElem? (i := 1) rfl)) (ty := .int) (by decide) rfl rfl (g := (mkF m 40 #[.val (.ref r0), .val (.int p1), .val (.int p2), .val (.int p3), .val (.int p4), .val (.int p5), .val (.int p6), .val (.int p7)] [(.int p7), (.ref r0)])) rfl rfl (hb hby d1_40)
  have Fw8 : Fld Z h8 r0 "com/example/kent_ridge/kentridge/HangulSyllables" "trailCount" "I" (.int p7) := f7_F_r0_trailCount.same W8
  have N8 := Fr.snoc X8 N7 G0
  have f8_E_r0 : Exa Z h8 r0 "com/example/kent_ridge/kentridge/HangulSyllables" := f7_E_r0.wr W8
  have f8_K : Keep h0 h8 [r0] := f7_K.wr W8 (Or.inl (List.mem_of_getElem? (i := 0) rfl))
  have f8_F_r0_firstSyllable : Fld Z h8 r0 "com/example/kent_ridge/kentridge/HangulSyllables" "firstSyllable" "I" (.int p1) := f7_F_r0_firstSyllable.other W8 (Or.inr (slot_ne (Or.inr (hw _ (List.mem_of_getElem? (i := 11) rfl))) (Or.inr (hw _ (List.mem_of_getElem? (i := 23) rfl))) (by decide) (t := .int) (t' := .int) (by decide) (by decide)))
  have f8_F_r0_firstLead : Fld Z h8 r0 "com/example/kent_ridge/kentridge/HangulSyllables" "firstLead" "I" (.int p2) := f7_F_r0_firstLead.other W8 (Or.inr (slot_ne (Or.inr (hw _ (List.mem_of_getElem? (i := 13) rfl))) (Or.inr (hw _ (List.mem_of_getElem? (i := 23) rfl))) (by decide) (t := .int) (t' := .int) (by decide) (by decide)))
  have f8_F_r0_leadCount : Fld Z h8 r0 "com/example/kent_ridge/kentridge/HangulSyllables" "leadCount" "I" (.int p3) := f7_F_r0_leadCount.other W8 (Or.inr (slot_ne (Or.inr (hw _ (List.mem_of_getElem? (i := 15) rfl))) (Or.inr (hw _ (List.mem_of_getElem? (i := 23) rfl))) (by decide) (t := .int) (t' := .int) (by decide) (by decide)))
  have f8_F_r0_firstVowel : Fld Z h8 r0 "com/example/kent_ridge/kentridge/HangulSyllables" "firstVowel" "I" (.int p4) := f7_F_r0_firstVowel.other W8 (Or.inr (slot_ne (Or.inr (hw _ (List.mem_of_getElem? (i := 17) rfl))) (Or.inr (hw _ (List.mem_of_getElem? (i := 23) rfl))) (by decide) (t := .int) (t' := .int) (by decide) (by decide)))
  have f8_F_r0_vowelCount : Fld Z h8 r0 "com/example/kent_ridge/kentridge/HangulSyllables" "vowelCount" "I" (.int p5) := f7_F_r0_vowelCount.other W8 (Or.inr (slot_ne (Or.inr (hw _ (List.mem_of_getElem? (i := 19) rfl))) (Or.inr (hw _ (List.mem_of_getElem? (i := 23) rfl))) (by decide) (t := .int) (t' := .int) (by decide) (by decide)))
  have f8_F_r0_firstTrail : Fld Z h8 r0 "com/example/kent_ridge/kentridge/HangulSyllables" "firstTrail" "I" (.int p6) := Fw7.other W8 (Or.inr (slot_ne (Or.inr (hw _ (List.mem_of_getElem? (i := 21) rfl))) (Or.inr (hw _ (List.mem_of_getElem? (i := 23) rfl))) (by decide) (t := .int) (t' := .int) (by decide) (by decide)))
  have f8_F_r0_trailStates : Fld Z h8 r0 "com/example/kent_ridge/kentridge/HangulSyllables" "trailStates" "I" (.int (0 : Int32)) := f7_F_r0_trailStates.other W8 (Or.inr (slot_ne (Or.inr (hw _ (List.mem_of_getElem? (i := 25) rfl))) (Or.inr (hw _ (List.mem_of_getElem? (i := 23) rfl))) (by decide) (t := .int) (t' := .int) (by decide) (by decide)))
  have f8_F_r0_syllableCount : Fld Z h8 r0 "com/example/kent_ridge/kentridge/HangulSyllables" "syllableCount" "I" (.int (0 : Int32)) := f7_F_r0_syllableCount.other W8 (Or.inr (slot_ne (Or.inr (hw _ (List.mem_of_getElem? (i := 27) rfl))) (Or.inr (hw _ (List.mem_of_getElem? (i := 23) rfl))) (by decide) (t := .int) (t' := .int) (by decide) (by decide)))
  have Z8 : n0 ≤ Array.size h8 := Nat.le_trans Z7 (Keep.of_wr W8).1
  obtain ⟨T9, h9, X9, e9, W9, st9⟩ := putF X8 hx hZ hown (host := "") (Or.inl (hw _ (List.mem_of_getElem? (i := 24) rfl))) Via.refl e8 f8_F_r0_trailStates f8_E_r0 (Or.inr ⟨(hw _ (List.mem_of_getElem? (i := 25) rfl)), rfl, hnm⟩) (hw _ (List.mem_of_getElem? (i := 1) rfl)) (ty := .int) (by decide) rfl rfl (g := (mkF m 48 #[.val (.ref r0), .val (.int p1), .val (.int p2), .val (.int p3), .val (.int p4), .val (.int p5), .val (.int p6), .val (.int p7)] [(.int (p7 + (1 : Int32))), (.ref r0)])) rfl rfl (hb hby d1_48)
  have Fw9 : Fld Z h9 r0 "com/example/kent_ridge/kentridge/HangulSyllables" "trailStates" "I" (.int (p7 + (1 : Int32))) := f8_F_r0_trailStates.same W9
  have N9 := Fr.snoc X9 N8 G0
  have f9_E_r0 : Exa Z h9 r0 "com/example/kent_ridge/kentridge/HangulSyllables" := f8_E_r0.wr W9
  have f9_K : Keep h0 h9 [r0] := f8_K.wr W9 (Or.inl (List.mem_of_getElem? (i := 0) rfl))
  have f9_F_r0_firstSyllable : Fld Z h9 r0 "com/example/kent_ridge/kentridge/HangulSyllables" "firstSyllable" "I" (.int p1) := f8_F_r0_firstSyllable.other W9 (Or.inr (slot_ne (Or.inr (hw _ (List.mem_of_getElem? (i := 11) rfl))) (Or.inr (hw _ (List.mem_of_getElem? (i := 25) rfl))) (by decide) (t := .int) (t' := .int) (by decide) (by decide)))
  have f9_F_r0_firstLead : Fld Z h9 r0 "com/example/kent_ridge/kentridge/HangulSyllables" "firstLead" "I" (.int p2) := f8_F_r0_firstLead.other W9 (Or.inr (slot_ne (Or.inr (hw _ (List.mem_of_getElem? (i := 13) rfl))) (Or.inr (hw _ (List.mem_of_getElem? (i := 25) rfl))) (by decide) (t := .int) (t' := .int) (by decide) (by decide)))
  have f9_F_r0_leadCount : Fld Z h9 r0 "com/example/kent_ridge/kentridge/HangulSyllables" "leadCount" "I" (.int p3) := f8_F_r0_leadCount.other W9 (Or.inr (slot_ne (Or.inr (hw _ (List.mem_of_getElem? (i := 15) rfl))) (Or.inr (hw _ (List.mem_of_getElem? (i := 25) rfl))) (by decide) (t := .int) (t' := .int) (by decide) (by decide)))
  have f9_F_r0_firstVowel : Fld Z h9 r0 "com/example/kent_ridge/kentridge/HangulSyllables" "firstVowel" "I" (.int p4) := f8_F_r0_firstVowel.other W9 (Or.inr (slot_ne (Or.inr (hw _ (List.mem_of_getElem? (i := 17) rfl))) (Or.inr (hw _ (List.mem_of_getElem? (i := 25) rfl))) (by decide) (t := .int) (t' := .int) (by decide) (by decide)))
  have f9_F_r0_vowelCount : Fld Z h9 r0 "com/example/kent_ridge/kentridge/HangulSyllables" "vowelCount" "I" (.int p5) := f8_F_r0_vowelCount.other W9 (Or.inr (slot_ne (Or.inr (hw _ (List.mem_of_getElem? (i := 19) rfl))) (Or.inr (hw _ (List.mem_of_getElem? (i := 25) rfl))) (by decide) (t := .int) (t' := .int) (by decide) (by decide)))
  have f9_F_r0_firstTrail : Fld Z h9 r0 "com/example/kent_ridge/kentridge/HangulSyllables" "firstTrail" "I" (.int p6) := f8_F_r0_firstTrail.other W9 (Or.inr (slot_ne (Or.inr (hw _ (List.mem_of_getElem? (i := 21) rfl))) (Or.inr (hw _ (List.mem_of_getElem? (i := 25) rfl))) (by decide) (t := .int) (t' := .int) (by decide) (by decide)))
  have f9_F_r0_trailCount : Fld Z h9 r0 "com/example/kent_ridge/kentridge/HangulSyllables" "trailCount" "I" (.int p7) := Fw8.other W9 (Or.inr (slot_ne (Or.inr (hw _ (List.mem_of_getElem? (i := 23) rfl))) (Or.inr (hw _ (List.mem_of_getElem? (i := 25) rfl))) (by decide) (t := .int) (t' := .int) (by decide) (by decide)))
  have f9_F_r0_syllableCount : Fld Z h9 r0 "com/example/kent_ridge/kentridge/HangulSyllables" "syllableCount" "I" (.int (0 : Int32)) := f8_F_r0_syllableCount.other W9 (Or.inr (slot_ne (Or.inr (hw _ (List.mem_of_getElem? (i := 27) rfl))) (Or.inr (hw _ (List.mem_of_getElem? (i := 25) rfl))) (by decide) (t := .int) (t' := .int) (by decide) (by decide)))
  have Z9 : n0 ≤ Array.size h9 := Nat.le_trans Z8 (Keep.of_wr W9).1
  obtain ⟨T10, X10, e10, st10⟩ := getF X9 hx hZ hown (host := "") (Or.inl (hw _ (List.mem_of_getElem? (i := 24) rfl))) Via.refl e9 Fw9 (g := (mkF m 57 #[.val (.ref r0), .val (.int p1), .val (.int p2), .val (.int p3), .val (.int p4), .val (.int p5), .val (.int p6), .val (.int p7)] [(.ref r0), (.int (p3 * p5)), (.ref r0)])) rfl rfl (hb hby d1_57)
  obtain ⟨T11, h11, X11, e11, W11, st11⟩ := putF X10 hx hZ hown (host := "") (Or.inl (hw _ (List.mem_of_getElem? (i := 26) rfl))) Via.refl e10 f9_F_r0_syllableCount f9_E_r0 (Or.inr ⟨(hw _ (List.mem_of_getElem? (i := 27) rfl)), rfl, hnm⟩) (hw _ (List.mem_of_getElem? (i := 1) rfl)) (ty := .int) (by decide) rfl rfl (g := (mkF m 61 #[.val (.ref r0), .val (.int p1), .val (.int p2), .val (.int p3), .val (.int p4), .val (.int p5), .val (.int p6), .val (.int p7)] [(.int ((p3 * p5) * (p7 + (1 : Int32)))), (.ref r0)])) rfl rfl (hb hby d1_61)
  have Fw11 : Fld Z h11 r0 "com/example/kent_ridge/kentridge/HangulSyllables" "syllableCount" "I" (.int ((p3 * p5) * (p7 + (1 : Int32)))) := f9_F_r0_syllableCount.same W11
  have N11 := Fr.snoc X11 N9 G0
  have f11_E_r0 : Exa Z h11 r0 "com/example/kent_ridge/kentridge/HangulSyllables" := f9_E_r0.wr W11
  have f11_K : Keep h0 h11 [r0] := f9_K.wr W11 (Or.inl (List.mem_of_getElem? (i := 0) rfl))
  have f11_F_r0_firstSyllable : Fld Z h11 r0 "com/example/kent_ridge/kentridge/HangulSyllables" "firstSyllable" "I" (.int p1) := f9_F_r0_firstSyllable.other W11 (Or.inr (slot_ne (Or.inr (hw _ (List.mem_of_getElem? (i := 11) rfl))) (Or.inr (hw _ (List.mem_of_getElem? (i := 27) rfl))) (by decide) (t := .int) (t' := .int) (by decide) (by decide)))
  have f11_F_r0_firstLead : Fld Z h11 r0 "com/example/kent_ridge/kentridge/HangulSyllables" "firstLead" "I" (.int p2) := f9_F_r0_firstLead.other W11 (Or.inr (slot_ne (Or.inr (hw _ (List.mem_of_getElem? (i := 13) rfl))) (Or.inr (hw _ (List.mem_of_getElem? (i := 27) rfl))) (by decide) (t := .int) (t' := .int) (by decide) (by decide)))
  have f11_F_r0_leadCount : Fld Z h11 r0 "com/example/kent_ridge/kentridge/HangulSyllables" "leadCount" "I" (.int p3) := f9_F_r0_leadCount.other W11 (Or.inr (slot_ne (Or.inr (hw _ (List.mem_of_getElem? (i := 15) rfl))) (Or.inr (hw _ (List.mem_of_getElem? (i := 27) rfl))) (by decide) (t := .int) (t' := .int) (by decide) (by decide)))
  have f11_F_r0_firstVowel : Fld Z h11 r0 "com/example/kent_ridge/kentridge/HangulSyllables" "firstVowel" "I" (.int p4) := f9_F_r0_firstVowel.other W11 (Or.inr (slot_ne (Or.inr (hw _ (List.mem_of_getElem? (i := 17) rfl))) (Or.inr (hw _ (List.mem_of_getElem? (i := 27) rfl))) (by decide) (t := .int) (t' := .int) (by decide) (by decide)))
  have f11_F_r0_vowelCount : Fld Z h11 r0 "com/example/kent_ridge/kentridge/HangulSyllables" "vowelCount" "I" (.int p5) := f9_F_r0_vowelCount.other W11 (Or.inr (slot_ne (Or.inr (hw _ (List.mem_of_getElem? (i := 19) rfl))) (Or.inr (hw _ (List.mem_of_getElem? (i := 27) rfl))) (by decide) (t := .int) (t' := .int) (by decide) (by decide)))
  have f11_F_r0_firstTrail : Fld Z h11 r0 "com/example/kent_ridge/kentridge/HangulSyllables" "firstTrail" "I" (.int p6) := f9_F_r0_firstTrail.other W11 (Or.inr (slot_ne (Or.inr (hw _ (List.mem_of_getElem? (i := 21) rfl))) (Or.inr (hw _ (List.mem_of_getElem? (i := 27) rfl))) (by decide) (t := .int) (t' := .int) (by decide) (by decide)))
  have f11_F_r0_trailCount : Fld Z h11 r0 "com/example/kent_ridge/kentridge/HangulSyllables" "trailCount" "I" (.int p7) := f9_F_r0_trailCount.other W11 (Or.inr (slot_ne (Or.inr (hw _ (List.mem_of_getElem? (i := 23) rfl))) (Or.inr (hw _ (List.mem_of_getElem? (i := 27) rfl))) (by decide) (t := .int) (t' := .int) (by decide) (by decide)))
  have f11_F_r0_trailStates : Fld Z h11 r0 "com/example/kent_ridge/kentridge/HangulSyllables" "trailStates" "I" (.int (p7 + (1 : Int32))) := Fw9.other W11 (Or.inr (slot_ne (Or.inr (hw _ (List.mem_of_getElem? (i := 25) rfl))) (Or.inr (hw _ (List.mem_of_getElem? (i := 27) rfl))) (by decide) (t := .int) (t' := .int) (by decide) (by decide)))
  have Z11 : n0 ≤ Array.size h11 := Nat.le_trans Z9 (Keep.of_wr W11).1
  obtain ⟨fs, hr, hrun, hended, hW, hsame⟩ := X11.leave (v := none) (fun _ => rfl)
  refine ⟨_, _, pre0 _ ?_, hrun, hended, _, _, rfl, ⟨rfl, N11, (show Keep h0 T11.heap [r0] from by rw [e11]; exact f11_K), (show Exa Z T11.heap r0 "com/example/kent_ridge/kentridge/HangulSyllables" from by rw [e11]; exact f11_E_r0), (show Fld Z T11.heap r0 "com/example/kent_ridge/kentridge/HangulSyllables" "firstSyllable" "I" (.int p1) from by rw [e11]; exact f11_F_r0_firstSyllable), (show Fld Z T11.heap r0 "com/example/kent_ridge/kentridge/HangulSyllables" "firstLead" "I" (.int p2) from by rw [e11]; exact f11_F_r0_firstLead), (show Fld Z T11.heap r0 "com/example/kent_ridge/kentridge/HangulSyllables" "leadCount" "I" (.int p3) from by rw [e11]; exact f11_F_r0_leadCount), (show Fld Z T11.heap r0 "com/example/kent_ridge/kentridge/HangulSyllables" "firstVowel" "I" (.int p4) from by rw [e11]; exact f11_F_r0_firstVowel), (show Fld Z T11.heap r0 "com/example/kent_ridge/kentridge/HangulSyllables" "vowelCount" "I" (.int p5) from by rw [e11]; exact f11_F_r0_vowelCount), (show Fld Z T11.heap r0 "com/example/kent_ridge/kentridge/HangulSyllables" "firstTrail" "I" (.int p6) from by rw [e11]; exact f11_F_r0_firstTrail), (show Fld Z T11.heap r0 "com/example/kent_ridge/kentridge/HangulSyllables" "trailCount" "I" (.int p7) from by rw [e11]; exact f11_F_r0_trailCount), (show Fld Z T11.heap r0 "com/example/kent_ridge/kentridge/HangulSyllables" "trailStates" "I" (.int (p7 + (1 : Int32))) from by rw [e11]; exact f11_F_r0_trailStates), (show Fld Z T11.heap r0 "com/example/kent_ridge/kentridge/HangulSyllables" "syllableCount" "I" (.int ((p3 * p5) * (p7 + (1 : Int32)))) from by rw [e11]; exact Fw11)⟩, ⟨_, rfl⟩, hW, hsame.mono (by decide) (by decide)⟩
  show Steps p.tables e below (s₁.setTop (mkF m 0 #[.val (.ref r0), .val (.int p1), .val (.int p2), .val (.int p3), .val (.int p4), .val (.int p5), .val (.int p6), .val (.int p7)] [])) _
  refine XS.aloadN X0.here hx rfl (hb hby d1_0) rfl rfl ?_
  show Steps p.tables e below (s₁.setTop (mkF m 1 #[.val (.ref r0), .val (.int p1), .val (.int p2), .val (.int p3), .val (.int p4), .val (.int p5), .val (.int p6), .val (.int p7)] [(.ref r0)])) _
  refine st1 _ ?_
  show Steps p.tables e below (T1.setTop (mkF m 4 #[.val (.ref r0), .val (.int p1), .val (.int p2), .val (.int p3), .val (.int p4), .val (.int p5), .val (.int p6), .val (.int p7)] [])) _
  refine XS.aloadN X1.here hx rfl (hb hby d1_4) rfl rfl ?_
  show Steps p.tables e below (T1.setTop (mkF m 5 #[.val (.ref r0), .val (.int p1), .val (.int p2), .val (.int p3), .val (.int p4), .val (.int p5), .val (.int p6), .val (.int p7)] [(.ref r0)])) _
  refine XS.iloadN X1.here hx rfl (hb hby d1_5) rfl ?_
  show Steps p.tables e below (T1.setTop (mkF m 6 #[.val (.ref r0), .val (.int p1), .val (.int p2), .val (.int p3), .val (.int p4), .val (.int p5), .val (.int p6), .val (.int p7)] [(.int p1), (.ref r0)])) _
  refine st2 _ ?_
  show Steps p.tables e below (T2.setTop (mkF m 9 #[.val (.ref r0), .val (.int p1), .val (.int p2), .val (.int p3), .val (.int p4), .val (.int p5), .val (.int p6), .val (.int p7)] [])) _
  refine XS.aloadN X2.here hx rfl (hb hby d1_9) rfl rfl ?_
  show Steps p.tables e below (T2.setTop (mkF m 10 #[.val (.ref r0), .val (.int p1), .val (.int p2), .val (.int p3), .val (.int p4), .val (.int p5), .val (.int p6), .val (.int p7)] [(.ref r0)])) _
  refine XS.iloadN X2.here hx rfl (hb hby d1_10) rfl ?_
  show Steps p.tables e below (T2.setTop (mkF m 11 #[.val (.ref r0), .val (.int p1), .val (.int p2), .val (.int p3), .val (.int p4), .val (.int p5), .val (.int p6), .val (.int p7)] [(.int p2), (.ref r0)])) _
  refine st3 _ ?_
  show Steps p.tables e below (T3.setTop (mkF m 14 #[.val (.ref r0), .val (.int p1), .val (.int p2), .val (.int p3), .val (.int p4), .val (.int p5), .val (.int p6), .val (.int p7)] [])) _
  refine XS.aloadN X3.here hx rfl (hb hby d1_14) rfl rfl ?_
  show Steps p.tables e below (T3.setTop (mkF m 15 #[.val (.ref r0), .val (.int p1), .val (.int p2), .val (.int p3), .val (.int p4), .val (.int p5), .val (.int p6), .val (.int p7)] [(.ref r0)])) _
  refine XS.iloadN X3.here hx rfl (hb hby d1_15) rfl ?_
  show Steps p.tables e below (T3.setTop (mkF m 16 #[.val (.ref r0), .val (.int p1), .val (.int p2), .val (.int p3), .val (.int p4), .val (.int p5), .val (.int p6), .val (.int p7)] [(.int p3), (.ref r0)])) _
  refine st4 _ ?_
  show Steps p.tables e below (T4.setTop (mkF m 19 #[.val (.ref r0), .val (.int p1), .val (.int p2), .val (.int p3), .val (.int p4), .val (.int p5), .val (.int p6), .val (.int p7)] [])) _
  refine XS.aloadN X4.here hx rfl (hb hby d1_19) rfl rfl ?_
  show Steps p.tables e below (T4.setTop (mkF m 20 #[.val (.ref r0), .val (.int p1), .val (.int p2), .val (.int p3), .val (.int p4), .val (.int p5), .val (.int p6), .val (.int p7)] [(.ref r0)])) _
  refine XS.iload X4.here hx rfl (hb hby d1_20) rfl ?_
  show Steps p.tables e below (T4.setTop (mkF m 22 #[.val (.ref r0), .val (.int p1), .val (.int p2), .val (.int p3), .val (.int p4), .val (.int p5), .val (.int p6), .val (.int p7)] [(.int p4), (.ref r0)])) _
  refine st5 _ ?_
  show Steps p.tables e below (T5.setTop (mkF m 25 #[.val (.ref r0), .val (.int p1), .val (.int p2), .val (.int p3), .val (.int p4), .val (.int p5), .val (.int p6), .val (.int p7)] [])) _
  refine XS.aloadN X5.here hx rfl (hb hby d1_25) rfl rfl ?_
  show Steps p.tables e below (T5.setTop (mkF m 26 #[.val (.ref r0), .val (.int p1), .val (.int p2), .val (.int p3), .val (.int p4), .val (.int p5), .val (.int p6), .val (.int p7)] [(.ref r0)])) _
  refine XS.iload X5.here hx rfl (hb hby d1_26) rfl ?_
  show Steps p.tables e below (T5.setTop (mkF m 28 #[.val (.ref r0), .val (.int p1), .val (.int p2), .val (.int p3), .val (.int p4), .val (.int p5), .val (.int p6), .val (.int p7)] [(.int p5), (.ref r0)])) _
  refine st6 _ ?_
  show Steps p.tables e below (T6.setTop (mkF m 31 #[.val (.ref r0), .val (.int p1), .val (.int p2), .val (.int p3), .val (.int p4), .val (.int p5), .val (.int p6), .val (.int p7)] [])) _
  refine XS.aloadN X6.here hx rfl (hb hby d1_31) rfl rfl ?_
  show Steps p.tables e below (T6.setTop (mkF m 32 #[.val (.ref r0), .val (.int p1), .val (.int p2), .val (.int p3), .val (.int p4), .val (.int p5), .val (.int p6), .val (.int p7)] [(.ref r0)])) _
  refine XS.iload X6.here hx rfl (hb hby d1_32) rfl ?_
  show Steps p.tables e below (T6.setTop (mkF m 34 #[.val (.ref r0), .val (.int p1), .val (.int p2), .val (.int p3), .val (.int p4), .val (.int p5), .val (.int p6), .val (.int p7)] [(.int p6), (.ref r0)])) _
  refine st7 _ ?_
  show Steps p.tables e below (T7.setTop (mkF m 37 #[.val (.ref r0), .val (.int p1), .val (.int p2), .val (.int p3), .val (.int p4), .val (.int p5), .val (.int p6), .val (.int p7)] [])) _
  refine XS.aloadN X7.here hx rfl (hb hby d1_37) rfl rfl ?_
  show Steps p.tables e below (T7.setTop (mkF m 38 #[.val (.ref r0), .val (.int p1), .val (.int p2), .val (.int p3), .val (.int p4), .val (.int p5), .val (.int p6), .val (.int p7)] [(.ref r0)])) _
  refine XS.iload X7.here hx rfl (hb hby d1_38) rfl ?_
  show Steps p.tables e below (T7.setTop (mkF m 40 #[.val (.ref r0), .val (.int p1), .val (.int p2), .val (.int p3), .val (.int p4), .val (.int p5), .val (.int p6), .val (.int p7)] [(.int p7), (.ref r0)])) _
  refine st8 _ ?_
  show Steps p.tables e below (T8.setTop (mkF m 43 #[.val (.ref r0), .val (.int p1), .val (.int p2), .val (.int p3), .val (.int p4), .val (.int p5), .val (.int p6), .val (.int p7)] [])) _
  refine XS.aloadN X8.here hx rfl (hb hby d1_43) rfl rfl ?_
  show Steps p.tables e below (T8.setTop (mkF m 44 #[.val (.ref r0), .val (.int p1), .val (.int p2), .val (.int p3), .val (.int p4), .val (.int p5), .val (.int p6), .val (.int p7)] [(.ref r0)])) _
  refine XS.iload X8.here hx rfl (hb hby d1_44) rfl ?_
  show Steps p.tables e below (T8.setTop (mkF m 46 #[.val (.ref r0), .val (.int p1), .val (.int p2), .val (.int p3), .val (.int p4), .val (.int p5), .val (.int p6), .val (.int p7)] [(.int p7), (.ref r0)])) _
  refine XS.iconst X8.here hx rfl (hb hby d1_46) ?_
  show Steps p.tables e below (T8.setTop (mkF m 47 #[.val (.ref r0), .val (.int p1), .val (.int p2), .val (.int p3), .val (.int p4), .val (.int p5), .val (.int p6), .val (.int p7)] [(.int (1 : Int32)), (.int p7), (.ref r0)])) _
  refine XS.iadd X8.here hx rfl (hb hby d1_47) rfl ?_
  show Steps p.tables e below (T8.setTop (mkF m 48 #[.val (.ref r0), .val (.int p1), .val (.int p2), .val (.int p3), .val (.int p4), .val (.int p5), .val (.int p6), .val (.int p7)] [(.int (p7 + (1 : Int32))), (.ref r0)])) _
  refine st9 _ ?_
  show Steps p.tables e below (T9.setTop (mkF m 51 #[.val (.ref r0), .val (.int p1), .val (.int p2), .val (.int p3), .val (.int p4), .val (.int p5), .val (.int p6), .val (.int p7)] [])) _
  refine XS.aloadN X9.here hx rfl (hb hby d1_51) rfl rfl ?_
  show Steps p.tables e below (T9.setTop (mkF m 52 #[.val (.ref r0), .val (.int p1), .val (.int p2), .val (.int p3), .val (.int p4), .val (.int p5), .val (.int p6), .val (.int p7)] [(.ref r0)])) _
  refine XS.iloadN X9.here hx rfl (hb hby d1_52) rfl ?_
  show Steps p.tables e below (T9.setTop (mkF m 53 #[.val (.ref r0), .val (.int p1), .val (.int p2), .val (.int p3), .val (.int p4), .val (.int p5), .val (.int p6), .val (.int p7)] [(.int p3), (.ref r0)])) _
  refine XS.iload X9.here hx rfl (hb hby d1_53) rfl ?_
  show Steps p.tables e below (T9.setTop (mkF m 55 #[.val (.ref r0), .val (.int p1), .val (.int p2), .val (.int p3), .val (.int p4), .val (.int p5), .val (.int p6), .val (.int p7)] [(.int p5), (.int p3), (.ref r0)])) _
  refine XS.imul X9.here hx rfl (hb hby d1_55) rfl ?_
  show Steps p.tables e below (T9.setTop (mkF m 56 #[.val (.ref r0), .val (.int p1), .val (.int p2), .val (.int p3), .val (.int p4), .val (.int p5), .val (.int p6), .val (.int p7)] [(.int (p3 * p5)), (.ref r0)])) _
  refine XS.aloadN X9.here hx rfl (hb hby d1_56) rfl rfl ?_
  show Steps p.tables e below (T9.setTop (mkF m 57 #[.val (.ref r0), .val (.int p1), .val (.int p2), .val (.int p3), .val (.int p4), .val (.int p5), .val (.int p6), .val (.int p7)] [(.ref r0), (.int (p3 * p5)), (.ref r0)])) _
  refine st10 _ ?_
  show Steps p.tables e below (T10.setTop (mkF m 60 #[.val (.ref r0), .val (.int p1), .val (.int p2), .val (.int p3), .val (.int p4), .val (.int p5), .val (.int p6), .val (.int p7)] [(.int (p7 + (1 : Int32))), (.int (p3 * p5)), (.ref r0)])) _
  refine XS.imul X10.here hx rfl (hb hby d1_60) rfl ?_
  show Steps p.tables e below (T10.setTop (mkF m 61 #[.val (.ref r0), .val (.int p1), .val (.int p2), .val (.int p3), .val (.int p4), .val (.int p5), .val (.int p6), .val (.int p7)] [(.int ((p3 * p5) * (p7 + (1 : Int32)))), (.ref r0)])) _
  refine st11 _ ?_
  show Steps p.tables e below (T11.setTop (mkF m 64 #[.val (.ref r0), .val (.int p1), .val (.int p2), .val (.int p3), .val (.int p4), .val (.int p5), .val (.int p6), .val (.int p7)] [])) _
  exact X11.returnOut hx Bd.returns (hb hby d1_64) hr
theorem d3_0 : decode prog_18_method_6_code 0 = .ok (.iload_n 1, 1) := by decide +kernel
theorem d3_1 : decode prog_18_method_6_code 1 = .ok (.aload_n 0, 1) := by decide +kernel
theorem d3_2 : decode prog_18_method_6_code 2 = .ok (.getfield 13, 3) := by decide +kernel
theorem d3_5 : decode prog_18_method_6_code 5 = .ok (.isub, 1) := by decide +kernel
theorem d3_6 : decode prog_18_method_6_code 6 = .ok (.istore_n 3, 1) := by decide +kernel
theorem d3_7 : decode prog_18_method_6_code 7 = .ok (.iload_n 2, 1) := by decide +kernel
theorem d3_8 : decode prog_18_method_6_code 8 = .ok (.aload_n 0, 1) := by decide +kernel
theorem d3_9 : decode prog_18_method_6_code 9 = .ok (.getfield 19, 3) := by decide +kernel
theorem d3_12 : decode prog_18_method_6_code 12 = .ok (.isub, 1) := by decide +kernel
theorem d3_13 : decode prog_18_method_6_code 13 = .ok (.istore 4, 2) := by decide +kernel
theorem d3_15 : decode prog_18_method_6_code 15 = .ok (.iload_n 3, 1) := by decide +kernel
theorem d3_16 : decode prog_18_method_6_code 16 = .ok (.ifCond .lt 45, 3) := by decide +kernel
theorem d3_19 : decode prog_18_method_6_code 19 = .ok (.iload_n 3, 1) := by decide +kernel
theorem d3_20 : decode prog_18_method_6_code 20 = .ok (.aload_n 0, 1) := by decide +kernel
theorem d3_21 : decode prog_18_method_6_code 21 = .ok (.getfield 16, 3) := by decide +kernel
theorem d3_24 : decode prog_18_method_6_code 24 = .ok (.if_icmp .ge 37, 3) := by decide +kernel
theorem d3_27 : decode prog_18_method_6_code 27 = .ok (.iload 4, 2) := by decide +kernel
theorem d3_29 : decode prog_18_method_6_code 29 = .ok (.ifCond .lt 32, 3) := by decide +kernel
theorem d3_32 : decode prog_18_method_6_code 32 = .ok (.iload 4, 2) := by decide +kernel
theorem d3_34 : decode prog_18_method_6_code 34 = .ok (.aload_n 0, 1) := by decide +kernel
theorem d3_35 : decode prog_18_method_6_code 35 = .ok (.getfield 22, 3) := by decide +kernel
theorem d3_38 : decode prog_18_method_6_code 38 = .ok (.if_icmp .ge 23, 3) := by decide +kernel
theorem d3_41 : decode prog_18_method_6_code 41 = .ok (.aload_n 0, 1) := by decide +kernel
theorem d3_42 : decode prog_18_method_6_code 42 = .ok (.getfield 7, 3) := by decide +kernel
theorem d3_45 : decode prog_18_method_6_code 45 = .ok (.iload_n 3, 1) := by decide +kernel
theorem d3_46 : decode prog_18_method_6_code 46 = .ok (.aload_n 0, 1) := by decide +kernel
theorem d3_47 : decode prog_18_method_6_code 47 = .ok (.getfield 22, 3) := by decide +kernel
theorem d3_50 : decode prog_18_method_6_code 50 = .ok (.imul, 1) := by decide +kernel
theorem d3_51 : decode prog_18_method_6_code 51 = .ok (.iload 4, 2) := by decide +kernel
theorem d3_53 : decode prog_18_method_6_code 53 = .ok (.iadd, 1) := by decide +kernel
theorem d3_54 : decode prog_18_method_6_code 54 = .ok (.aload_n 0, 1) := by decide +kernel
theorem d3_55 : decode prog_18_method_6_code 55 = .ok (.getfield 31, 3) := by decide +kernel
theorem d3_58 : decode prog_18_method_6_code 58 = .ok (.imul, 1) := by decide +kernel
theorem d3_59 : decode prog_18_method_6_code 59 = .ok (.iadd, 1) := by decide +kernel
theorem d3_60 : decode prog_18_method_6_code 60 = .ok (.ireturn, 1) := by decide +kernel
theorem d3_61 : decode prog_18_method_6_code 61 = .ok (.iload_n 1, 1) := by decide +kernel
theorem d3_62 : decode prog_18_method_6_code 62 = .ok (.aload_n 0, 1) := by decide +kernel
theorem d3_63 : decode prog_18_method_6_code 63 = .ok (.getfield 7, 3) := by decide +kernel
theorem d3_66 : decode prog_18_method_6_code 66 = .ok (.isub, 1) := by decide +kernel
theorem d3_67 : decode prog_18_method_6_code 67 = .ok (.istore 5, 2) := by decide +kernel
theorem d3_69 : decode prog_18_method_6_code 69 = .ok (.iload_n 2, 1) := by decide +kernel
theorem d3_70 : decode prog_18_method_6_code 70 = .ok (.aload_n 0, 1) := by decide +kernel
theorem d3_71 : decode prog_18_method_6_code 71 = .ok (.getfield 25, 3) := by decide +kernel
theorem d3_74 : decode prog_18_method_6_code 74 = .ok (.isub, 1) := by decide +kernel
theorem d3_75 : decode prog_18_method_6_code 75 = .ok (.istore 6, 2) := by decide +kernel
theorem d3_77 : decode prog_18_method_6_code 77 = .ok (.iload 5, 2) := by decide +kernel
theorem d3_79 : decode prog_18_method_6_code 79 = .ok (.ifCond .lt 26, 3) := by decide +kernel
theorem d3_82 : decode prog_18_method_6_code 82 = .ok (.iload 5, 2) := by decide +kernel
theorem d3_84 : decode prog_18_method_6_code 84 = .ok (.aload_n 0, 1) := by decide +kernel
theorem d3_85 : decode prog_18_method_6_code 85 = .ok (.getfield 34, 3) := by decide +kernel
theorem d3_88 : decode prog_18_method_6_code 88 = .ok (.if_icmp .ge 17, 3) := by decide +kernel
theorem d3_91 : decode prog_18_method_6_code 91 = .ok (.iload 5, 2) := by decide +kernel
theorem d3_93 : decode prog_18_method_6_code 93 = .ok (.aload_n 0, 1) := by decide +kernel
theorem d3_94 : decode prog_18_method_6_code 94 = .ok (.getfield 31, 3) := by decide +kernel
theorem d3_97 : decode prog_18_method_6_code 97 = .ok (.irem, 1) := by decide +kernel
theorem d3_98 : decode prog_18_method_6_code 98 = .ok (.ifCond .ne 7, 3) := by decide +kernel
theorem d3_101 : decode prog_18_method_6_code 101 = .ok (.iconst 1, 1) := by decide +kernel
theorem d3_102 : decode prog_18_method_6_code 102 = .ok (.goto 4, 3) := by decide +kernel
theorem d3_105 : decode prog_18_method_6_code 105 = .ok (.iconst 0, 1) := by decide +kernel
theorem d3_106 : decode prog_18_method_6_code 106 = .ok (.istore 7, 2) := by decide +kernel
theorem d3_108 : decode prog_18_method_6_code 108 = .ok (.iload 7, 2) := by decide +kernel
theorem d3_110 : decode prog_18_method_6_code 110 = .ok (.ifCond .eq 24, 3) := by decide +kernel
theorem d3_113 : decode prog_18_method_6_code 113 = .ok (.iload 6, 2) := by decide +kernel
theorem d3_115 : decode prog_18_method_6_code 115 = .ok (.ifCond .lt 19, 3) := by decide +kernel
theorem d3_118 : decode prog_18_method_6_code 118 = .ok (.iload 6, 2) := by decide +kernel
theorem d3_120 : decode prog_18_method_6_code 120 = .ok (.aload_n 0, 1) := by decide +kernel
theorem d3_121 : decode prog_18_method_6_code 121 = .ok (.getfield 28, 3) := by decide +kernel
theorem d3_124 : decode prog_18_method_6_code 124 = .ok (.if_icmp .ge 10, 3) := by decide +kernel
theorem d3_127 : decode prog_18_method_6_code 127 = .ok (.iload_n 1, 1) := by decide +kernel
theorem d3_128 : decode prog_18_method_6_code 128 = .ok (.iload 6, 2) := by decide +kernel
theorem d3_130 : decode prog_18_method_6_code 130 = .ok (.iadd, 1) := by decide +kernel
theorem d3_131 : decode prog_18_method_6_code 131 = .ok (.iconst 1, 1) := by decide +kernel
theorem d3_132 : decode prog_18_method_6_code 132 = .ok (.iadd, 1) := by decide +kernel
theorem d3_133 : decode prog_18_method_6_code 133 = .ok (.ireturn, 1) := by decide +kernel
theorem d3_134 : decode prog_18_method_6_code 134 = .ok (.iconst (-1), 1) := by decide +kernel
theorem d3_135 : decode prog_18_method_6_code 135 = .ok (.ireturn, 1) := by decide +kernel
def F3_134 : Int32 := (-1 : Int32)
theorem b3_134 {p : Program} {l : Launch} {e : Env} {R : Room} {s : State} {m : MethodId} {args : Array Value} {below : List Frame} {meth : Method} {c : Code} {T : State} {locs : List Loc} {cells slots : Nat} {Z : State} {a0 : Array Value} (X : Stand p l e R s m args below meth c T locs cells slots) (hx : p.tables.exec = Jvm.exec) (hZ : Z.Warmed39 s.vm) (hw : ∀ d ∈ tables_1, d.before a0 Z = true) (hby : c.code = prog_18_method_6_code) (hown : s.vm.findClass "com/example/kent_ridge/kentridge/HangulSyllables" = some m.cls) {h : Heap} (e0 : T.heap = h) (v0 : Addr) (v1 : Int32) (v2 : Int32) (v3 : Int32) (v4 : Int32) (v5 : Int32) (v6 : Int32) (v7 : Int32) (F0_firstSyllable : Fld Z h v0 "com/example/kent_ridge/kentridge/HangulSyllables" "firstSyllable" "I" (.int (44032 : Int32))) (F0_firstLead : Fld Z h v0 "com/example/kent_ridge/kentridge/HangulSyllables" "firstLead" "I" (.int (4352 : Int32))) (F0_leadCount : Fld Z h v0 "com/example/kent_ridge/kentridge/HangulSyllables" "leadCount" "I" (.int (19 : Int32))) (F0_firstVowel : Fld Z h v0 "com/example/kent_ridge/kentridge/HangulSyllables" "firstVowel" "I" (.int (4449 : Int32))) (F0_vowelCount : Fld Z h v0 "com/example/kent_ridge/kentridge/HangulSyllables" "vowelCount" "I" (.int (21 : Int32))) (F0_firstTrail : Fld Z h v0 "com/example/kent_ridge/kentridge/HangulSyllables" "firstTrail" "I" (.int (4520 : Int32))) (F0_trailCount : Fld Z h v0 "com/example/kent_ridge/kentridge/HangulSyllables" "trailCount" "I" (.int (27 : Int32))) (F0_trailStates : Fld Z h v0 "com/example/kent_ridge/kentridge/HangulSyllables" "trailStates" "I" (.int (28 : Int32))) (F0_syllableCount : Fld Z h v0 "com/example/kent_ridge/kentridge/HangulSyllables" "syllableCount" "I" (.int (11172 : Int32))) :
    ∃ (T' : State) (pc' : Nat) (Ls : Array Slot), Stand p l e R s m args below meth c T' locs cells slots ∧ T'.heap = h ∧ decode c.code pc' = .ok (.ireturn, 1) ∧ ∀ target, Steps p.tables e below (T'.setTop (mkF m pc' Ls [(.int F3_134)])) target → Steps p.tables e below (T.setTop (mkF m 134 #[.val (.ref v0), .val (.int v1), .val (.int v2), .val (.int v3), .val (.int v4), .val (.int v5), .val (.int v6), .val (.int v7)] [])) target := by
  refine ⟨T, 135, #[.val (.ref v0), .val (.int v1), .val (.int v2), .val (.int v3), .val (.int v4), .val (.int v5), .val (.int v6), .val (.int v7)], X, e0, (hb hby d3_135), fun target kt => ?_⟩
  show Steps p.tables e below (T.setTop (mkF m 134 #[.val (.ref v0), .val (.int v1), .val (.int v2), .val (.int v3), .val (.int v4), .val (.int v5), .val (.int v6), .val (.int v7)] [])) _
  refine XS.iconst X.here hx rfl (hb hby d3_134) ?_
  show Steps p.tables e below (T.setTop (mkF m 135 #[.val (.ref v0), .val (.int v1), .val (.int v2), .val (.int v3), .val (.int v4), .val (.int v5), .val (.int v6), .val (.int v7)] [(.int (-1 : Int32))])) _
  exact kt
def F3_127 (v1 : Int32) (v6 : Int32) : Int32 := ((v1 + v6) + (1 : Int32))
theorem b3_127 {p : Program} {l : Launch} {e : Env} {R : Room} {s : State} {m : MethodId} {args : Array Value} {below : List Frame} {meth : Method} {c : Code} {T : State} {locs : List Loc} {cells slots : Nat} {Z : State} {a0 : Array Value} (X : Stand p l e R s m args below meth c T locs cells slots) (hx : p.tables.exec = Jvm.exec) (hZ : Z.Warmed39 s.vm) (hw : ∀ d ∈ tables_1, d.before a0 Z = true) (hby : c.code = prog_18_method_6_code) (hown : s.vm.findClass "com/example/kent_ridge/kentridge/HangulSyllables" = some m.cls) {h : Heap} (e0 : T.heap = h) (v0 : Addr) (v1 : Int32) (v2 : Int32) (v3 : Int32) (v4 : Int32) (v5 : Int32) (v6 : Int32) (v7 : Int32) (F0_firstSyllable : Fld Z h v0 "com/example/kent_ridge/kentridge/HangulSyllables" "firstSyllable" "I" (.int (44032 : Int32))) (F0_firstLead : Fld Z h v0 "com/example/kent_ridge/kentridge/HangulSyllables" "firstLead" "I" (.int (4352 : Int32))) (F0_leadCount : Fld Z h v0 "com/example/kent_ridge/kentridge/HangulSyllables" "leadCount" "I" (.int (19 : Int32))) (F0_firstVowel : Fld Z h v0 "com/example/kent_ridge/kentridge/HangulSyllables" "firstVowel" "I" (.int (4449 : Int32))) (F0_vowelCount : Fld Z h v0 "com/example/kent_ridge/kentridge/HangulSyllables" "vowelCount" "I" (.int (21 : Int32))) (F0_firstTrail : Fld Z h v0 "com/example/kent_ridge/kentridge/HangulSyllables" "firstTrail" "I" (.int (4520 : Int32))) (F0_trailCount : Fld Z h v0 "com/example/kent_ridge/kentridge/HangulSyllables" "trailCount" "I" (.int (27 : Int32))) (F0_trailStates : Fld Z h v0 "com/example/kent_ridge/kentridge/HangulSyllables" "trailStates" "I" (.int (28 : Int32))) (F0_syllableCount : Fld Z h v0 "com/example/kent_ridge/kentridge/HangulSyllables" "syllableCount" "I" (.int (11172 : Int32))) :
    ∃ (T' : State) (pc' : Nat) (Ls : Array Slot), Stand p l e R s m args below meth c T' locs cells slots ∧ T'.heap = h ∧ decode c.code pc' = .ok (.ireturn, 1) ∧ ∀ target, Steps p.tables e below (T'.setTop (mkF m pc' Ls [(.int (F3_127 v1 v6))])) target → Steps p.tables e below (T.setTop (mkF m 127 #[.val (.ref v0), .val (.int v1), .val (.int v2), .val (.int v3), .val (.int v4), .val (.int v5), .val (.int v6), .val (.int v7)] [])) target := by
  refine ⟨T, 133, #[.val (.ref v0), .val (.int v1), .val (.int v2), .val (.int v3), .val (.int v4), .val (.int v5), .val (.int v6), .val (.int v7)], X, e0, (hb hby d3_133), fun target kt => ?_⟩
  show Steps p.tables e below (T.setTop (mkF m 127 #[.val (.ref v0), .val (.int v1), .val (.int v2), .val (.int v3), .val (.int v4), .val (.int v5), .val (.int v6), .val (.int v7)] [])) _
  refine XS.iloadN X.here hx rfl (hb hby d3_127) rfl ?_
  show Steps p.tables e below (T.setTop (mkF m 128 #[.val (.ref v0), .val (.int v1), .val (.int v2), .val (.int v3), .val (.int v4), .val (.int v5), .val (.int v6), .val (.int v7)] [(.int v1)])) _
  refine XS.iload X.here hx rfl (hb hby d3_128) rfl ?_
  show Steps p.tables e below (T.setTop (mkF m 130 #[.val (.ref v0), .val (.int v1), .val (.int v2), .val (.int v3), .val (.int v4), .val (.int v5), .val (.int v6), .val (.int v7)] [(.int v6), (.int v1)])) _
  refine XS.iadd X.here hx rfl (hb hby d3_130) rfl ?_
  show Steps p.tables e below (T.setTop (mkF m 131 #[.val (.ref v0), .val (.int v1), .val (.int v2), .val (.int v3), .val (.int v4), .val (.int v5), .val (.int v6), .val (.int v7)] [(.int (v1 + v6))])) _
  refine XS.iconst X.here hx rfl (hb hby d3_131) ?_
  show Steps p.tables e below (T.setTop (mkF m 132 #[.val (.ref v0), .val (.int v1), .val (.int v2), .val (.int v3), .val (.int v4), .val (.int v5), .val (.int v6), .val (.int v7)] [(.int (1 : Int32)), (.int (v1 + v6))])) _
  refine XS.iadd X.here hx rfl (hb hby d3_132) rfl ?_
  show Steps p.tables e below (T.setTop (mkF m 133 #[.val (.ref v0), .val (.int v1), .val (.int v2), .val (.int v3), .val (.int v4), .val (.int v5), .val (.int v6), .val (.int v7)] [(.int ((v1 + v6) + (1 : Int32)))])) _
  exact kt
def F3_118 (v1 : Int32) (v6 : Int32) : Int32 := if v6 < (27 : Int32) then (F3_127 v1 v6) else F3_134
theorem b3_118 {p : Program} {l : Launch} {e : Env} {R : Room} {s : State} {m : MethodId} {args : Array Value} {below : List Frame} {meth : Method} {c : Code} {T : State} {locs : List Loc} {cells slots : Nat} {Z : State} {a0 : Array Value} (X : Stand p l e R s m args below meth c T locs cells slots) (hx : p.tables.exec = Jvm.exec) (hZ : Z.Warmed39 s.vm) (hw : ∀ d ∈ tables_1, d.before a0 Z = true) (hby : c.code = prog_18_method_6_code) (hown : s.vm.findClass "com/example/kent_ridge/kentridge/HangulSyllables" = some m.cls) {h : Heap} (e0 : T.heap = h) (v0 : Addr) (v1 : Int32) (v2 : Int32) (v3 : Int32) (v4 : Int32) (v5 : Int32) (v6 : Int32) (v7 : Int32) (F0_firstSyllable : Fld Z h v0 "com/example/kent_ridge/kentridge/HangulSyllables" "firstSyllable" "I" (.int (44032 : Int32))) (F0_firstLead : Fld Z h v0 "com/example/kent_ridge/kentridge/HangulSyllables" "firstLead" "I" (.int (4352 : Int32))) (F0_leadCount : Fld Z h v0 "com/example/kent_ridge/kentridge/HangulSyllables" "leadCount" "I" (.int (19 : Int32))) (F0_firstVowel : Fld Z h v0 "com/example/kent_ridge/kentridge/HangulSyllables" "firstVowel" "I" (.int (4449 : Int32))) (F0_vowelCount : Fld Z h v0 "com/example/kent_ridge/kentridge/HangulSyllables" "vowelCount" "I" (.int (21 : Int32))) (F0_firstTrail : Fld Z h v0 "com/example/kent_ridge/kentridge/HangulSyllables" "firstTrail" "I" (.int (4520 : Int32))) (F0_trailCount : Fld Z h v0 "com/example/kent_ridge/kentridge/HangulSyllables" "trailCount" "I" (.int (27 : Int32))) (F0_trailStates : Fld Z h v0 "com/example/kent_ridge/kentridge/HangulSyllables" "trailStates" "I" (.int (28 : Int32))) (F0_syllableCount : Fld Z h v0 "com/example/kent_ridge/kentridge/HangulSyllables" "syllableCount" "I" (.int (11172 : Int32))) :
    ∃ (T' : State) (pc' : Nat) (Ls : Array Slot), Stand p l e R s m args below meth c T' locs cells slots ∧ T'.heap = h ∧ decode c.code pc' = .ok (.ireturn, 1) ∧ ∀ target, Steps p.tables e below (T'.setTop (mkF m pc' Ls [(.int (F3_118 v1 v6))])) target → Steps p.tables e below (T.setTop (mkF m 118 #[.val (.ref v0), .val (.int v1), .val (.int v2), .val (.int v3), .val (.int v4), .val (.int v5), .val (.int v6), .val (.int v7)] [])) target := by
  obtain ⟨T1, X1, e1, st1⟩ := getF X hx hZ hown (host := "") (Or.inl (hw _ (List.mem_of_getElem? (i := 22) rfl))) Via.refl e0 F0_trailCount (g := (mkF m 121 #[.val (.ref v0), .val (.int v1), .val (.int v2), .val (.int v3), .val (.int v4), .val (.int v5), .val (.int v6), .val (.int v7)] [(.ref v0), (.int v6)])) rfl rfl (hb hby d3_121)
  by_cases hc : v6 < (27 : Int32)
  · obtain ⟨T', pc', Ls, X', e', d', st'⟩ := b3_127 X1 hx hZ hw hby hown e1 v0 v1 v2 v3 v4 v5 v6 v7 F0_firstSyllable F0_firstLead F0_leadCount F0_firstVowel F0_vowelCount F0_firstTrail F0_trailCount F0_trailStates F0_syllableCount
    refine ⟨T', pc', Ls, X', e', d', fun target kt => ?_⟩
    rw [show (F3_118 v1 v6) = (F3_127 v1 v6) from if_pos hc] at kt
    show Steps p.tables e below (T.setTop (mkF m 118 #[.val (.ref v0), .val (.int v1), .val (.int v2), .val (.int v3), .val (.int v4), .val (.int v5), .val (.int v6), .val (.int v7)] [])) _
    refine XS.iload X.here hx rfl (hb hby d3_118) rfl ?_
    show Steps p.tables e below (T.setTop (mkF m 120 #[.val (.ref v0), .val (.int v1), .val (.int v2), .val (.int v3), .val (.int v4), .val (.int v5), .val (.int v6), .val (.int v7)] [(.int v6)])) _
    refine XS.aloadN X.here hx rfl (hb hby d3_120) rfl rfl ?_
    show Steps p.tables e below (T.setTop (mkF m 121 #[.val (.ref v0), .val (.int v1), .val (.int v2), .val (.int v3), .val (.int v4), .val (.int v5), .val (.int v6), .val (.int v7)] [(.ref v0), (.int v6)])) _
    refine st1 _ ?_
    show Steps p.tables e below (T1.setTop (mkF m 124 #[.val (.ref v0), .val (.int v1), .val (.int v2), .val (.int v3), .val (.int v4), .val (.int v5), .val (.int v6), .val (.int v7)] [(.int (27 : Int32)), (.int v6)])) _
    refine XS.icmpNo X1.here hx rfl (hb hby d3_124) rfl (tlt hc).2.1 ?_
    exact st' target kt
  · obtain ⟨T', pc', Ls, X', e', d', st'⟩ := b3_134 X1 hx hZ hw hby hown e1 v0 v1 v2 v3 v4 v5 v6 v7 F0_firstSyllable F0_firstLead F0_leadCount F0_firstVowel F0_vowelCount F0_firstTrail F0_trailCount F0_trailStates F0_syllableCount
    refine ⟨T', pc', Ls, X', e', d', fun target kt => ?_⟩
    rw [show (F3_118 v1 v6) = F3_134 from if_neg hc] at kt
    show Steps p.tables e below (T.setTop (mkF m 118 #[.val (.ref v0), .val (.int v1), .val (.int v2), .val (.int v3), .val (.int v4), .val (.int v5), .val (.int v6), .val (.int v7)] [])) _
    refine XS.iload X.here hx rfl (hb hby d3_118) rfl ?_
    show Steps p.tables e below (T.setTop (mkF m 120 #[.val (.ref v0), .val (.int v1), .val (.int v2), .val (.int v3), .val (.int v4), .val (.int v5), .val (.int v6), .val (.int v7)] [(.int v6)])) _
    refine XS.aloadN X.here hx rfl (hb hby d3_120) rfl rfl ?_
    show Steps p.tables e below (T.setTop (mkF m 121 #[.val (.ref v0), .val (.int v1), .val (.int v2), .val (.int v3), .val (.int v4), .val (.int v5), .val (.int v6), .val (.int v7)] [(.ref v0), (.int v6)])) _
    refine st1 _ ?_
    show Steps p.tables e below (T1.setTop (mkF m 124 #[.val (.ref v0), .val (.int v1), .val (.int v2), .val (.int v3), .val (.int v4), .val (.int v5), .val (.int v6), .val (.int v7)] [(.int (27 : Int32)), (.int v6)])) _
    refine XS.icmpYes X1.here hx rfl (pc0 := 124) (pc' := 134) rfl (hb hby d3_124) rfl (flt hc).2.1 (by decide) (by decide) ?_
    exact st' target kt
def F3_113 (v1 : Int32) (v6 : Int32) : Int32 := if v6 < (0 : Int32) then F3_134 else (F3_118 v1 v6)
theorem b3_113 {p : Program} {l : Launch} {e : Env} {R : Room} {s : State} {m : MethodId} {args : Array Value} {below : List Frame} {meth : Method} {c : Code} {T : State} {locs : List Loc} {cells slots : Nat} {Z : State} {a0 : Array Value} (X : Stand p l e R s m args below meth c T locs cells slots) (hx : p.tables.exec = Jvm.exec) (hZ : Z.Warmed39 s.vm) (hw : ∀ d ∈ tables_1, d.before a0 Z = true) (hby : c.code = prog_18_method_6_code) (hown : s.vm.findClass "com/example/kent_ridge/kentridge/HangulSyllables" = some m.cls) {h : Heap} (e0 : T.heap = h) (v0 : Addr) (v1 : Int32) (v2 : Int32) (v3 : Int32) (v4 : Int32) (v5 : Int32) (v6 : Int32) (v7 : Int32) (F0_firstSyllable : Fld Z h v0 "com/example/kent_ridge/kentridge/HangulSyllables" "firstSyllable" "I" (.int (44032 : Int32))) (F0_firstLead : Fld Z h v0 "com/example/kent_ridge/kentridge/HangulSyllables" "firstLead" "I" (.int (4352 : Int32))) (F0_leadCount : Fld Z h v0 "com/example/kent_ridge/kentridge/HangulSyllables" "leadCount" "I" (.int (19 : Int32))) (F0_firstVowel : Fld Z h v0 "com/example/kent_ridge/kentridge/HangulSyllables" "firstVowel" "I" (.int (4449 : Int32))) (F0_vowelCount : Fld Z h v0 "com/example/kent_ridge/kentridge/HangulSyllables" "vowelCount" "I" (.int (21 : Int32))) (F0_firstTrail : Fld Z h v0 "com/example/kent_ridge/kentridge/HangulSyllables" "firstTrail" "I" (.int (4520 : Int32))) (F0_trailCount : Fld Z h v0 "com/example/kent_ridge/kentridge/HangulSyllables" "trailCount" "I" (.int (27 : Int32))) (F0_trailStates : Fld Z h v0 "com/example/kent_ridge/kentridge/HangulSyllables" "trailStates" "I" (.int (28 : Int32))) (F0_syllableCount : Fld Z h v0 "com/example/kent_ridge/kentridge/HangulSyllables" "syllableCount" "I" (.int (11172 : Int32))) :
    ∃ (T' : State) (pc' : Nat) (Ls : Array Slot), Stand p l e R s m args below meth c T' locs cells slots ∧ T'.heap = h ∧ decode c.code pc' = .ok (.ireturn, 1) ∧ ∀ target, Steps p.tables e below (T'.setTop (mkF m pc' Ls [(.int (F3_113 v1 v6))])) target → Steps p.tables e below (T.setTop (mkF m 113 #[.val (.ref v0), .val (.int v1), .val (.int v2), .val (.int v3), .val (.int v4), .val (.int v5), .val (.int v6), .val (.int v7)] [])) target := by
  by_cases hc : v6 < (0 : Int32)
  · obtain ⟨T', pc', Ls, X', e', d', st'⟩ := b3_134 X hx hZ hw hby hown e0 v0 v1 v2 v3 v4 v5 v6 v7 F0_firstSyllable F0_firstLead F0_leadCount F0_firstVowel F0_vowelCount F0_firstTrail F0_trailCount F0_trailStates F0_syllableCount
    refine ⟨T', pc', Ls, X', e', d', fun target kt => ?_⟩
    rw [show (F3_113 v1 v6) = F3_134 from if_pos hc] at kt
    show Steps p.tables e below (T.setTop (mkF m 113 #[.val (.ref v0), .val (.int v1), .val (.int v2), .val (.int v3), .val (.int v4), .val (.int v5), .val (.int v6), .val (.int v7)] [])) _
    refine XS.iload X.here hx rfl (hb hby d3_113) rfl ?_
    show Steps p.tables e below (T.setTop (mkF m 115 #[.val (.ref v0), .val (.int v1), .val (.int v2), .val (.int v3), .val (.int v4), .val (.int v5), .val (.int v6), .val (.int v7)] [(.int v6)])) _
    refine XS.ifYes X.here hx rfl (pc0 := 115) (pc' := 134) rfl (hb hby d3_115) rfl ((if0 _ _).trans (tlt hc).1) (by decide) (by decide) ?_
    exact st' target kt
  · obtain ⟨T', pc', Ls, X', e', d', st'⟩ := b3_118 X hx hZ hw hby hown e0 v0 v1 v2 v3 v4 v5 v6 v7 F0_firstSyllable F0_firstLead F0_leadCount F0_firstVowel F0_vowelCount F0_firstTrail F0_trailCount F0_trailStates F0_syllableCount
    refine ⟨T', pc', Ls, X', e', d', fun target kt => ?_⟩
    rw [show (F3_113 v1 v6) = (F3_118 v1 v6) from if_neg hc] at kt
    show Steps p.tables e below (T.setTop (mkF m 113 #[.val (.ref v0), .val (.int v1), .val (.int v2), .val (.int v3), .val (.int v4), .val (.int v5), .val (.int v6), .val (.int v7)] [])) _
    refine XS.iload X.here hx rfl (hb hby d3_113) rfl ?_
    show Steps p.tables e below (T.setTop (mkF m 115 #[.val (.ref v0), .val (.int v1), .val (.int v2), .val (.int v3), .val (.int v4), .val (.int v5), .val (.int v6), .val (.int v7)] [(.int v6)])) _
    refine XS.ifNo X.here hx rfl (hb hby d3_115) rfl ((if0 _ _).trans (flt hc).1) ?_
    exact st' target kt
def F3_105 (v1 : Int32) (v6 : Int32) : Int32 := if (0 : Int32) = (0 : Int32) then F3_134 else (F3_113 v1 v6)
theorem b3_105 {p : Program} {l : Launch} {e : Env} {R : Room} {s : State} {m : MethodId} {args : Array Value} {below : List Frame} {meth : Method} {c : Code} {T : State} {locs : List Loc} {cells slots : Nat} {Z : State} {a0 : Array Value} (X : Stand p l e R s m args below meth c T locs cells slots) (hx : p.tables.exec = Jvm.exec) (hZ : Z.Warmed39 s.vm) (hw : ∀ d ∈ tables_1, d.before a0 Z = true) (hby : c.code = prog_18_method_6_code) (hown : s.vm.findClass "com/example/kent_ridge/kentridge/HangulSyllables" = some m.cls) {h : Heap} (e0 : T.heap = h) (v0 : Addr) (v1 : Int32) (v2 : Int32) (v3 : Int32) (v4 : Int32) (v5 : Int32) (v6 : Int32) (F0_firstSyllable : Fld Z h v0 "com/example/kent_ridge/kentridge/HangulSyllables" "firstSyllable" "I" (.int (44032 : Int32))) (F0_firstLead : Fld Z h v0 "com/example/kent_ridge/kentridge/HangulSyllables" "firstLead" "I" (.int (4352 : Int32))) (F0_leadCount : Fld Z h v0 "com/example/kent_ridge/kentridge/HangulSyllables" "leadCount" "I" (.int (19 : Int32))) (F0_firstVowel : Fld Z h v0 "com/example/kent_ridge/kentridge/HangulSyllables" "firstVowel" "I" (.int (4449 : Int32))) (F0_vowelCount : Fld Z h v0 "com/example/kent_ridge/kentridge/HangulSyllables" "vowelCount" "I" (.int (21 : Int32))) (F0_firstTrail : Fld Z h v0 "com/example/kent_ridge/kentridge/HangulSyllables" "firstTrail" "I" (.int (4520 : Int32))) (F0_trailCount : Fld Z h v0 "com/example/kent_ridge/kentridge/HangulSyllables" "trailCount" "I" (.int (27 : Int32))) (F0_trailStates : Fld Z h v0 "com/example/kent_ridge/kentridge/HangulSyllables" "trailStates" "I" (.int (28 : Int32))) (F0_syllableCount : Fld Z h v0 "com/example/kent_ridge/kentridge/HangulSyllables" "syllableCount" "I" (.int (11172 : Int32))) :
    ∃ (T' : State) (pc' : Nat) (Ls : Array Slot), Stand p l e R s m args below meth c T' locs cells slots ∧ T'.heap = h ∧ decode c.code pc' = .ok (.ireturn, 1) ∧ ∀ target, Steps p.tables e below (T'.setTop (mkF m pc' Ls [(.int (F3_105 v1 v6))])) target → Steps p.tables e below (T.setTop (mkF m 105 #[.val (.ref v0), .val (.int v1), .val (.int v2), .val (.int v3), .val (.int v4), .val (.int v5), .val (.int v6), .unset] [])) target := by
  by_cases hc : (0 : Int32) = (0 : Int32)
  · obtain ⟨T', pc', Ls, X', e', d', st'⟩ := b3_134 X hx hZ hw hby hown e0 v0 v1 v2 v3 v4 v5 v6 (0 : Int32) F0_firstSyllable F0_firstLead F0_leadCount F0_firstVowel F0_vowelCount F0_firstTrail F0_trailCount F0_trailStates F0_syllableCount
    refine ⟨T', pc', Ls, X', e', d', fun target kt => ?_⟩
    rw [show (F3_105 v1 v6) = F3_134 from if_pos hc] at kt
    show Steps p.tables e below (T.setTop (mkF m 105 #[.val (.ref v0), .val (.int v1), .val (.int v2), .val (.int v3), .val (.int v4), .val (.int v5), .val (.int v6), .unset] [])) _
    refine XS.iconst X.here hx rfl (hb hby d3_105) ?_
    show Steps p.tables e below (T.setTop (mkF m 106 #[.val (.ref v0), .val (.int v1), .val (.int v2), .val (.int v3), .val (.int v4), .val (.int v5), .val (.int v6), .unset] [(.int (0 : Int32))])) _
    refine XS.istore X.here hx rfl (hb hby d3_106) rfl (l' := #[.val (.ref v0), .val (.int v1), .val (.int v2), .val (.int v3), .val (.int v4), .val (.int v5), .val (.int v6), .val (.int (0 : Int32))]) rfl ?_
    show Steps p.tables e below (T.setTop (mkF m 108 #[.val (.ref v0), .val (.int v1), .val (.int v2), .val (.int v3), .val (.int v4), .val (.int v5), .val (.int v6), .val (.int (0 : Int32))] [])) _
    refine XS.iload X.here hx rfl (hb hby d3_108) rfl ?_
    show Steps p.tables e below (T.setTop (mkF m 110 #[.val (.ref v0), .val (.int v1), .val (.int v2), .val (.int v3), .val (.int v4), .val (.int v5), .val (.int v6), .val (.int (0 : Int32))] [(.int (0 : Int32))])) _
    refine XS.ifYes X.here hx rfl (pc0 := 110) (pc' := 134) rfl (hb hby d3_110) rfl ((if0 _ _).trans (teq hc).1) (by decide) (by decide) ?_
    exact st' target kt
  · obtain ⟨T', pc', Ls, X', e', d', st'⟩ := b3_113 X hx hZ hw hby hown e0 v0 v1 v2 v3 v4 v5 v6 (0 : Int32) F0_firstSyllable F0_firstLead F0_leadCount F0_firstVowel F0_vowelCount F0_firstTrail F0_trailCount F0_trailStates F0_syllableCount
    refine ⟨T', pc', Ls, X', e', d', fun target kt => ?_⟩
    rw [show (F3_105 v1 v6) = (F3_113 v1 v6) from if_neg hc] at kt
    show Steps p.tables e below (T.setTop (mkF m 105 #[.val (.ref v0), .val (.int v1), .val (.int v2), .val (.int v3), .val (.int v4), .val (.int v5), .val (.int v6), .unset] [])) _
    refine XS.iconst X.here hx rfl (hb hby d3_105) ?_
    show Steps p.tables e below (T.setTop (mkF m 106 #[.val (.ref v0), .val (.int v1), .val (.int v2), .val (.int v3), .val (.int v4), .val (.int v5), .val (.int v6), .unset] [(.int (0 : Int32))])) _
    refine XS.istore X.here hx rfl (hb hby d3_106) rfl (l' := #[.val (.ref v0), .val (.int v1), .val (.int v2), .val (.int v3), .val (.int v4), .val (.int v5), .val (.int v6), .val (.int (0 : Int32))]) rfl ?_
    show Steps p.tables e below (T.setTop (mkF m 108 #[.val (.ref v0), .val (.int v1), .val (.int v2), .val (.int v3), .val (.int v4), .val (.int v5), .val (.int v6), .val (.int (0 : Int32))] [])) _
    refine XS.iload X.here hx rfl (hb hby d3_108) rfl ?_
    show Steps p.tables e below (T.setTop (mkF m 110 #[.val (.ref v0), .val (.int v1), .val (.int v2), .val (.int v3), .val (.int v4), .val (.int v5), .val (.int v6), .val (.int (0 : Int32))] [(.int (0 : Int32))])) _
    refine XS.ifNo X.here hx rfl (hb hby d3_110) rfl ((if0 _ _).trans (feq hc).1) ?_
    exact st' target kt
def F3_101 (v1 : Int32) (v6 : Int32) : Int32 := if (1 : Int32) = (0 : Int32) then F3_134 else (F3_113 v1 v6)
theorem b3_101 {p : Program} {l : Launch} {e : Env} {R : Room} {s : State} {m : MethodId} {args : Array Value} {below : List Frame} {meth : Method} {c : Code} {T : State} {locs : List Loc} {cells slots : Nat} {Z : State} {a0 : Array Value} (X : Stand p l e R s m args below meth c T locs cells slots) (hx : p.tables.exec = Jvm.exec) (hZ : Z.Warmed39 s.vm) (hw : ∀ d ∈ tables_1, d.before a0 Z = true) (hby : c.code = prog_18_method_6_code) (hown : s.vm.findClass "com/example/kent_ridge/kentridge/HangulSyllables" = some m.cls) {h : Heap} (e0 : T.heap = h) (v0 : Addr) (v1 : Int32) (v2 : Int32) (v3 : Int32) (v4 : Int32) (v5 : Int32) (v6 : Int32) (F0_firstSyllable : Fld Z h v0 "com/example/kent_ridge/kentridge/HangulSyllables" "firstSyllable" "I" (.int (44032 : Int32))) (F0_firstLead : Fld Z h v0 "com/example/kent_ridge/kentridge/HangulSyllables" "firstLead" "I" (.int (4352 : Int32))) (F0_leadCount : Fld Z h v0 "com/example/kent_ridge/kentridge/HangulSyllables" "leadCount" "I" (.int (19 : Int32))) (F0_firstVowel : Fld Z h v0 "com/example/kent_ridge/kentridge/HangulSyllables" "firstVowel" "I" (.int (4449 : Int32))) (F0_vowelCount : Fld Z h v0 "com/example/kent_ridge/kentridge/HangulSyllables" "vowelCount" "I" (.int (21 : Int32))) (F0_firstTrail : Fld Z h v0 "com/example/kent_ridge/kentridge/HangulSyllables" "firstTrail" "I" (.int (4520 : Int32))) (F0_trailCount : Fld Z h v0 "com/example/kent_ridge/kentridge/HangulSyllables" "trailCount" "I" (.int (27 : Int32))) (F0_trailStates : Fld Z h v0 "com/example/kent_ridge/kentridge/HangulSyllables" "trailStates" "I" (.int (28 : Int32))) (F0_syllableCount : Fld Z h v0 "com/example/kent_ridge/kentridge/HangulSyllables" "syllableCount" "I" (.int (11172 : Int32))) :
    ∃ (T' : State) (pc' : Nat) (Ls : Array Slot), Stand p l e R s m args below meth c T' locs cells slots ∧ T'.heap = h ∧ decode c.code pc' = .ok (.ireturn, 1) ∧ ∀ target, Steps p.tables e below (T'.setTop (mkF m pc' Ls [(.int (F3_101 v1 v6))])) target → Steps p.tables e below (T.setTop (mkF m 101 #[.val (.ref v0), .val (.int v1), .val (.int v2), .val (.int v3), .val (.int v4), .val (.int v5), .val (.int v6), .unset] [])) target := by
  by_cases hc : (1 : Int32) = (0 : Int32)
  · obtain ⟨T', pc', Ls, X', e', d', st'⟩ := b3_134 X hx hZ hw hby hown e0 v0 v1 v2 v3 v4 v5 v6 (1 : Int32) F0_firstSyllable F0_firstLead F0_leadCount F0_firstVowel F0_vowelCount F0_firstTrail F0_trailCount F0_trailStates F0_syllableCount
    refine ⟨T', pc', Ls, X', e', d', fun target kt => ?_⟩
    rw [show (F3_101 v1 v6) = F3_134 from if_pos hc] at kt
    show Steps p.tables e below (T.setTop (mkF m 101 #[.val (.ref v0), .val (.int v1), .val (.int v2), .val (.int v3), .val (.int v4), .val (.int v5), .val (.int v6), .unset] [])) _
    refine XS.iconst X.here hx rfl (hb hby d3_101) ?_
    show Steps p.tables e below (T.setTop (mkF m 102 #[.val (.ref v0), .val (.int v1), .val (.int v2), .val (.int v3), .val (.int v4), .val (.int v5), .val (.int v6), .unset] [(.int (1 : Int32))])) _
    refine XS.goto X.here hx rfl (pc0 := 102) (pc' := 106) rfl (hb hby d3_102) (by decide) (by decide) ?_
    show Steps p.tables e below (T.setTop (mkF m 106 #[.val (.ref v0), .val (.int v1), .val (.int v2), .val (.int v3), .val (.int v4), .val (.int v5), .val (.int v6), .unset] [(.int (1 : Int32))])) _
    refine XS.istore X.here hx rfl (hb hby d3_106) rfl (l' := #[.val (.ref v0), .val (.int v1), .val (.int v2), .val (.int v3), .val (.int v4), .val (.int v5), .val (.int v6), .val (.int (1 : Int32))]) rfl ?_
    show Steps p.tables e below (T.setTop (mkF m 108 #[.val (.ref v0), .val (.int v1), .val (.int v2), .val (.int v3), .val (.int v4), .val (.int v5), .val (.int v6), .val (.int (1 : Int32))] [])) _
    refine XS.iload X.here hx rfl (hb hby d3_108) rfl ?_
    show Steps p.tables e below (T.setTop (mkF m 110 #[.val (.ref v0), .val (.int v1), .val (.int v2), .val (.int v3), .val (.int v4), .val (.int v5), .val (.int v6), .val (.int (1 : Int32))] [(.int (1 : Int32))])) _
    refine XS.ifYes X.here hx rfl (pc0 := 110) (pc' := 134) rfl (hb hby d3_110) rfl ((if0 _ _).trans (teq hc).1) (by decide) (by decide) ?_
    exact st' target kt
  · obtain ⟨T', pc', Ls, X', e', d', st'⟩ := b3_113 X hx hZ hw hby hown e0 v0 v1 v2 v3 v4 v5 v6 (1 : Int32) F0_firstSyllable F0_firstLead F0_leadCount F0_firstVowel F0_vowelCount F0_firstTrail F0_trailCount F0_trailStates F0_syllableCount
    refine ⟨T', pc', Ls, X', e', d', fun target kt => ?_⟩
    rw [show (F3_101 v1 v6) = (F3_113 v1 v6) from if_neg hc] at kt
    show Steps p.tables e below (T.setTop (mkF m 101 #[.val (.ref v0), .val (.int v1), .val (.int v2), .val (.int v3), .val (.int v4), .val (.int v5), .val (.int v6), .unset] [])) _
    refine XS.iconst X.here hx rfl (hb hby d3_101) ?_
    show Steps p.tables e below (T.setTop (mkF m 102 #[.val (.ref v0), .val (.int v1), .val (.int v2), .val (.int v3), .val (.int v4), .val (.int v5), .val (.int v6), .unset] [(.int (1 : Int32))])) _
    refine XS.goto X.here hx rfl (pc0 := 102) (pc' := 106) rfl (hb hby d3_102) (by decide) (by decide) ?_
    show Steps p.tables e below (T.setTop (mkF m 106 #[.val (.ref v0), .val (.int v1), .val (.int v2), .val (.int v3), .val (.int v4), .val (.int v5), .val (.int v6), .unset] [(.int (1 : Int32))])) _
    refine XS.istore X.here hx rfl (hb hby d3_106) rfl (l' := #[.val (.ref v0), .val (.int v1), .val (.int v2), .val (.int v3), .val (.int v4), .val (.int v5), .val (.int v6), .val (.int (1 : Int32))]) rfl ?_
    show Steps p.tables e below (T.setTop (mkF m 108 #[.val (.ref v0), .val (.int v1), .val (.int v2), .val (.int v3), .val (.int v4), .val (.int v5), .val (.int v6), .val (.int (1 : Int32))] [])) _
    refine XS.iload X.here hx rfl (hb hby d3_108) rfl ?_
    show Steps p.tables e below (T.setTop (mkF m 110 #[.val (.ref v0), .val (.int v1), .val (.int v2), .val (.int v3), .val (.int v4), .val (.int v5), .val (.int v6), .val (.int (1 : Int32))] [(.int (1 : Int32))])) _
    refine XS.ifNo X.here hx rfl (hb hby d3_110) rfl ((if0 _ _).trans (feq hc).1) ?_
    exact st' target kt
def F3_91 (v1 : Int32) (v5 : Int32) (v6 : Int32) : Int32 := if (v5 - (v5 / (28 : Int32)) * (28 : Int32)) = (0 : Int32) then (F3_101 v1 v6) else (F3_105 v1 v6)
theorem b3_91 {p : Program} {l : Launch} {e : Env} {R : Room} {s : State} {m : MethodId} {args : Array Value} {below : List Frame} {meth : Method} {c : Code} {T : State} {locs : List Loc} {cells slots : Nat} {Z : State} {a0 : Array Value} (X : Stand p l e R s m args below meth c T locs cells slots) (hx : p.tables.exec = Jvm.exec) (hZ : Z.Warmed39 s.vm) (hw : ∀ d ∈ tables_1, d.before a0 Z = true) (hby : c.code = prog_18_method_6_code) (hown : s.vm.findClass "com/example/kent_ridge/kentridge/HangulSyllables" = some m.cls) {h : Heap} (e0 : T.heap = h) (v0 : Addr) (v1 : Int32) (v2 : Int32) (v3 : Int32) (v4 : Int32) (v5 : Int32) (v6 : Int32) (F0_firstSyllable : Fld Z h v0 "com/example/kent_ridge/kentridge/HangulSyllables" "firstSyllable" "I" (.int (44032 : Int32))) (F0_firstLead : Fld Z h v0 "com/example/kent_ridge/kentridge/HangulSyllables" "firstLead" "I" (.int (4352 : Int32))) (F0_leadCount : Fld Z h v0 "com/example/kent_ridge/kentridge/HangulSyllables" "leadCount" "I" (.int (19 : Int32))) (F0_firstVowel : Fld Z h v0 "com/example/kent_ridge/kentridge/HangulSyllables" "firstVowel" "I" (.int (4449 : Int32))) (F0_vowelCount : Fld Z h v0 "com/example/kent_ridge/kentridge/HangulSyllables" "vowelCount" "I" (.int (21 : Int32))) (F0_firstTrail : Fld Z h v0 "com/example/kent_ridge/kentridge/HangulSyllables" "firstTrail" "I" (.int (4520 : Int32))) (F0_trailCount : Fld Z h v0 "com/example/kent_ridge/kentridge/HangulSyllables" "trailCount" "I" (.int (27 : Int32))) (F0_trailStates : Fld Z h v0 "com/example/kent_ridge/kentridge/HangulSyllables" "trailStates" "I" (.int (28 : Int32))) (F0_syllableCount : Fld Z h v0 "com/example/kent_ridge/kentridge/HangulSyllables" "syllableCount" "I" (.int (11172 : Int32))) :
    ∃ (T' : State) (pc' : Nat) (Ls : Array Slot), Stand p l e R s m args below meth c T' locs cells slots ∧ T'.heap = h ∧ decode c.code pc' = .ok (.ireturn, 1) ∧ ∀ target, Steps p.tables e below (T'.setTop (mkF m pc' Ls [(.int (F3_91 v1 v5 v6))])) target → Steps p.tables e below (T.setTop (mkF m 91 #[.val (.ref v0), .val (.int v1), .val (.int v2), .val (.int v3), .val (.int v4), .val (.int v5), .val (.int v6), .unset] [])) target := by
  obtain ⟨T1, X1, e1, st1⟩ := getF X hx hZ hown (host := "") (Or.inl (hw _ (List.mem_of_getElem? (i := 24) rfl))) Via.refl e0 F0_trailStates (g := (mkF m 94 #[.val (.ref v0), .val (.int v1), .val (.int v2), .val (.int v3), .val (.int v4), .val (.int v5), .val (.int v6), .unset] [(.ref v0), (.int v5)])) rfl rfl (hb hby d3_94)
  by_cases hc : (v5 - (v5 / (28 : Int32)) * (28 : Int32)) = (0 : Int32)
  · obtain ⟨T', pc', Ls, X', e', d', st'⟩ := b3_101 X1 hx hZ hw hby hown e1 v0 v1 v2 v3 v4 v5 v6 F0_firstSyllable F0_firstLead F0_leadCount F0_firstVowel F0_vowelCount F0_firstTrail F0_trailCount F0_trailStates F0_syllableCount
    refine ⟨T', pc', Ls, X', e', d', fun target kt => ?_⟩
    rw [show (F3_91 v1 v5 v6) = (F3_101 v1 v6) from if_pos hc] at kt
    show Steps p.tables e below (T.setTop (mkF m 91 #[.val (.ref v0), .val (.int v1), .val (.int v2), .val (.int v3), .val (.int v4), .val (.int v5), .val (.int v6), .unset] [])) _
    refine XS.iload X.here hx rfl (hb hby d3_91) rfl ?_
    show Steps p.tables e below (T.setTop (mkF m 93 #[.val (.ref v0), .val (.int v1), .val (.int v2), .val (.int v3), .val (.int v4), .val (.int v5), .val (.int v6), .unset] [(.int v5)])) _
    refine XS.aloadN X.here hx rfl (hb hby d3_93) rfl rfl ?_
    show Steps p.tables e below (T.setTop (mkF m 94 #[.val (.ref v0), .val (.int v1), .val (.int v2), .val (.int v3), .val (.int v4), .val (.int v5), .val (.int v6), .unset] [(.ref v0), (.int v5)])) _
    refine st1 _ ?_
    show Steps p.tables e below (T1.setTop (mkF m 97 #[.val (.ref v0), .val (.int v1), .val (.int v2), .val (.int v3), .val (.int v4), .val (.int v5), .val (.int v6), .unset] [(.int (28 : Int32)), (.int v5)])) _
    refine XS.irem X1.here hx rfl (hb hby d3_97) rfl (by decide) ?_
    show Steps p.tables e below (T1.setTop (mkF m 98 #[.val (.ref v0), .val (.int v1), .val (.int v2), .val (.int v3), .val (.int v4), .val (.int v5), .val (.int v6), .unset] [(.int (v5 - (v5 / (28 : Int32)) * (28 : Int32)))])) _
    refine XS.ifNo X1.here hx rfl (hb hby d3_98) rfl ((if0 _ _).trans (teq hc).2) ?_
    exact st' target kt
  · obtain ⟨T', pc', Ls, X', e', d', st'⟩ := b3_105 X1 hx hZ hw hby hown e1 v0 v1 v2 v3 v4 v5 v6 F0_firstSyllable F0_firstLead F0_leadCount F0_firstVowel F0_vowelCount F0_firstTrail F0_trailCount F0_trailStates F0_syllableCount
    refine ⟨T', pc', Ls, X', e', d', fun target kt => ?_⟩
    rw [show (F3_91 v1 v5 v6) = (F3_105 v1 v6) from if_neg hc] at kt
    show Steps p.tables e below (T.setTop (mkF m 91 #[.val (.ref v0), .val (.int v1), .val (.int v2), .val (.int v3), .val (.int v4), .val (.int v5), .val (.int v6), .unset] [])) _
    refine XS.iload X.here hx rfl (hb hby d3_91) rfl ?_
    show Steps p.tables e below (T.setTop (mkF m 93 #[.val (.ref v0), .val (.int v1), .val (.int v2), .val (.int v3), .val (.int v4), .val (.int v5), .val (.int v6), .unset] [(.int v5)])) _
    refine XS.aloadN X.here hx rfl (hb hby d3_93) rfl rfl ?_
    show Steps p.tables e below (T.setTop (mkF m 94 #[.val (.ref v0), .val (.int v1), .val (.int v2), .val (.int v3), .val (.int v4), .val (.int v5), .val (.int v6), .unset] [(.ref v0), (.int v5)])) _
    refine st1 _ ?_
    show Steps p.tables e below (T1.setTop (mkF m 97 #[.val (.ref v0), .val (.int v1), .val (.int v2), .val (.int v3), .val (.int v4), .val (.int v5), .val (.int v6), .unset] [(.int (28 : Int32)), (.int v5)])) _
    refine XS.irem X1.here hx rfl (hb hby d3_97) rfl (by decide) ?_
    show Steps p.tables e below (T1.setTop (mkF m 98 #[.val (.ref v0), .val (.int v1), .val (.int v2), .val (.int v3), .val (.int v4), .val (.int v5), .val (.int v6), .unset] [(.int (v5 - (v5 / (28 : Int32)) * (28 : Int32)))])) _
    refine XS.ifYes X1.here hx rfl (pc0 := 98) (pc' := 105) rfl (hb hby d3_98) rfl ((if0 _ _).trans (feq hc).2) (by decide) (by decide) ?_
    exact st' target kt
def F3_82 (v1 : Int32) (v5 : Int32) (v6 : Int32) : Int32 := if v5 < (11172 : Int32) then (F3_91 v1 v5 v6) else (F3_105 v1 v6)
theorem b3_82 {p : Program} {l : Launch} {e : Env} {R : Room} {s : State} {m : MethodId} {args : Array Value} {below : List Frame} {meth : Method} {c : Code} {T : State} {locs : List Loc} {cells slots : Nat} {Z : State} {a0 : Array Value} (X : Stand p l e R s m args below meth c T locs cells slots) (hx : p.tables.exec = Jvm.exec) (hZ : Z.Warmed39 s.vm) (hw : ∀ d ∈ tables_1, d.before a0 Z = true) (hby : c.code = prog_18_method_6_code) (hown : s.vm.findClass "com/example/kent_ridge/kentridge/HangulSyllables" = some m.cls) {h : Heap} (e0 : T.heap = h) (v0 : Addr) (v1 : Int32) (v2 : Int32) (v3 : Int32) (v4 : Int32) (v5 : Int32) (v6 : Int32) (F0_firstSyllable : Fld Z h v0 "com/example/kent_ridge/kentridge/HangulSyllables" "firstSyllable" "I" (.int (44032 : Int32))) (F0_firstLead : Fld Z h v0 "com/example/kent_ridge/kentridge/HangulSyllables" "firstLead" "I" (.int (4352 : Int32))) (F0_leadCount : Fld Z h v0 "com/example/kent_ridge/kentridge/HangulSyllables" "leadCount" "I" (.int (19 : Int32))) (F0_firstVowel : Fld Z h v0 "com/example/kent_ridge/kentridge/HangulSyllables" "firstVowel" "I" (.int (4449 : Int32))) (F0_vowelCount : Fld Z h v0 "com/example/kent_ridge/kentridge/HangulSyllables" "vowelCount" "I" (.int (21 : Int32))) (F0_firstTrail : Fld Z h v0 "com/example/kent_ridge/kentridge/HangulSyllables" "firstTrail" "I" (.int (4520 : Int32))) (F0_trailCount : Fld Z h v0 "com/example/kent_ridge/kentridge/HangulSyllables" "trailCount" "I" (.int (27 : Int32))) (F0_trailStates : Fld Z h v0 "com/example/kent_ridge/kentridge/HangulSyllables" "trailStates" "I" (.int (28 : Int32))) (F0_syllableCount : Fld Z h v0 "com/example/kent_ridge/kentridge/HangulSyllables" "syllableCount" "I" (.int (11172 : Int32))) :
    ∃ (T' : State) (pc' : Nat) (Ls : Array Slot), Stand p l e R s m args below meth c T' locs cells slots ∧ T'.heap = h ∧ decode c.code pc' = .ok (.ireturn, 1) ∧ ∀ target, Steps p.tables e below (T'.setTop (mkF m pc' Ls [(.int (F3_82 v1 v5 v6))])) target → Steps p.tables e below (T.setTop (mkF m 82 #[.val (.ref v0), .val (.int v1), .val (.int v2), .val (.int v3), .val (.int v4), .val (.int v5), .val (.int v6), .unset] [])) target := by
  obtain ⟨T1, X1, e1, st1⟩ := getF X hx hZ hown (host := "") (Or.inl (hw _ (List.mem_of_getElem? (i := 26) rfl))) Via.refl e0 F0_syllableCount (g := (mkF m 85 #[.val (.ref v0), .val (.int v1), .val (.int v2), .val (.int v3), .val (.int v4), .val (.int v5), .val (.int v6), .unset] [(.ref v0), (.int v5)])) rfl rfl (hb hby d3_85)
  by_cases hc : v5 < (11172 : Int32)
  · obtain ⟨T', pc', Ls, X', e', d', st'⟩ := b3_91 X1 hx hZ hw hby hown e1 v0 v1 v2 v3 v4 v5 v6 F0_firstSyllable F0_firstLead F0_leadCount F0_firstVowel F0_vowelCount F0_firstTrail F0_trailCount F0_trailStates F0_syllableCount
    refine ⟨T', pc', Ls, X', e', d', fun target kt => ?_⟩
    rw [show (F3_82 v1 v5 v6) = (F3_91 v1 v5 v6) from if_pos hc] at kt
    show Steps p.tables e below (T.setTop (mkF m 82 #[.val (.ref v0), .val (.int v1), .val (.int v2), .val (.int v3), .val (.int v4), .val (.int v5), .val (.int v6), .unset] [])) _
    refine XS.iload X.here hx rfl (hb hby d3_82) rfl ?_
    show Steps p.tables e below (T.setTop (mkF m 84 #[.val (.ref v0), .val (.int v1), .val (.int v2), .val (.int v3), .val (.int v4), .val (.int v5), .val (.int v6), .unset] [(.int v5)])) _
    refine XS.aloadN X.here hx rfl (hb hby d3_84) rfl rfl ?_
    show Steps p.tables e below (T.setTop (mkF m 85 #[.val (.ref v0), .val (.int v1), .val (.int v2), .val (.int v3), .val (.int v4), .val (.int v5), .val (.int v6), .unset] [(.ref v0), (.int v5)])) _
    refine st1 _ ?_
    show Steps p.tables e below (T1.setTop (mkF m 88 #[.val (.ref v0), .val (.int v1), .val (.int v2), .val (.int v3), .val (.int v4), .val (.int v5), .val (.int v6), .unset] [(.int (11172 : Int32)), (.int v5)])) _
    refine XS.icmpNo X1.here hx rfl (hb hby d3_88) rfl (tlt hc).2.1 ?_
    exact st' target kt
  · obtain ⟨T', pc', Ls, X', e', d', st'⟩ := b3_105 X1 hx hZ hw hby hown e1 v0 v1 v2 v3 v4 v5 v6 F0_firstSyllable F0_firstLead F0_leadCount F0_firstVowel F0_vowelCount F0_firstTrail F0_trailCount F0_trailStates F0_syllableCount
    refine ⟨T', pc', Ls, X', e', d', fun target kt => ?_⟩
    rw [show (F3_82 v1 v5 v6) = (F3_105 v1 v6) from if_neg hc] at kt
    show Steps p.tables e below (T.setTop (mkF m 82 #[.val (.ref v0), .val (.int v1), .val (.int v2), .val (.int v3), .val (.int v4), .val (.int v5), .val (.int v6), .unset] [])) _
    refine XS.iload X.here hx rfl (hb hby d3_82) rfl ?_
    show Steps p.tables e below (T.setTop (mkF m 84 #[.val (.ref v0), .val (.int v1), .val (.int v2), .val (.int v3), .val (.int v4), .val (.int v5), .val (.int v6), .unset] [(.int v5)])) _
    refine XS.aloadN X.here hx rfl (hb hby d3_84) rfl rfl ?_
    show Steps p.tables e below (T.setTop (mkF m 85 #[.val (.ref v0), .val (.int v1), .val (.int v2), .val (.int v3), .val (.int v4), .val (.int v5), .val (.int v6), .unset] [(.ref v0), (.int v5)])) _
    refine st1 _ ?_
    show Steps p.tables e below (T1.setTop (mkF m 88 #[.val (.ref v0), .val (.int v1), .val (.int v2), .val (.int v3), .val (.int v4), .val (.int v5), .val (.int v6), .unset] [(.int (11172 : Int32)), (.int v5)])) _
    refine XS.icmpYes X1.here hx rfl (pc0 := 88) (pc' := 105) rfl (hb hby d3_88) rfl (flt hc).2.1 (by decide) (by decide) ?_
    exact st' target kt
def F3_61 (v1 : Int32) (v2 : Int32) : Int32 := if (v1 - (44032 : Int32)) < (0 : Int32) then (F3_105 v1 (v2 - (4520 : Int32))) else (F3_82 v1 (v1 - (44032 : Int32)) (v2 - (4520 : Int32)))
theorem b3_61 {p : Program} {l : Launch} {e : Env} {R : Room} {s : State} {m : MethodId} {args : Array Value} {below : List Frame} {meth : Method} {c : Code} {T : State} {locs : List Loc} {cells slots : Nat} {Z : State} {a0 : Array Value} (X : Stand p l e R s m args below meth c T locs cells slots) (hx : p.tables.exec = Jvm.exec) (hZ : Z.Warmed39 s.vm) (hw : ∀ d ∈ tables_1, d.before a0 Z = true) (hby : c.code = prog_18_method_6_code) (hown : s.vm.findClass "com/example/kent_ridge/kentridge/HangulSyllables" = some m.cls) {h : Heap} (e0 : T.heap = h) (v0 : Addr) (v1 : Int32) (v2 : Int32) (v3 : Int32) (v4 : Int32) (F0_firstSyllable : Fld Z h v0 "com/example/kent_ridge/kentridge/HangulSyllables" "firstSyllable" "I" (.int (44032 : Int32))) (F0_firstLead : Fld Z h v0 "com/example/kent_ridge/kentridge/HangulSyllables" "firstLead" "I" (.int (4352 : Int32))) (F0_leadCount : Fld Z h v0 "com/example/kent_ridge/kentridge/HangulSyllables" "leadCount" "I" (.int (19 : Int32))) (F0_firstVowel : Fld Z h v0 "com/example/kent_ridge/kentridge/HangulSyllables" "firstVowel" "I" (.int (4449 : Int32))) (F0_vowelCount : Fld Z h v0 "com/example/kent_ridge/kentridge/HangulSyllables" "vowelCount" "I" (.int (21 : Int32))) (F0_firstTrail : Fld Z h v0 "com/example/kent_ridge/kentridge/HangulSyllables" "firstTrail" "I" (.int (4520 : Int32))) (F0_trailCount : Fld Z h v0 "com/example/kent_ridge/kentridge/HangulSyllables" "trailCount" "I" (.int (27 : Int32))) (F0_trailStates : Fld Z h v0 "com/example/kent_ridge/kentridge/HangulSyllables" "trailStates" "I" (.int (28 : Int32))) (F0_syllableCount : Fld Z h v0 "com/example/kent_ridge/kentridge/HangulSyllables" "syllableCount" "I" (.int (11172 : Int32))) :
    ∃ (T' : State) (pc' : Nat) (Ls : Array Slot), Stand p l e R s m args below meth c T' locs cells slots ∧ T'.heap = h ∧ decode c.code pc' = .ok (.ireturn, 1) ∧ ∀ target, Steps p.tables e below (T'.setTop (mkF m pc' Ls [(.int (F3_61 v1 v2))])) target → Steps p.tables e below (T.setTop (mkF m 61 #[.val (.ref v0), .val (.int v1), .val (.int v2), .val (.int v3), .val (.int v4), .unset, .unset, .unset] [])) target := by
  obtain ⟨T1, X1, e1, st1⟩ := getF X hx hZ hown (host := "") (Or.inl (hw _ (List.mem_of_getElem? (i := 10) rfl))) Via.refl e0 F0_firstSyllable (g := (mkF m 63 #[.val (.ref v0), .val (.int v1), .val (.int v2), .val (.int v3), .val (.int v4), .unset, .unset, .unset] [(.ref v0), (.int v1)])) rfl rfl (hb hby d3_63)
  obtain ⟨T2, X2, e2, st2⟩ := getF X1 hx hZ hown (host := "") (Or.inl (hw _ (List.mem_of_getElem? (i := 20) rfl))) Via.refl e1 F0_firstTrail (g := (mkF m 71 #[.val (.ref v0), .val (.int v1), .val (.int v2), .val (.int v3), .val (.int v4), .val (.int (v1 - (44032 : Int32))), .unset, .unset] [(.ref v0), (.int v2)])) rfl rfl (hb hby d3_71)
  by_cases hc : (v1 - (44032 : Int32)) < (0 : Int32)
  · obtain ⟨T', pc', Ls, X', e', d', st'⟩ := b3_105 X2 hx hZ hw hby hown e2 v0 v1 v2 v3 v4 (v1 - (44032 : Int32)) (v2 - (4520 : Int32)) F0_firstSyllable F0_firstLead F0_leadCount F0_firstVowel F0_vowelCount F0_firstTrail F0_trailCount F0_trailStates F0_syllableCount
    refine ⟨T', pc', Ls, X', e', d', fun target kt => ?_⟩
    rw [show (F3_61 v1 v2) = (F3_105 v1 (v2 - (4520 : Int32))) from if_pos hc] at kt
    show Steps p.tables e below (T.setTop (mkF m 61 #[.val (.ref v0), .val (.int v1), .val (.int v2), .val (.int v3), .val (.int v4), .unset, .unset, .unset] [])) _
    refine XS.iloadN X.here hx rfl (hb hby d3_61) rfl ?_
    show Steps p.tables e below (T.setTop (mkF m 62 #[.val (.ref v0), .val (.int v1), .val (.int v2), .val (.int v3), .val (.int v4), .unset, .unset, .unset] [(.int v1)])) _
    refine XS.aloadN X.here hx rfl (hb hby d3_62) rfl rfl ?_
    show Steps p.tables e below (T.setTop (mkF m 63 #[.val (.ref v0), .val (.int v1), .val (.int v2), .val (.int v3), .val (.int v4), .unset, .unset, .unset] [(.ref v0), (.int v1)])) _
    refine st1 _ ?_
    show Steps p.tables e below (T1.setTop (mkF m 66 #[.val (.ref v0), .val (.int v1), .val (.int v2), .val (.int v3), .val (.int v4), .unset, .unset, .unset] [(.int (44032 : Int32)), (.int v1)])) _
    refine XS.isub X1.here hx rfl (hb hby d3_66) rfl ?_
    show Steps p.tables e below (T1.setTop (mkF m 67 #[.val (.ref v0), .val (.int v1), .val (.int v2), .val (.int v3), .val (.int v4), .unset, .unset, .unset] [(.int (v1 - (44032 : Int32)))])) _
    refine XS.istore X1.here hx rfl (hb hby d3_67) rfl (l' := #[.val (.ref v0), .val (.int v1), .val (.int v2), .val (.int v3), .val (.int v4), .val (.int (v1 - (44032 : Int32))), .unset, .unset]) rfl ?_
    show Steps p.tables e below (T1.setTop (mkF m 69 #[.val (.ref v0), .val (.int v1), .val (.int v2), .val (.int v3), .val (.int v4), .val (.int (v1 - (44032 : Int32))), .unset, .unset] [])) _
    refine XS.iloadN X1.here hx rfl (hb hby d3_69) rfl ?_
    show Steps p.tables e below (T1.setTop (mkF m 70 #[.val (.ref v0), .val (.int v1), .val (.int v2), .val (.int v3), .val (.int v4), .val (.int (v1 - (44032 : Int32))), .unset, .unset] [(.int v2)])) _
    refine XS.aloadN X1.here hx rfl (hb hby d3_70) rfl rfl ?_
    show Steps p.tables e below (T1.setTop (mkF m 71 #[.val (.ref v0), .val (.int v1), .val (.int v2), .val (.int v3), .val (.int v4), .val (.int (v1 - (44032 : Int32))), .unset, .unset] [(.ref v0), (.int v2)])) _
    refine st2 _ ?_
    show Steps p.tables e below (T2.setTop (mkF m 74 #[.val (.ref v0), .val (.int v1), .val (.int v2), .val (.int v3), .val (.int v4), .val (.int (v1 - (44032 : Int32))), .unset, .unset] [(.int (4520 : Int32)), (.int v2)])) _
    refine XS.isub X2.here hx rfl (hb hby d3_74) rfl ?_
    show Steps p.tables e below (T2.setTop (mkF m 75 #[.val (.ref v0), .val (.int v1), .val (.int v2), .val (.int v3), .val (.int v4), .val (.int (v1 - (44032 : Int32))), .unset, .unset] [(.int (v2 - (4520 : Int32)))])) _
    refine XS.istore X2.here hx rfl (hb hby d3_75) rfl (l' := #[.val (.ref v0), .val (.int v1), .val (.int v2), .val (.int v3), .val (.int v4), .val (.int (v1 - (44032 : Int32))), .val (.int (v2 - (4520 : Int32))), .unset]) rfl ?_
    show Steps p.tables e below (T2.setTop (mkF m 77 #[.val (.ref v0), .val (.int v1), .val (.int v2), .val (.int v3), .val (.int v4), .val (.int (v1 - (44032 : Int32))), .val (.int (v2 - (4520 : Int32))), .unset] [])) _
    refine XS.iload X2.here hx rfl (hb hby d3_77) rfl ?_
    show Steps p.tables e below (T2.setTop (mkF m 79 #[.val (.ref v0), .val (.int v1), .val (.int v2), .val (.int v3), .val (.int v4), .val (.int (v1 - (44032 : Int32))), .val (.int (v2 - (4520 : Int32))), .unset] [(.int (v1 - (44032 : Int32)))])) _
    refine XS.ifYes X2.here hx rfl (pc0 := 79) (pc' := 105) rfl (hb hby d3_79) rfl ((if0 _ _).trans (tlt hc).1) (by decide) (by decide) ?_
    exact st' target kt
  · obtain ⟨T', pc', Ls, X', e', d', st'⟩ := b3_82 X2 hx hZ hw hby hown e2 v0 v1 v2 v3 v4 (v1 - (44032 : Int32)) (v2 - (4520 : Int32)) F0_firstSyllable F0_firstLead F0_leadCount F0_firstVowel F0_vowelCount F0_firstTrail F0_trailCount F0_trailStates F0_syllableCount
    refine ⟨T', pc', Ls, X', e', d', fun target kt => ?_⟩
    rw [show (F3_61 v1 v2) = (F3_82 v1 (v1 - (44032 : Int32)) (v2 - (4520 : Int32))) from if_neg hc] at kt
    show Steps p.tables e below (T.setTop (mkF m 61 #[.val (.ref v0), .val (.int v1), .val (.int v2), .val (.int v3), .val (.int v4), .unset, .unset, .unset] [])) _
    refine XS.iloadN X.here hx rfl (hb hby d3_61) rfl ?_
    show Steps p.tables e below (T.setTop (mkF m 62 #[.val (.ref v0), .val (.int v1), .val (.int v2), .val (.int v3), .val (.int v4), .unset, .unset, .unset] [(.int v1)])) _
    refine XS.aloadN X.here hx rfl (hb hby d3_62) rfl rfl ?_
    show Steps p.tables e below (T.setTop (mkF m 63 #[.val (.ref v0), .val (.int v1), .val (.int v2), .val (.int v3), .val (.int v4), .unset, .unset, .unset] [(.ref v0), (.int v1)])) _
    refine st1 _ ?_
    show Steps p.tables e below (T1.setTop (mkF m 66 #[.val (.ref v0), .val (.int v1), .val (.int v2), .val (.int v3), .val (.int v4), .unset, .unset, .unset] [(.int (44032 : Int32)), (.int v1)])) _
    refine XS.isub X1.here hx rfl (hb hby d3_66) rfl ?_
    show Steps p.tables e below (T1.setTop (mkF m 67 #[.val (.ref v0), .val (.int v1), .val (.int v2), .val (.int v3), .val (.int v4), .unset, .unset, .unset] [(.int (v1 - (44032 : Int32)))])) _
    refine XS.istore X1.here hx rfl (hb hby d3_67) rfl (l' := #[.val (.ref v0), .val (.int v1), .val (.int v2), .val (.int v3), .val (.int v4), .val (.int (v1 - (44032 : Int32))), .unset, .unset]) rfl ?_
    show Steps p.tables e below (T1.setTop (mkF m 69 #[.val (.ref v0), .val (.int v1), .val (.int v2), .val (.int v3), .val (.int v4), .val (.int (v1 - (44032 : Int32))), .unset, .unset] [])) _
    refine XS.iloadN X1.here hx rfl (hb hby d3_69) rfl ?_
    show Steps p.tables e below (T1.setTop (mkF m 70 #[.val (.ref v0), .val (.int v1), .val (.int v2), .val (.int v3), .val (.int v4), .val (.int (v1 - (44032 : Int32))), .unset, .unset] [(.int v2)])) _
    refine XS.aloadN X1.here hx rfl (hb hby d3_70) rfl rfl ?_
    show Steps p.tables e below (T1.setTop (mkF m 71 #[.val (.ref v0), .val (.int v1), .val (.int v2), .val (.int v3), .val (.int v4), .val (.int (v1 - (44032 : Int32))), .unset, .unset] [(.ref v0), (.int v2)])) _
    refine st2 _ ?_
    show Steps p.tables e below (T2.setTop (mkF m 74 #[.val (.ref v0), .val (.int v1), .val (.int v2), .val (.int v3), .val (.int v4), .val (.int (v1 - (44032 : Int32))), .unset, .unset] [(.int (4520 : Int32)), (.int v2)])) _
    refine XS.isub X2.here hx rfl (hb hby d3_74) rfl ?_
    show Steps p.tables e below (T2.setTop (mkF m 75 #[.val (.ref v0), .val (.int v1), .val (.int v2), .val (.int v3), .val (.int v4), .val (.int (v1 - (44032 : Int32))), .unset, .unset] [(.int (v2 - (4520 : Int32)))])) _
    refine XS.istore X2.here hx rfl (hb hby d3_75) rfl (l' := #[.val (.ref v0), .val (.int v1), .val (.int v2), .val (.int v3), .val (.int v4), .val (.int (v1 - (44032 : Int32))), .val (.int (v2 - (4520 : Int32))), .unset]) rfl ?_
    show Steps p.tables e below (T2.setTop (mkF m 77 #[.val (.ref v0), .val (.int v1), .val (.int v2), .val (.int v3), .val (.int v4), .val (.int (v1 - (44032 : Int32))), .val (.int (v2 - (4520 : Int32))), .unset] [])) _
    refine XS.iload X2.here hx rfl (hb hby d3_77) rfl ?_
    show Steps p.tables e below (T2.setTop (mkF m 79 #[.val (.ref v0), .val (.int v1), .val (.int v2), .val (.int v3), .val (.int v4), .val (.int (v1 - (44032 : Int32))), .val (.int (v2 - (4520 : Int32))), .unset] [(.int (v1 - (44032 : Int32)))])) _
    refine XS.ifNo X2.here hx rfl (hb hby d3_79) rfl ((if0 _ _).trans (flt hc).1) ?_
    exact st' target kt
def F3_41 (v3 : Int32) (v4 : Int32) : Int32 := ((44032 : Int32) + (((v3 * (21 : Int32)) + v4) * (28 : Int32)))
theorem b3_41 {p : Program} {l : Launch} {e : Env} {R : Room} {s : State} {m : MethodId} {args : Array Value} {below : List Frame} {meth : Method} {c : Code} {T : State} {locs : List Loc} {cells slots : Nat} {Z : State} {a0 : Array Value} (X : Stand p l e R s m args below meth c T locs cells slots) (hx : p.tables.exec = Jvm.exec) (hZ : Z.Warmed39 s.vm) (hw : ∀ d ∈ tables_1, d.before a0 Z = true) (hby : c.code = prog_18_method_6_code) (hown : s.vm.findClass "com/example/kent_ridge/kentridge/HangulSyllables" = some m.cls) {h : Heap} (e0 : T.heap = h) (v0 : Addr) (v1 : Int32) (v2 : Int32) (v3 : Int32) (v4 : Int32) (F0_firstSyllable : Fld Z h v0 "com/example/kent_ridge/kentridge/HangulSyllables" "firstSyllable" "I" (.int (44032 : Int32))) (F0_firstLead : Fld Z h v0 "com/example/kent_ridge/kentridge/HangulSyllables" "firstLead" "I" (.int (4352 : Int32))) (F0_leadCount : Fld Z h v0 "com/example/kent_ridge/kentridge/HangulSyllables" "leadCount" "I" (.int (19 : Int32))) (F0_firstVowel : Fld Z h v0 "com/example/kent_ridge/kentridge/HangulSyllables" "firstVowel" "I" (.int (4449 : Int32))) (F0_vowelCount : Fld Z h v0 "com/example/kent_ridge/kentridge/HangulSyllables" "vowelCount" "I" (.int (21 : Int32))) (F0_firstTrail : Fld Z h v0 "com/example/kent_ridge/kentridge/HangulSyllables" "firstTrail" "I" (.int (4520 : Int32))) (F0_trailCount : Fld Z h v0 "com/example/kent_ridge/kentridge/HangulSyllables" "trailCount" "I" (.int (27 : Int32))) (F0_trailStates : Fld Z h v0 "com/example/kent_ridge/kentridge/HangulSyllables" "trailStates" "I" (.int (28 : Int32))) (F0_syllableCount : Fld Z h v0 "com/example/kent_ridge/kentridge/HangulSyllables" "syllableCount" "I" (.int (11172 : Int32))) :
    ∃ (T' : State) (pc' : Nat) (Ls : Array Slot), Stand p l e R s m args below meth c T' locs cells slots ∧ T'.heap = h ∧ decode c.code pc' = .ok (.ireturn, 1) ∧ ∀ target, Steps p.tables e below (T'.setTop (mkF m pc' Ls [(.int (F3_41 v3 v4))])) target → Steps p.tables e below (T.setTop (mkF m 41 #[.val (.ref v0), .val (.int v1), .val (.int v2), .val (.int v3), .val (.int v4), .unset, .unset, .unset] [])) target := by
  obtain ⟨T1, X1, e1, st1⟩ := getF X hx hZ hown (host := "") (Or.inl (hw _ (List.mem_of_getElem? (i := 10) rfl))) Via.refl e0 F0_firstSyllable (g := (mkF m 42 #[.val (.ref v0), .val (.int v1), .val (.int v2), .val (.int v3), .val (.int v4), .unset, .unset, .unset] [(.ref v0)])) rfl rfl (hb hby d3_42)
  obtain ⟨T2, X2, e2, st2⟩ := getF X1 hx hZ hown (host := "") (Or.inl (hw _ (List.mem_of_getElem? (i := 18) rfl))) Via.refl e1 F0_vowelCount (g := (mkF m 47 #[.val (.ref v0), .val (.int v1), .val (.int v2), .val (.int v3), .val (.int v4), .unset, .unset, .unset] [(.ref v0), (.int v3), (.int (44032 : Int32))])) rfl rfl (hb hby d3_47)
  obtain ⟨T3, X3, e3, st3⟩ := getF X2 hx hZ hown (host := "") (Or.inl (hw _ (List.mem_of_getElem? (i := 24) rfl))) Via.refl e2 F0_trailStates (g := (mkF m 55 #[.val (.ref v0), .val (.int v1), .val (.int v2), .val (.int v3), .val (.int v4), .unset, .unset, .unset] [(.ref v0), (.int ((v3 * (21 : Int32)) + v4)), (.int (44032 : Int32))])) rfl rfl (hb hby d3_55)
  refine ⟨T3, 60, #[.val (.ref v0), .val (.int v1), .val (.int v2), .val (.int v3), .val (.int v4), .unset, .unset, .unset], X3, e3, (hb hby d3_60), fun target kt => ?_⟩
  show Steps p.tables e below (T.setTop (mkF m 41 #[.val (.ref v0), .val (.int v1), .val (.int v2), .val (.int v3), .val (.int v4), .unset, .unset, .unset] [])) _
  refine XS.aloadN X.here hx rfl (hb hby d3_41) rfl rfl ?_
  show Steps p.tables e below (T.setTop (mkF m 42 #[.val (.ref v0), .val (.int v1), .val (.int v2), .val (.int v3), .val (.int v4), .unset, .unset, .unset] [(.ref v0)])) _
  refine st1 _ ?_
  show Steps p.tables e below (T1.setTop (mkF m 45 #[.val (.ref v0), .val (.int v1), .val (.int v2), .val (.int v3), .val (.int v4), .unset, .unset, .unset] [(.int (44032 : Int32))])) _
  refine XS.iloadN X1.here hx rfl (hb hby d3_45) rfl ?_
  show Steps p.tables e below (T1.setTop (mkF m 46 #[.val (.ref v0), .val (.int v1), .val (.int v2), .val (.int v3), .val (.int v4), .unset, .unset, .unset] [(.int v3), (.int (44032 : Int32))])) _
  refine XS.aloadN X1.here hx rfl (hb hby d3_46) rfl rfl ?_
  show Steps p.tables e below (T1.setTop (mkF m 47 #[.val (.ref v0), .val (.int v1), .val (.int v2), .val (.int v3), .val (.int v4), .unset, .unset, .unset] [(.ref v0), (.int v3), (.int (44032 : Int32))])) _
  refine st2 _ ?_
  show Steps p.tables e below (T2.setTop (mkF m 50 #[.val (.ref v0), .val (.int v1), .val (.int v2), .val (.int v3), .val (.int v4), .unset, .unset, .unset] [(.int (21 : Int32)), (.int v3), (.int (44032 : Int32))])) _
  refine XS.imul X2.here hx rfl (hb hby d3_50) rfl ?_
  show Steps p.tables e below (T2.setTop (mkF m 51 #[.val (.ref v0), .val (.int v1), .val (.int v2), .val (.int v3), .val (.int v4), .unset, .unset, .unset] [(.int (v3 * (21 : Int32))), (.int (44032 : Int32))])) _
  refine XS.iload X2.here hx rfl (hb hby d3_51) rfl ?_
  show Steps p.tables e below (T2.setTop (mkF m 53 #[.val (.ref v0), .val (.int v1), .val (.int v2), .val (.int v3), .val (.int v4), .unset, .unset, .unset] [(.int v4), (.int (v3 * (21 : Int32))), (.int (44032 : Int32))])) _
  refine XS.iadd X2.here hx rfl (hb hby d3_53) rfl ?_
  show Steps p.tables e below (T2.setTop (mkF m 54 #[.val (.ref v0), .val (.int v1), .val (.int v2), .val (.int v3), .val (.int v4), .unset, .unset, .unset] [(.int ((v3 * (21 : Int32)) + v4)), (.int (44032 : Int32))])) _
  refine XS.aloadN X2.here hx rfl (hb hby d3_54) rfl rfl ?_
  show Steps p.tables e below (T2.setTop (mkF m 55 #[.val (.ref v0), .val (.int v1), .val (.int v2), .val (.int v3), .val (.int v4), .unset, .unset, .unset] [(.ref v0), (.int ((v3 * (21 : Int32)) + v4)), (.int (44032 : Int32))])) _
  refine st3 _ ?_
  show Steps p.tables e below (T3.setTop (mkF m 58 #[.val (.ref v0), .val (.int v1), .val (.int v2), .val (.int v3), .val (.int v4), .unset, .unset, .unset] [(.int (28 : Int32)), (.int ((v3 * (21 : Int32)) + v4)), (.int (44032 : Int32))])) _
  refine XS.imul X3.here hx rfl (hb hby d3_58) rfl ?_
  show Steps p.tables e below (T3.setTop (mkF m 59 #[.val (.ref v0), .val (.int v1), .val (.int v2), .val (.int v3), .val (.int v4), .unset, .unset, .unset] [(.int (((v3 * (21 : Int32)) + v4) * (28 : Int32))), (.int (44032 : Int32))])) _
  refine XS.iadd X3.here hx rfl (hb hby d3_59) rfl ?_
  show Steps p.tables e below (T3.setTop (mkF m 60 #[.val (.ref v0), .val (.int v1), .val (.int v2), .val (.int v3), .val (.int v4), .unset, .unset, .unset] [(.int ((44032 : Int32) + (((v3 * (21 : Int32)) + v4) * (28 : Int32))))])) _
  exact kt
def F3_32 (v1 : Int32) (v2 : Int32) (v3 : Int32) (v4 : Int32) : Int32 := if v4 < (21 : Int32) then (F3_41 v3 v4) else (F3_61 v1 v2)
theorem b3_32 {p : Program} {l : Launch} {e : Env} {R : Room} {s : State} {m : MethodId} {args : Array Value} {below : List Frame} {meth : Method} {c : Code} {T : State} {locs : List Loc} {cells slots : Nat} {Z : State} {a0 : Array Value} (X : Stand p l e R s m args below meth c T locs cells slots) (hx : p.tables.exec = Jvm.exec) (hZ : Z.Warmed39 s.vm) (hw : ∀ d ∈ tables_1, d.before a0 Z = true) (hby : c.code = prog_18_method_6_code) (hown : s.vm.findClass "com/example/kent_ridge/kentridge/HangulSyllables" = some m.cls) {h : Heap} (e0 : T.heap = h) (v0 : Addr) (v1 : Int32) (v2 : Int32) (v3 : Int32) (v4 : Int32) (F0_firstSyllable : Fld Z h v0 "com/example/kent_ridge/kentridge/HangulSyllables" "firstSyllable" "I" (.int (44032 : Int32))) (F0_firstLead : Fld Z h v0 "com/example/kent_ridge/kentridge/HangulSyllables" "firstLead" "I" (.int (4352 : Int32))) (F0_leadCount : Fld Z h v0 "com/example/kent_ridge/kentridge/HangulSyllables" "leadCount" "I" (.int (19 : Int32))) (F0_firstVowel : Fld Z h v0 "com/example/kent_ridge/kentridge/HangulSyllables" "firstVowel" "I" (.int (4449 : Int32))) (F0_vowelCount : Fld Z h v0 "com/example/kent_ridge/kentridge/HangulSyllables" "vowelCount" "I" (.int (21 : Int32))) (F0_firstTrail : Fld Z h v0 "com/example/kent_ridge/kentridge/HangulSyllables" "firstTrail" "I" (.int (4520 : Int32))) (F0_trailCount : Fld Z h v0 "com/example/kent_ridge/kentridge/HangulSyllables" "trailCount" "I" (.int (27 : Int32))) (F0_trailStates : Fld Z h v0 "com/example/kent_ridge/kentridge/HangulSyllables" "trailStates" "I" (.int (28 : Int32))) (F0_syllableCount : Fld Z h v0 "com/example/kent_ridge/kentridge/HangulSyllables" "syllableCount" "I" (.int (11172 : Int32))) :
    ∃ (T' : State) (pc' : Nat) (Ls : Array Slot), Stand p l e R s m args below meth c T' locs cells slots ∧ T'.heap = h ∧ decode c.code pc' = .ok (.ireturn, 1) ∧ ∀ target, Steps p.tables e below (T'.setTop (mkF m pc' Ls [(.int (F3_32 v1 v2 v3 v4))])) target → Steps p.tables e below (T.setTop (mkF m 32 #[.val (.ref v0), .val (.int v1), .val (.int v2), .val (.int v3), .val (.int v4), .unset, .unset, .unset] [])) target := by
  obtain ⟨T1, X1, e1, st1⟩ := getF X hx hZ hown (host := "") (Or.inl (hw _ (List.mem_of_getElem? (i := 18) rfl))) Via.refl e0 F0_vowelCount (g := (mkF m 35 #[.val (.ref v0), .val (.int v1), .val (.int v2), .val (.int v3), .val (.int v4), .unset, .unset, .unset] [(.ref v0), (.int v4)])) rfl rfl (hb hby d3_35)
  by_cases hc : v4 < (21 : Int32)
  · obtain ⟨T', pc', Ls, X', e', d', st'⟩ := b3_41 X1 hx hZ hw hby hown e1 v0 v1 v2 v3 v4 F0_firstSyllable F0_firstLead F0_leadCount F0_firstVowel F0_vowelCount F0_firstTrail F0_trailCount F0_trailStates F0_syllableCount
    refine ⟨T', pc', Ls, X', e', d', fun target kt => ?_⟩
    rw [show (F3_32 v1 v2 v3 v4) = (F3_41 v3 v4) from if_pos hc] at kt
    show Steps p.tables e below (T.setTop (mkF m 32 #[.val (.ref v0), .val (.int v1), .val (.int v2), .val (.int v3), .val (.int v4), .unset, .unset, .unset] [])) _
    refine XS.iload X.here hx rfl (hb hby d3_32) rfl ?_
    show Steps p.tables e below (T.setTop (mkF m 34 #[.val (.ref v0), .val (.int v1), .val (.int v2), .val (.int v3), .val (.int v4), .unset, .unset, .unset] [(.int v4)])) _
    refine XS.aloadN X.here hx rfl (hb hby d3_34) rfl rfl ?_
    show Steps p.tables e below (T.setTop (mkF m 35 #[.val (.ref v0), .val (.int v1), .val (.int v2), .val (.int v3), .val (.int v4), .unset, .unset, .unset] [(.ref v0), (.int v4)])) _
    refine st1 _ ?_
    show Steps p.tables e below (T1.setTop (mkF m 38 #[.val (.ref v0), .val (.int v1), .val (.int v2), .val (.int v3), .val (.int v4), .unset, .unset, .unset] [(.int (21 : Int32)), (.int v4)])) _
    refine XS.icmpNo X1.here hx rfl (hb hby d3_38) rfl (tlt hc).2.1 ?_
    exact st' target kt
  · obtain ⟨T', pc', Ls, X', e', d', st'⟩ := b3_61 X1 hx hZ hw hby hown e1 v0 v1 v2 v3 v4 F0_firstSyllable F0_firstLead F0_leadCount F0_firstVowel F0_vowelCount F0_firstTrail F0_trailCount F0_trailStates F0_syllableCount
    refine ⟨T', pc', Ls, X', e', d', fun target kt => ?_⟩
    rw [show (F3_32 v1 v2 v3 v4) = (F3_61 v1 v2) from if_neg hc] at kt
    show Steps p.tables e below (T.setTop (mkF m 32 #[.val (.ref v0), .val (.int v1), .val (.int v2), .val (.int v3), .val (.int v4), .unset, .unset, .unset] [])) _
    refine XS.iload X.here hx rfl (hb hby d3_32) rfl ?_
    show Steps p.tables e below (T.setTop (mkF m 34 #[.val (.ref v0), .val (.int v1), .val (.int v2), .val (.int v3), .val (.int v4), .unset, .unset, .unset] [(.int v4)])) _
    refine XS.aloadN X.here hx rfl (hb hby d3_34) rfl rfl ?_
    show Steps p.tables e below (T.setTop (mkF m 35 #[.val (.ref v0), .val (.int v1), .val (.int v2), .val (.int v3), .val (.int v4), .unset, .unset, .unset] [(.ref v0), (.int v4)])) _
    refine st1 _ ?_
    show Steps p.tables e below (T1.setTop (mkF m 38 #[.val (.ref v0), .val (.int v1), .val (.int v2), .val (.int v3), .val (.int v4), .unset, .unset, .unset] [(.int (21 : Int32)), (.int v4)])) _
    refine XS.icmpYes X1.here hx rfl (pc0 := 38) (pc' := 61) rfl (hb hby d3_38) rfl (flt hc).2.1 (by decide) (by decide) ?_
    exact st' target kt
def F3_27 (v1 : Int32) (v2 : Int32) (v3 : Int32) (v4 : Int32) : Int32 := if v4 < (0 : Int32) then (F3_61 v1 v2) else (F3_32 v1 v2 v3 v4)
theorem b3_27 {p : Program} {l : Launch} {e : Env} {R : Room} {s : State} {m : MethodId} {args : Array Value} {below : List Frame} {meth : Method} {c : Code} {T : State} {locs : List Loc} {cells slots : Nat} {Z : State} {a0 : Array Value} (X : Stand p l e R s m args below meth c T locs cells slots) (hx : p.tables.exec = Jvm.exec) (hZ : Z.Warmed39 s.vm) (hw : ∀ d ∈ tables_1, d.before a0 Z = true) (hby : c.code = prog_18_method_6_code) (hown : s.vm.findClass "com/example/kent_ridge/kentridge/HangulSyllables" = some m.cls) {h : Heap} (e0 : T.heap = h) (v0 : Addr) (v1 : Int32) (v2 : Int32) (v3 : Int32) (v4 : Int32) (F0_firstSyllable : Fld Z h v0 "com/example/kent_ridge/kentridge/HangulSyllables" "firstSyllable" "I" (.int (44032 : Int32))) (F0_firstLead : Fld Z h v0 "com/example/kent_ridge/kentridge/HangulSyllables" "firstLead" "I" (.int (4352 : Int32))) (F0_leadCount : Fld Z h v0 "com/example/kent_ridge/kentridge/HangulSyllables" "leadCount" "I" (.int (19 : Int32))) (F0_firstVowel : Fld Z h v0 "com/example/kent_ridge/kentridge/HangulSyllables" "firstVowel" "I" (.int (4449 : Int32))) (F0_vowelCount : Fld Z h v0 "com/example/kent_ridge/kentridge/HangulSyllables" "vowelCount" "I" (.int (21 : Int32))) (F0_firstTrail : Fld Z h v0 "com/example/kent_ridge/kentridge/HangulSyllables" "firstTrail" "I" (.int (4520 : Int32))) (F0_trailCount : Fld Z h v0 "com/example/kent_ridge/kentridge/HangulSyllables" "trailCount" "I" (.int (27 : Int32))) (F0_trailStates : Fld Z h v0 "com/example/kent_ridge/kentridge/HangulSyllables" "trailStates" "I" (.int (28 : Int32))) (F0_syllableCount : Fld Z h v0 "com/example/kent_ridge/kentridge/HangulSyllables" "syllableCount" "I" (.int (11172 : Int32))) :
    ∃ (T' : State) (pc' : Nat) (Ls : Array Slot), Stand p l e R s m args below meth c T' locs cells slots ∧ T'.heap = h ∧ decode c.code pc' = .ok (.ireturn, 1) ∧ ∀ target, Steps p.tables e below (T'.setTop (mkF m pc' Ls [(.int (F3_27 v1 v2 v3 v4))])) target → Steps p.tables e below (T.setTop (mkF m 27 #[.val (.ref v0), .val (.int v1), .val (.int v2), .val (.int v3), .val (.int v4), .unset, .unset, .unset] [])) target := by
  by_cases hc : v4 < (0 : Int32)
  · obtain ⟨T', pc', Ls, X', e', d', st'⟩ := b3_61 X hx hZ hw hby hown e0 v0 v1 v2 v3 v4 F0_firstSyllable F0_firstLead F0_leadCount F0_firstVowel F0_vowelCount F0_firstTrail F0_trailCount F0_trailStates F0_syllableCount
    refine ⟨T', pc', Ls, X', e', d', fun target kt => ?_⟩
    rw [show (F3_27 v1 v2 v3 v4) = (F3_61 v1 v2) from if_pos hc] at kt
    show Steps p.tables e below (T.setTop (mkF m 27 #[.val (.ref v0), .val (.int v1), .val (.int v2), .val (.int v3), .val (.int v4), .unset, .unset, .unset] [])) _
    refine XS.iload X.here hx rfl (hb hby d3_27) rfl ?_
    show Steps p.tables e below (T.setTop (mkF m 29 #[.val (.ref v0), .val (.int v1), .val (.int v2), .val (.int v3), .val (.int v4), .unset, .unset, .unset] [(.int v4)])) _
    refine XS.ifYes X.here hx rfl (pc0 := 29) (pc' := 61) rfl (hb hby d3_29) rfl ((if0 _ _).trans (tlt hc).1) (by decide) (by decide) ?_
    exact st' target kt
  · obtain ⟨T', pc', Ls, X', e', d', st'⟩ := b3_32 X hx hZ hw hby hown e0 v0 v1 v2 v3 v4 F0_firstSyllable F0_firstLead F0_leadCount F0_firstVowel F0_vowelCount F0_firstTrail F0_trailCount F0_trailStates F0_syllableCount
    refine ⟨T', pc', Ls, X', e', d', fun target kt => ?_⟩
    rw [show (F3_27 v1 v2 v3 v4) = (F3_32 v1 v2 v3 v4) from if_neg hc] at kt
    show Steps p.tables e below (T.setTop (mkF m 27 #[.val (.ref v0), .val (.int v1), .val (.int v2), .val (.int v3), .val (.int v4), .unset, .unset, .unset] [])) _
    refine XS.iload X.here hx rfl (hb hby d3_27) rfl ?_
    show Steps p.tables e below (T.setTop (mkF m 29 #[.val (.ref v0), .val (.int v1), .val (.int v2), .val (.int v3), .val (.int v4), .unset, .unset, .unset] [(.int v4)])) _
    refine XS.ifNo X.here hx rfl (hb hby d3_29) rfl ((if0 _ _).trans (flt hc).1) ?_
    exact st' target kt
def F3_19 (v1 : Int32) (v2 : Int32) (v3 : Int32) (v4 : Int32) : Int32 := if v3 < (19 : Int32) then (F3_27 v1 v2 v3 v4) else (F3_61 v1 v2)
theorem b3_19 {p : Program} {l : Launch} {e : Env} {R : Room} {s : State} {m : MethodId} {args : Array Value} {below : List Frame} {meth : Method} {c : Code} {T : State} {locs : List Loc} {cells slots : Nat} {Z : State} {a0 : Array Value} (X : Stand p l e R s m args below meth c T locs cells slots) (hx : p.tables.exec = Jvm.exec) (hZ : Z.Warmed39 s.vm) (hw : ∀ d ∈ tables_1, d.before a0 Z = true) (hby : c.code = prog_18_method_6_code) (hown : s.vm.findClass "com/example/kent_ridge/kentridge/HangulSyllables" = some m.cls) {h : Heap} (e0 : T.heap = h) (v0 : Addr) (v1 : Int32) (v2 : Int32) (v3 : Int32) (v4 : Int32) (F0_firstSyllable : Fld Z h v0 "com/example/kent_ridge/kentridge/HangulSyllables" "firstSyllable" "I" (.int (44032 : Int32))) (F0_firstLead : Fld Z h v0 "com/example/kent_ridge/kentridge/HangulSyllables" "firstLead" "I" (.int (4352 : Int32))) (F0_leadCount : Fld Z h v0 "com/example/kent_ridge/kentridge/HangulSyllables" "leadCount" "I" (.int (19 : Int32))) (F0_firstVowel : Fld Z h v0 "com/example/kent_ridge/kentridge/HangulSyllables" "firstVowel" "I" (.int (4449 : Int32))) (F0_vowelCount : Fld Z h v0 "com/example/kent_ridge/kentridge/HangulSyllables" "vowelCount" "I" (.int (21 : Int32))) (F0_firstTrail : Fld Z h v0 "com/example/kent_ridge/kentridge/HangulSyllables" "firstTrail" "I" (.int (4520 : Int32))) (F0_trailCount : Fld Z h v0 "com/example/kent_ridge/kentridge/HangulSyllables" "trailCount" "I" (.int (27 : Int32))) (F0_trailStates : Fld Z h v0 "com/example/kent_ridge/kentridge/HangulSyllables" "trailStates" "I" (.int (28 : Int32))) (F0_syllableCount : Fld Z h v0 "com/example/kent_ridge/kentridge/HangulSyllables" "syllableCount" "I" (.int (11172 : Int32))) :
    ∃ (T' : State) (pc' : Nat) (Ls : Array Slot), Stand p l e R s m args below meth c T' locs cells slots ∧ T'.heap = h ∧ decode c.code pc' = .ok (.ireturn, 1) ∧ ∀ target, Steps p.tables e below (T'.setTop (mkF m pc' Ls [(.int (F3_19 v1 v2 v3 v4))])) target → Steps p.tables e below (T.setTop (mkF m 19 #[.val (.ref v0), .val (.int v1), .val (.int v2), .val (.int v3), .val (.int v4), .unset, .unset, .unset] [])) target := by
  obtain ⟨T1, X1, e1, st1⟩ := getF X hx hZ hown (host := "") (Or.inl (hw _ (List.mem_of_getElem? (i := 14) rfl))) Via.refl e0 F0_leadCount (g := (mkF m 21 #[.val (.ref v0), .val (.int v1), .val (.int v2), .val (.int v3), .val (.int v4), .unset, .unset, .unset] [(.ref v0), (.int v3)])) rfl rfl (hb hby d3_21)
  by_cases hc : v3 < (19 : Int32)
  · obtain ⟨T', pc', Ls, X', e', d', st'⟩ := b3_27 X1 hx hZ hw hby hown e1 v0 v1 v2 v3 v4 F0_firstSyllable F0_firstLead F0_leadCount F0_firstVowel F0_vowelCount F0_firstTrail F0_trailCount F0_trailStates F0_syllableCount
    refine ⟨T', pc', Ls, X', e', d', fun target kt => ?_⟩
    rw [show (F3_19 v1 v2 v3 v4) = (F3_27 v1 v2 v3 v4) from if_pos hc] at kt
    show Steps p.tables e below (T.setTop (mkF m 19 #[.val (.ref v0), .val (.int v1), .val (.int v2), .val (.int v3), .val (.int v4), .unset, .unset, .unset] [])) _
    refine XS.iloadN X.here hx rfl (hb hby d3_19) rfl ?_
    show Steps p.tables e below (T.setTop (mkF m 20 #[.val (.ref v0), .val (.int v1), .val (.int v2), .val (.int v3), .val (.int v4), .unset, .unset, .unset] [(.int v3)])) _
    refine XS.aloadN X.here hx rfl (hb hby d3_20) rfl rfl ?_
    show Steps p.tables e below (T.setTop (mkF m 21 #[.val (.ref v0), .val (.int v1), .val (.int v2), .val (.int v3), .val (.int v4), .unset, .unset, .unset] [(.ref v0), (.int v3)])) _
    refine st1 _ ?_
    show Steps p.tables e below (T1.setTop (mkF m 24 #[.val (.ref v0), .val (.int v1), .val (.int v2), .val (.int v3), .val (.int v4), .unset, .unset, .unset] [(.int (19 : Int32)), (.int v3)])) _
    refine XS.icmpNo X1.here hx rfl (hb hby d3_24) rfl (tlt hc).2.1 ?_
    exact st' target kt
  · obtain ⟨T', pc', Ls, X', e', d', st'⟩ := b3_61 X1 hx hZ hw hby hown e1 v0 v1 v2 v3 v4 F0_firstSyllable F0_firstLead F0_leadCount F0_firstVowel F0_vowelCount F0_firstTrail F0_trailCount F0_trailStates F0_syllableCount
    refine ⟨T', pc', Ls, X', e', d', fun target kt => ?_⟩
    rw [show (F3_19 v1 v2 v3 v4) = (F3_61 v1 v2) from if_neg hc] at kt
    show Steps p.tables e below (T.setTop (mkF m 19 #[.val (.ref v0), .val (.int v1), .val (.int v2), .val (.int v3), .val (.int v4), .unset, .unset, .unset] [])) _
    refine XS.iloadN X.here hx rfl (hb hby d3_19) rfl ?_
    show Steps p.tables e below (T.setTop (mkF m 20 #[.val (.ref v0), .val (.int v1), .val (.int v2), .val (.int v3), .val (.int v4), .unset, .unset, .unset] [(.int v3)])) _
    refine XS.aloadN X.here hx rfl (hb hby d3_20) rfl rfl ?_
    show Steps p.tables e below (T.setTop (mkF m 21 #[.val (.ref v0), .val (.int v1), .val (.int v2), .val (.int v3), .val (.int v4), .unset, .unset, .unset] [(.ref v0), (.int v3)])) _
    refine st1 _ ?_
    show Steps p.tables e below (T1.setTop (mkF m 24 #[.val (.ref v0), .val (.int v1), .val (.int v2), .val (.int v3), .val (.int v4), .unset, .unset, .unset] [(.int (19 : Int32)), (.int v3)])) _
    refine XS.icmpYes X1.here hx rfl (pc0 := 24) (pc' := 61) rfl (hb hby d3_24) rfl (flt hc).2.1 (by decide) (by decide) ?_
    exact st' target kt
def F3_0 (v1 : Int32) (v2 : Int32) : Int32 := if (v1 - (4352 : Int32)) < (0 : Int32) then (F3_61 v1 v2) else (F3_19 v1 v2 (v1 - (4352 : Int32)) (v2 - (4449 : Int32)))
theorem b3_0 {p : Program} {l : Launch} {e : Env} {R : Room} {s : State} {m : MethodId} {args : Array Value} {below : List Frame} {meth : Method} {c : Code} {T : State} {locs : List Loc} {cells slots : Nat} {Z : State} {a0 : Array Value} (X : Stand p l e R s m args below meth c T locs cells slots) (hx : p.tables.exec = Jvm.exec) (hZ : Z.Warmed39 s.vm) (hw : ∀ d ∈ tables_1, d.before a0 Z = true) (hby : c.code = prog_18_method_6_code) (hown : s.vm.findClass "com/example/kent_ridge/kentridge/HangulSyllables" = some m.cls) {h : Heap} (e0 : T.heap = h) (v0 : Addr) (v1 : Int32) (v2 : Int32) (F0_firstSyllable : Fld Z h v0 "com/example/kent_ridge/kentridge/HangulSyllables" "firstSyllable" "I" (.int (44032 : Int32))) (F0_firstLead : Fld Z h v0 "com/example/kent_ridge/kentridge/HangulSyllables" "firstLead" "I" (.int (4352 : Int32))) (F0_leadCount : Fld Z h v0 "com/example/kent_ridge/kentridge/HangulSyllables" "leadCount" "I" (.int (19 : Int32))) (F0_firstVowel : Fld Z h v0 "com/example/kent_ridge/kentridge/HangulSyllables" "firstVowel" "I" (.int (4449 : Int32))) (F0_vowelCount : Fld Z h v0 "com/example/kent_ridge/kentridge/HangulSyllables" "vowelCount" "I" (.int (21 : Int32))) (F0_firstTrail : Fld Z h v0 "com/example/kent_ridge/kentridge/HangulSyllables" "firstTrail" "I" (.int (4520 : Int32))) (F0_trailCount : Fld Z h v0 "com/example/kent_ridge/kentridge/HangulSyllables" "trailCount" "I" (.int (27 : Int32))) (F0_trailStates : Fld Z h v0 "com/example/kent_ridge/kentridge/HangulSyllables" "trailStates" "I" (.int (28 : Int32))) (F0_syllableCount : Fld Z h v0 "com/example/kent_ridge/kentridge/HangulSyllables" "syllableCount" "I" (.int (11172 : Int32))) :
    ∃ (T' : State) (pc' : Nat) (Ls : Array Slot), Stand p l e R s m args below meth c T' locs cells slots ∧ T'.heap = h ∧ decode c.code pc' = .ok (.ireturn, 1) ∧ ∀ target, Steps p.tables e below (T'.setTop (mkF m pc' Ls [(.int (F3_0 v1 v2))])) target → Steps p.tables e below (T.setTop (mkF m 0 #[.val (.ref v0), .val (.int v1), .val (.int v2), .unset, .unset, .unset, .unset, .unset] [])) target := by
  obtain ⟨T1, X1, e1, st1⟩ := getF X hx hZ hown (host := "") (Or.inl (hw _ (List.mem_of_getElem? (i := 12) rfl))) Via.refl e0 F0_firstLead (g := (mkF m 2 #[.val (.ref v0), .val (.int v1), .val (.int v2), .unset, .unset, .unset, .unset, .unset] [(.ref v0), (.int v1)])) rfl rfl (hb hby d3_2)
  obtain ⟨T2, X2, e2, st2⟩ := getF X1 hx hZ hown (host := "") (Or.inl (hw _ (List.mem_of_getElem? (i := 16) rfl))) Via.refl e1 F0_firstVowel (g := (mkF m 9 #[.val (.ref v0), .val (.int v1), .val (.int v2), .val (.int (v1 - (4352 : Int32))), .unset, .unset, .unset, .unset] [(.ref v0), (.int v2)])) rfl rfl (hb hby d3_9)
  by_cases hc : (v1 - (4352 : Int32)) < (0 : Int32)
  · obtain ⟨T', pc', Ls, X', e', d', st'⟩ := b3_61 X2 hx hZ hw hby hown e2 v0 v1 v2 (v1 - (4352 : Int32)) (v2 - (4449 : Int32)) F0_firstSyllable F0_firstLead F0_leadCount F0_firstVowel F0_vowelCount F0_firstTrail F0_trailCount F0_trailStates F0_syllableCount
    refine ⟨T', pc', Ls, X', e', d', fun target kt => ?_⟩
    rw [show (F3_0 v1 v2) = (F3_61 v1 v2) from if_pos hc] at kt
    show Steps p.tables e below (T.setTop (mkF m 0 #[.val (.ref v0), .val (.int v1), .val (.int v2), .unset, .unset, .unset, .unset, .unset] [])) _
    refine XS.iloadN X.here hx rfl (hb hby d3_0) rfl ?_
    show Steps p.tables e below (T.setTop (mkF m 1 #[.val (.ref v0), .val (.int v1), .val (.int v2), .unset, .unset, .unset, .unset, .unset] [(.int v1)])) _
    refine XS.aloadN X.here hx rfl (hb hby d3_1) rfl rfl ?_
    show Steps p.tables e below (T.setTop (mkF m 2 #[.val (.ref v0), .val (.int v1), .val (.int v2), .unset, .unset, .unset, .unset, .unset] [(.ref v0), (.int v1)])) _
    refine st1 _ ?_
    show Steps p.tables e below (T1.setTop (mkF m 5 #[.val (.ref v0), .val (.int v1), .val (.int v2), .unset, .unset, .unset, .unset, .unset] [(.int (4352 : Int32)), (.int v1)])) _
    refine XS.isub X1.here hx rfl (hb hby d3_5) rfl ?_
    show Steps p.tables e below (T1.setTop (mkF m 6 #[.val (.ref v0), .val (.int v1), .val (.int v2), .unset, .unset, .unset, .unset, .unset] [(.int (v1 - (4352 : Int32)))])) _
    refine XS.istoreN X1.here hx rfl (hb hby d3_6) rfl (l' := #[.val (.ref v0), .val (.int v1), .val (.int v2), .val (.int (v1 - (4352 : Int32))), .unset, .unset, .unset, .unset]) rfl ?_
    show Steps p.tables e below (T1.setTop (mkF m 7 #[.val (.ref v0), .val (.int v1), .val (.int v2), .val (.int (v1 - (4352 : Int32))), .unset, .unset, .unset, .unset] [])) _
    refine XS.iloadN X1.here hx rfl (hb hby d3_7) rfl ?_
    show Steps p.tables e below (T1.setTop (mkF m 8 #[.val (.ref v0), .val (.int v1), .val (.int v2), .val (.int (v1 - (4352 : Int32))), .unset, .unset, .unset, .unset] [(.int v2)])) _
    refine XS.aloadN X1.here hx rfl (hb hby d3_8) rfl rfl ?_
    show Steps p.tables e below (T1.setTop (mkF m 9 #[.val (.ref v0), .val (.int v1), .val (.int v2), .val (.int (v1 - (4352 : Int32))), .unset, .unset, .unset, .unset] [(.ref v0), (.int v2)])) _
    refine st2 _ ?_
    show Steps p.tables e below (T2.setTop (mkF m 12 #[.val (.ref v0), .val (.int v1), .val (.int v2), .val (.int (v1 - (4352 : Int32))), .unset, .unset, .unset, .unset] [(.int (4449 : Int32)), (.int v2)])) _
    refine XS.isub X2.here hx rfl (hb hby d3_12) rfl ?_
    show Steps p.tables e below (T2.setTop (mkF m 13 #[.val (.ref v0), .val (.int v1), .val (.int v2), .val (.int (v1 - (4352 : Int32))), .unset, .unset, .unset, .unset] [(.int (v2 - (4449 : Int32)))])) _
    refine XS.istore X2.here hx rfl (hb hby d3_13) rfl (l' := #[.val (.ref v0), .val (.int v1), .val (.int v2), .val (.int (v1 - (4352 : Int32))), .val (.int (v2 - (4449 : Int32))), .unset, .unset, .unset]) rfl ?_
    show Steps p.tables e below (T2.setTop (mkF m 15 #[.val (.ref v0), .val (.int v1), .val (.int v2), .val (.int (v1 - (4352 : Int32))), .val (.int (v2 - (4449 : Int32))), .unset, .unset, .unset] [])) _
    refine XS.iloadN X2.here hx rfl (hb hby d3_15) rfl ?_
    show Steps p.tables e below (T2.setTop (mkF m 16 #[.val (.ref v0), .val (.int v1), .val (.int v2), .val (.int (v1 - (4352 : Int32))), .val (.int (v2 - (4449 : Int32))), .unset, .unset, .unset] [(.int (v1 - (4352 : Int32)))])) _
    refine XS.ifYes X2.here hx rfl (pc0 := 16) (pc' := 61) rfl (hb hby d3_16) rfl ((if0 _ _).trans (tlt hc).1) (by decide) (by decide) ?_
    exact st' target kt
  · obtain ⟨T', pc', Ls, X', e', d', st'⟩ := b3_19 X2 hx hZ hw hby hown e2 v0 v1 v2 (v1 - (4352 : Int32)) (v2 - (4449 : Int32)) F0_firstSyllable F0_firstLead F0_leadCount F0_firstVowel F0_vowelCount F0_firstTrail F0_trailCount F0_trailStates F0_syllableCount
    refine ⟨T', pc', Ls, X', e', d', fun target kt => ?_⟩
    rw [show (F3_0 v1 v2) = (F3_19 v1 v2 (v1 - (4352 : Int32)) (v2 - (4449 : Int32))) from if_neg hc] at kt
    show Steps p.tables e below (T.setTop (mkF m 0 #[.val (.ref v0), .val (.int v1), .val (.int v2), .unset, .unset, .unset, .unset, .unset] [])) _
    refine XS.iloadN X.here hx rfl (hb hby d3_0) rfl ?_
    show Steps p.tables e below (T.setTop (mkF m 1 #[.val (.ref v0), .val (.int v1), .val (.int v2), .unset, .unset, .unset, .unset, .unset] [(.int v1)])) _
    refine XS.aloadN X.here hx rfl (hb hby d3_1) rfl rfl ?_
    show Steps p.tables e below (T.setTop (mkF m 2 #[.val (.ref v0), .val (.int v1), .val (.int v2), .unset, .unset, .unset, .unset, .unset] [(.ref v0), (.int v1)])) _
    refine st1 _ ?_
    show Steps p.tables e below (T1.setTop (mkF m 5 #[.val (.ref v0), .val (.int v1), .val (.int v2), .unset, .unset, .unset, .unset, .unset] [(.int (4352 : Int32)), (.int v1)])) _
    refine XS.isub X1.here hx rfl (hb hby d3_5) rfl ?_
    show Steps p.tables e below (T1.setTop (mkF m 6 #[.val (.ref v0), .val (.int v1), .val (.int v2), .unset, .unset, .unset, .unset, .unset] [(.int (v1 - (4352 : Int32)))])) _
    refine XS.istoreN X1.here hx rfl (hb hby d3_6) rfl (l' := #[.val (.ref v0), .val (.int v1), .val (.int v2), .val (.int (v1 - (4352 : Int32))), .unset, .unset, .unset, .unset]) rfl ?_
    show Steps p.tables e below (T1.setTop (mkF m 7 #[.val (.ref v0), .val (.int v1), .val (.int v2), .val (.int (v1 - (4352 : Int32))), .unset, .unset, .unset, .unset] [])) _
    refine XS.iloadN X1.here hx rfl (hb hby d3_7) rfl ?_
    show Steps p.tables e below (T1.setTop (mkF m 8 #[.val (.ref v0), .val (.int v1), .val (.int v2), .val (.int (v1 - (4352 : Int32))), .unset, .unset, .unset, .unset] [(.int v2)])) _
    refine XS.aloadN X1.here hx rfl (hb hby d3_8) rfl rfl ?_
    show Steps p.tables e below (T1.setTop (mkF m 9 #[.val (.ref v0), .val (.int v1), .val (.int v2), .val (.int (v1 - (4352 : Int32))), .unset, .unset, .unset, .unset] [(.ref v0), (.int v2)])) _
    refine st2 _ ?_
    show Steps p.tables e below (T2.setTop (mkF m 12 #[.val (.ref v0), .val (.int v1), .val (.int v2), .val (.int (v1 - (4352 : Int32))), .unset, .unset, .unset, .unset] [(.int (4449 : Int32)), (.int v2)])) _
    refine XS.isub X2.here hx rfl (hb hby d3_12) rfl ?_
    show Steps p.tables e below (T2.setTop (mkF m 13 #[.val (.ref v0), .val (.int v1), .val (.int v2), .val (.int (v1 - (4352 : Int32))), .unset, .unset, .unset, .unset] [(.int (v2 - (4449 : Int32)))])) _
    refine XS.istore X2.here hx rfl (hb hby d3_13) rfl (l' := #[.val (.ref v0), .val (.int v1), .val (.int v2), .val (.int (v1 - (4352 : Int32))), .val (.int (v2 - (4449 : Int32))), .unset, .unset, .unset]) rfl ?_
    show Steps p.tables e below (T2.setTop (mkF m 15 #[.val (.ref v0), .val (.int v1), .val (.int v2), .val (.int (v1 - (4352 : Int32))), .val (.int (v2 - (4449 : Int32))), .unset, .unset, .unset] [])) _
    refine XS.iloadN X2.here hx rfl (hb hby d3_15) rfl ?_
    show Steps p.tables e below (T2.setTop (mkF m 16 #[.val (.ref v0), .val (.int v1), .val (.int v2), .val (.int (v1 - (4352 : Int32))), .val (.int (v2 - (4449 : Int32))), .unset, .unset, .unset] [(.int (v1 - (4352 : Int32)))])) _
    refine XS.ifNo X2.here hx rfl (hb hby d3_16) rfl ((if0 _ _).trans (flt hc).1) ?_
    exact st' target kt
theorem pn_3 : plainName "com/example/kent_ridge/kentridge/HangulSyllables" = true := by first | (simp [plainName, overriddenIn]; done) | decide +kernel
theorem ef_3 (m : MethodId) (r0 : Addr) (p1 : Int32) (p2 : Int32) : entryFrame m #[(.ref r0), (.int p1), (.int p2)] 8 = mkF m 0 #[.val (.ref r0), .val (.int p1), .val (.int p2), .unset, .unset, .unset, .unset, .unset] [] := by first | (simp [entryFrame, mkF, argsToLocals, Value.category]; done) | rfl
def Q_rm3 (Z : State) (r0 : Addr) (p1 : Int32) (p2 : Int32) (h0 : Heap) (n0 : Nat) (v : Option Value) (h : Heap) (L : List Loc) : Prop := (v = some (.int (F3_0 p1 p2)) ∧ Fr n0 L ∧ h = h0)
set_option maxRecDepth 65536 in
set_option maxHeartbeats 40000000 in
theorem rm3 (l : Launch) (Z : State) (a0 : Array Value) (hw : ∀ d ∈ tables_1, d.before a0 Z = true) (ws : List Jvm.Cond) (r0 : Addr) (p1 : Int32) (p2 : Int32) (h0 : Heap) (n0 : Nat) (Z0 : n0 ≤ h0.size) (F0_firstSyllable : Fld Z h0 r0 "com/example/kent_ridge/kentridge/HangulSyllables" "firstSyllable" "I" (.int (44032 : Int32))) (F0_firstLead : Fld Z h0 r0 "com/example/kent_ridge/kentridge/HangulSyllables" "firstLead" "I" (.int (4352 : Int32))) (F0_leadCount : Fld Z h0 r0 "com/example/kent_ridge/kentridge/HangulSyllables" "leadCount" "I" (.int (19 : Int32))) (F0_firstVowel : Fld Z h0 r0 "com/example/kent_ridge/kentridge/HangulSyllables" "firstVowel" "I" (.int (4449 : Int32))) (F0_vowelCount : Fld Z h0 r0 "com/example/kent_ridge/kentridge/HangulSyllables" "vowelCount" "I" (.int (21 : Int32))) (F0_firstTrail : Fld Z h0 r0 "com/example/kent_ridge/kentridge/HangulSyllables" "firstTrail" "I" (.int (4520 : Int32))) (F0_trailCount : Fld Z h0 r0 "com/example/kent_ridge/kentridge/HangulSyllables" "trailCount" "I" (.int (27 : Int32))) (F0_trailStates : Fld Z h0 r0 "com/example/kent_ridge/kentridge/HangulSyllables" "trailStates" "I" (.int (28 : Int32))) (F0_syllableCount : Fld Z h0 r0 "com/example/kent_ridge/kentridge/HangulSyllables" "syllableCount" "I" (.int (11172 : Int32))) :
    MetFree l (⟨"com/example/kent_ridge/kentridge/HangulSyllables", "compose", "(II)I"⟩ : MethodName) (head1 (Jvm.Cond.code (⟨"com/example/kent_ridge/kentridge/HangulSyllables", "compose", "(II)I"⟩ : MethodName) prog_18_method_6_code 8 (some .int) :: ws) ({ frames := 0, cells := 0, slots := 0, locals := 0 } : Room)) (fun a U => a = #[(.ref r0), (.int p1), (.int p2)] ∧ Z.Warmed39 U.vm ∧ U.heap = h0) (fun _ _ _ _ _ => True) (fun _ U o U' => ∃ v L, o = .returned v ∧ Q_rm3 Z r0 p1 p2 h0 n0 v U'.heap L ∧ FrameEnd U o U' L ({ frames := 0, cells := 0, slots := 0, locals := 0 } : Room).cells ({ frames := 0, cells := 0, slots := 0, locals := 0 } : Room).slots) := by
  refine MetFree.of_bodySF (plainFor_of_name pn_3) hisR ?_
  intro p e s m args below meth c s₁ Bd hml0 hP hK
  obtain ⟨rfl, hZ, hh⟩ := hP
  have hx := Bd.exec
  have hby := Bd.bytes
  have hml : c.maxLocals = 8 := hml0
  have hown : s.vm.findClass "com/example/kent_ridge/kentridge/HangulSyllables" = some m.cls := findClass_of_methodNamed Bd.named
  have hnm := (name_of_methodNamed Bd.named Bd.method).1
  have X0 : Stand p l e ({ frames := 0, cells := 0, slots := 0, locals := 0 } : Room) s m #[(.ref r0), (.int p1), (.int p2)] below meth c s₁ [] 0 0 := Stand.of_body Bd
  have e0 : s₁.heap = h0 := by rw [← hh, Bd.state]; rfl
  have N0 := Fr.nil n0
  have pre0 : ∀ t, Steps p.tables e below (s₁.setTop (mkF m 0 #[.val (.ref r0), .val (.int p1), .val (.int p2), .unset, .unset, .unset, .unset, .unset] [])) t → Steps p.tables e below (s₁.setTop (entryFrame m #[(.ref r0), (.int p1), (.int p2)] 8)) t := fun t k => castTop (ef_3 m r0 p1 p2) k
  obtain ⟨T', pc', Ls, X', e', d', st'⟩ := b3_0 X0 hx hZ hw hby hown e0 r0 p1 p2 F0_firstSyllable F0_firstLead F0_leadCount F0_firstVowel F0_vowelCount F0_firstTrail F0_trailCount F0_trailStates F0_syllableCount
  obtain ⟨fs, hr, hrun, hended, hW, hsame⟩ := X'.leave (v := some (.int (F3_0 p1 p2))) (fun h => by rw [Bd.returns] at h; cases h)
  refine ⟨_, _, pre0 _ (st' _ ?_), hrun, hended, _, _, rfl, ⟨rfl, N0, e'⟩, ⟨_, rfl⟩, hW, hsame.mono (by decide) (by decide)⟩
  exact retI X' hx Bd.returns d' hr
theorem d4_0 : decode method_3_code 0 = .ok (.iload_n 0, 1) := by decide +kernel
theorem d4_1 : decode method_3_code 1 = .ok (.sipush 4352, 3) := by decide +kernel
theorem d4_4 : decode method_3_code 4 = .ok (.if_icmp .lt 14, 3) := by decide +kernel
theorem d4_7 : decode method_3_code 7 = .ok (.iload_n 0, 1) := by decide +kernel
theorem d4_8 : decode method_3_code 8 = .ok (.sipush 4370, 3) := by decide +kernel
theorem d4_11 : decode method_3_code 11 = .ok (.if_icmp .gt 7, 3) := by decide +kernel
theorem d4_14 : decode method_3_code 14 = .ok (.iconst 1, 1) := by decide +kernel
theorem d4_15 : decode method_3_code 15 = .ok (.goto 4, 3) := by decide +kernel
theorem d4_18 : decode method_3_code 18 = .ok (.iconst 0, 1) := by decide +kernel
theorem d4_19 : decode method_3_code 19 = .ok (.istore_n 2, 1) := by decide +kernel
theorem d4_20 : decode method_3_code 20 = .ok (.iload_n 1, 1) := by decide +kernel
theorem d4_21 : decode method_3_code 21 = .ok (.sipush 4449, 3) := by decide +kernel
theorem d4_24 : decode method_3_code 24 = .ok (.if_icmp .lt 14, 3) := by decide +kernel
theorem d4_27 : decode method_3_code 27 = .ok (.iload_n 1, 1) := by decide +kernel
theorem d4_28 : decode method_3_code 28 = .ok (.sipush 4469, 3) := by decide +kernel
theorem d4_31 : decode method_3_code 31 = .ok (.if_icmp .gt 7, 3) := by decide +kernel
theorem d4_34 : decode method_3_code 34 = .ok (.iconst 1, 1) := by decide +kernel
theorem d4_35 : decode method_3_code 35 = .ok (.goto 4, 3) := by decide +kernel
theorem d4_38 : decode method_3_code 38 = .ok (.iconst 0, 1) := by decide +kernel
theorem d4_39 : decode method_3_code 39 = .ok (.istore_n 3, 1) := by decide +kernel
theorem d4_40 : decode method_3_code 40 = .ok (.iload_n 2, 1) := by decide +kernel
theorem d4_41 : decode method_3_code 41 = .ok (.ifCond .eq 29, 3) := by decide +kernel
theorem d4_44 : decode method_3_code 44 = .ok (.iload_n 3, 1) := by decide +kernel
theorem d4_45 : decode method_3_code 45 = .ok (.ifCond .eq 25, 3) := by decide +kernel
theorem d4_48 : decode method_3_code 48 = .ok (.ldc 9, 2) := by decide +kernel
theorem d4_50 : decode method_3_code 50 = .ok (.iload_n 0, 1) := by decide +kernel
theorem d4_51 : decode method_3_code 51 = .ok (.sipush 4352, 3) := by decide +kernel
theorem d4_54 : decode method_3_code 54 = .ok (.isub, 1) := by decide +kernel
theorem d4_55 : decode method_3_code 55 = .ok (.sipush 588, 3) := by decide +kernel
theorem d4_58 : decode method_3_code 58 = .ok (.imul, 1) := by decide +kernel
theorem d4_59 : decode method_3_code 59 = .ok (.iadd, 1) := by decide +kernel
theorem d4_60 : decode method_3_code 60 = .ok (.iload_n 1, 1) := by decide +kernel
theorem d4_61 : decode method_3_code 61 = .ok (.sipush 4449, 3) := by decide +kernel
theorem d4_64 : decode method_3_code 64 = .ok (.isub, 1) := by decide +kernel
theorem d4_65 : decode method_3_code 65 = .ok (.bipush 28, 2) := by decide +kernel
theorem d4_67 : decode method_3_code 67 = .ok (.imul, 1) := by decide +kernel
theorem d4_68 : decode method_3_code 68 = .ok (.iadd, 1) := by decide +kernel
theorem d4_69 : decode method_3_code 69 = .ok (.ireturn, 1) := by decide +kernel
theorem d4_70 : decode method_3_code 70 = .ok (.iload_n 0, 1) := by decide +kernel
theorem d4_71 : decode method_3_code 71 = .ok (.ldc 9, 2) := by decide +kernel
theorem d4_73 : decode method_3_code 73 = .ok (.if_icmp .lt 13, 3) := by decide +kernel
theorem d4_76 : decode method_3_code 76 = .ok (.iload_n 0, 1) := by decide +kernel
theorem d4_77 : decode method_3_code 77 = .ok (.ldc 24, 2) := by decide +kernel
theorem d4_79 : decode method_3_code 79 = .ok (.if_icmp .gt 7, 3) := by decide +kernel
theorem d4_82 : decode method_3_code 82 = .ok (.iconst 1, 1) := by decide +kernel
theorem d4_83 : decode method_3_code 83 = .ok (.goto 4, 3) := by decide +kernel
theorem d4_86 : decode method_3_code 86 = .ok (.iconst 0, 1) := by decide +kernel
theorem d4_87 : decode method_3_code 87 = .ok (.istore 4, 2) := by decide +kernel
theorem d4_89 : decode method_3_code 89 = .ok (.iload_n 1, 1) := by decide +kernel
theorem d4_90 : decode method_3_code 90 = .ok (.sipush 4520, 3) := by decide +kernel
theorem d4_93 : decode method_3_code 93 = .ok (.if_icmp .lt 14, 3) := by decide +kernel
theorem d4_96 : decode method_3_code 96 = .ok (.iload_n 1, 1) := by decide +kernel
theorem d4_97 : decode method_3_code 97 = .ok (.sipush 4546, 3) := by decide +kernel
theorem d4_100 : decode method_3_code 100 = .ok (.if_icmp .gt 7, 3) := by decide +kernel
theorem d4_103 : decode method_3_code 103 = .ok (.iconst 1, 1) := by decide +kernel
theorem d4_104 : decode method_3_code 104 = .ok (.goto 4, 3) := by decide +kernel
theorem d4_107 : decode method_3_code 107 = .ok (.iconst 0, 1) := by decide +kernel
theorem d4_108 : decode method_3_code 108 = .ok (.istore 5, 2) := by decide +kernel
theorem d4_110 : decode method_3_code 110 = .ok (.iload 4, 2) := by decide +kernel
theorem d4_112 : decode method_3_code 112 = .ok (.ifCond .eq 26, 3) := by decide +kernel
theorem d4_115 : decode method_3_code 115 = .ok (.iload 5, 2) := by decide +kernel
theorem d4_117 : decode method_3_code 117 = .ok (.ifCond .eq 21, 3) := by decide +kernel
theorem d4_120 : decode method_3_code 120 = .ok (.iload_n 0, 1) := by decide +kernel
theorem d4_121 : decode method_3_code 121 = .ok (.ldc 9, 2) := by decide +kernel
theorem d4_123 : decode method_3_code 123 = .ok (.isub, 1) := by decide +kernel
theorem d4_124 : decode method_3_code 124 = .ok (.bipush 28, 2) := by decide +kernel
theorem d4_126 : decode method_3_code 126 = .ok (.irem, 1) := by decide +kernel
theorem d4_127 : decode method_3_code 127 = .ok (.ifCond .ne 11, 3) := by decide +kernel
theorem d4_130 : decode method_3_code 130 = .ok (.iload_n 0, 1) := by decide +kernel
theorem d4_131 : decode method_3_code 131 = .ok (.iload_n 1, 1) := by decide +kernel
theorem d4_132 : decode method_3_code 132 = .ok (.sipush 4519, 3) := by decide +kernel
theorem d4_135 : decode method_3_code 135 = .ok (.isub, 1) := by decide +kernel
theorem d4_136 : decode method_3_code 136 = .ok (.iadd, 1) := by decide +kernel
theorem d4_137 : decode method_3_code 137 = .ok (.ireturn, 1) := by decide +kernel
theorem d4_138 : decode method_3_code 138 = .ok (.iconst (-1), 1) := by decide +kernel
theorem d4_139 : decode method_3_code 139 = .ok (.ireturn, 1) := by decide +kernel
def F4_138 : Int32 := (-1 : Int32)
theorem b4_138 {p : Program} {l : Launch} {e : Env} {R : Room} {s : State} {m : MethodId} {args : Array Value} {below : List Frame} {meth : Method} {c : Code} {T : State} {locs : List Loc} {cells slots : Nat} {Z : State} {a0 : Array Value} (X : Stand p l e R s m args below meth c T locs cells slots) (hx : p.tables.exec = Jvm.exec) (hZ : Z.Warmed39 s.vm) (hw : ∀ d ∈ tables_1, d.before a0 Z = true) (hby : c.code = method_3_code) (hown : s.vm.findClass "com/example/kent_ridge/kentridge/HangulSyllablesComposePinLaw" = some m.cls) (v0 : Int32) (v1 : Int32) (v2 : Int32) (v3 : Int32) (v4 : Int32) (v5 : Int32) (hret : meth.sig.returnType = some .int) {fs : List Frame} (hr : ∀ (f : JFrame) (acts : List Action), f.method = m → f.locked = none → f.entered = [] → (doReturn e (T.setTop f) acts (some (.int F4_138))).1 = T.setFrames fs) : Steps p.tables e below (T.setTop (mkF m 138 #[.val (.int v0), .val (.int v1), .val (.int v2), .val (.int v3), .val (.int v4), .val (.int v5)] [])) (T.setFrames fs) := by
  show Steps p.tables e below (T.setTop (mkF m 138 #[.val (.int v0), .val (.int v1), .val (.int v2), .val (.int v3), .val (.int v4), .val (.int v5)] [])) _
  refine XS.iconst X.here hx rfl (hb hby d4_138) ?_
  show Steps p.tables e below (T.setTop (mkF m 139 #[.val (.int v0), .val (.int v1), .val (.int v2), .val (.int v3), .val (.int v4), .val (.int v5)] [(.int (-1 : Int32))])) _
  rw [show F4_138 = (-1 : Int32) from rfl] at hr
  exact retI X hx hret (hb hby d4_139) hr
def F4_130 (v0 : Int32) (v1 : Int32) : Int32 := (v0 + (v1 - (4519 : Int32)))
theorem b4_130 {p : Program} {l : Launch} {e : Env} {R : Room} {s : State} {m : MethodId} {args : Array Value} {below : List Frame} {meth : Method} {c : Code} {T : State} {locs : List Loc} {cells slots : Nat} {Z : State} {a0 : Array Value} (X : Stand p l e R s m args below meth c T locs cells slots) (hx : p.tables.exec = Jvm.exec) (hZ : Z.Warmed39 s.vm) (hw : ∀ d ∈ tables_1, d.before a0 Z = true) (hby : c.code = method_3_code) (hown : s.vm.findClass "com/example/kent_ridge/kentridge/HangulSyllablesComposePinLaw" = some m.cls) (v0 : Int32) (v1 : Int32) (v2 : Int32) (v3 : Int32) (v4 : Int32) (v5 : Int32) (hret : meth.sig.returnType = some .int) {fs : List Frame} (hr : ∀ (f : JFrame) (acts : List Action), f.method = m → f.locked = none → f.entered = [] → (doReturn e (T.setTop f) acts (some (.int (F4_130 v0 v1)))).1 = T.setFrames fs) : Steps p.tables e below (T.setTop (mkF m 130 #[.val (.int v0), .val (.int v1), .val (.int v2), .val (.int v3), .val (.int v4), .val (.int v5)] [])) (T.setFrames fs) := by
  show Steps p.tables e below (T.setTop (mkF m 130 #[.val (.int v0), .val (.int v1), .val (.int v2), .val (.int v3), .val (.int v4), .val (.int v5)] [])) _
  refine XS.iloadN X.here hx rfl (hb hby d4_130) rfl ?_
  show Steps p.tables e below (T.setTop (mkF m 131 #[.val (.int v0), .val (.int v1), .val (.int v2), .val (.int v3), .val (.int v4), .val (.int v5)] [(.int v0)])) _
  refine XS.iloadN X.here hx rfl (hb hby d4_131) rfl ?_
  show Steps p.tables e below (T.setTop (mkF m 132 #[.val (.int v0), .val (.int v1), .val (.int v2), .val (.int v3), .val (.int v4), .val (.int v5)] [(.int v1), (.int v0)])) _
  refine XS.sipush X.here hx rfl (hb hby d4_132) ?_
  show Steps p.tables e below (T.setTop (mkF m 135 #[.val (.int v0), .val (.int v1), .val (.int v2), .val (.int v3), .val (.int v4), .val (.int v5)] [(.int (4519 : Int32)), (.int v1), (.int v0)])) _
  refine XS.isub X.here hx rfl (hb hby d4_135) rfl ?_
  show Steps p.tables e below (T.setTop (mkF m 136 #[.val (.int v0), .val (.int v1), .val (.int v2), .val (.int v3), .val (.int v4), .val (.int v5)] [(.int (v1 - (4519 : Int32))), (.int v0)])) _
  refine XS.iadd X.here hx rfl (hb hby d4_136) rfl ?_
  show Steps p.tables e below (T.setTop (mkF m 137 #[.val (.int v0), .val (.int v1), .val (.int v2), .val (.int v3), .val (.int v4), .val (.int v5)] [(.int (v0 + (v1 - (4519 : Int32))))])) _
  rw [show (F4_130 v0 v1) = (v0 + (v1 - (4519 : Int32))) from rfl] at hr
  exact retI X hx hret (hb hby d4_137) hr
def F4_120 (v0 : Int32) (v1 : Int32) : Int32 := if ((v0 - (44032 : Int32)) - ((v0 - (44032 : Int32)) / (28 : Int32)) * (28 : Int32)) = (0 : Int32) then (F4_130 v0 v1) else F4_138
theorem b4_120 {p : Program} {l : Launch} {e : Env} {R : Room} {s : State} {m : MethodId} {args : Array Value} {below : List Frame} {meth : Method} {c : Code} {T : State} {locs : List Loc} {cells slots : Nat} {Z : State} {a0 : Array Value} (X : Stand p l e R s m args below meth c T locs cells slots) (hx : p.tables.exec = Jvm.exec) (hZ : Z.Warmed39 s.vm) (hw : ∀ d ∈ tables_1, d.before a0 Z = true) (hby : c.code = method_3_code) (hown : s.vm.findClass "com/example/kent_ridge/kentridge/HangulSyllablesComposePinLaw" = some m.cls) (v0 : Int32) (v1 : Int32) (v2 : Int32) (v3 : Int32) (v4 : Int32) (v5 : Int32) (hret : meth.sig.returnType = some .int) {fs : List Frame} (hr : ∀ (f : JFrame) (acts : List Action), f.method = m → f.locked = none → f.entered = [] → (doReturn e (T.setTop f) acts (some (.int (F4_120 v0 v1)))).1 = T.setFrames fs) : Steps p.tables e below (T.setTop (mkF m 120 #[.val (.int v0), .val (.int v1), .val (.int v2), .val (.int v3), .val (.int v4), .val (.int v5)] [])) (T.setFrames fs) := by
  show Steps p.tables e below (T.setTop (mkF m 120 #[.val (.int v0), .val (.int v1), .val (.int v2), .val (.int v3), .val (.int v4), .val (.int v5)] [])) _
  refine XS.iloadN X.here hx rfl (hb hby d4_120) rfl ?_
  show Steps p.tables e below (T.setTop (mkF m 121 #[.val (.int v0), .val (.int v1), .val (.int v2), .val (.int v3), .val (.int v4), .val (.int v5)] [(.int v0)])) _
  refine X.ldcInt hx hown (mvT hZ (hw _ (List.mem_of_getElem? (i := 3) rfl))) (g := (mkF m 121 #[.val (.int v0), .val (.int v1), .val (.int v2), .val (.int v3), .val (.int v4), .val (.int v5)] [(.int v0)])) rfl (hb hby d4_121) _ ?_
  show Steps p.tables e below (T.setTop (mkF m 123 #[.val (.int v0), .val (.int v1), .val (.int v2), .val (.int v3), .val (.int v4), .val (.int v5)] [(.int (44032 : Int32)), (.int v0)])) _
  refine XS.isub X.here hx rfl (hb hby d4_123) rfl ?_
  show Steps p.tables e below (T.setTop (mkF m 124 #[.val (.int v0), .val (.int v1), .val (.int v2), .val (.int v3), .val (.int v4), .val (.int v5)] [(.int (v0 - (44032 : Int32)))])) _
  refine XS.bipush X.here hx rfl (hb hby d4_124) ?_
  show Steps p.tables e below (T.setTop (mkF m 126 #[.val (.int v0), .val (.int v1), .val (.int v2), .val (.int v3), .val (.int v4), .val (.int v5)] [(.int (28 : Int32)), (.int (v0 - (44032 : Int32)))])) _
  refine XS.irem X.here hx rfl (hb hby d4_126) rfl (by decide) ?_
  show Steps p.tables e below (T.setTop (mkF m 127 #[.val (.int v0), .val (.int v1), .val (.int v2), .val (.int v3), .val (.int v4), .val (.int v5)] [(.int ((v0 - (44032 : Int32)) - ((v0 - (44032 : Int32)) / (28 : Int32)) * (28 : Int32)))])) _
  by_cases hc : ((v0 - (44032 : Int32)) - ((v0 - (44032 : Int32)) / (28 : Int32)) * (28 : Int32)) = (0 : Int32)
  · rw [show (F4_120 v0 v1) = (F4_130 v0 v1) from if_pos hc] at hr
    refine XS.ifNo X.here hx rfl (hb hby d4_127) rfl ((if0 _ _).trans (teq hc).2) ?_
    exact b4_130 X hx hZ hw hby hown v0 v1 v2 v3 v4 v5 hret hr
  · rw [show (F4_120 v0 v1) = F4_138 from if_neg hc] at hr
    refine XS.ifYes X.here hx rfl (pc0 := 127) (pc' := 138) rfl (hb hby d4_127) rfl ((if0 _ _).trans (feq hc).2) (by decide) (by decide) ?_
    exact b4_138 X hx hZ hw hby hown v0 v1 v2 v3 v4 v5 hret hr
def F4_115 (v0 : Int32) (v1 : Int32) (v5 : Int32) : Int32 := if v5 = (0 : Int32) then F4_138 else (F4_120 v0 v1)
theorem b4_115 {p : Program} {l : Launch} {e : Env} {R : Room} {s : State} {m : MethodId} {args : Array Value} {below : List Frame} {meth : Method} {c : Code} {T : State} {locs : List Loc} {cells slots : Nat} {Z : State} {a0 : Array Value} (X : Stand p l e R s m args below meth c T locs cells slots) (hx : p.tables.exec = Jvm.exec) (hZ : Z.Warmed39 s.vm) (hw : ∀ d ∈ tables_1, d.before a0 Z = true) (hby : c.code = method_3_code) (hown : s.vm.findClass "com/example/kent_ridge/kentridge/HangulSyllablesComposePinLaw" = some m.cls) (v0 : Int32) (v1 : Int32) (v2 : Int32) (v3 : Int32) (v4 : Int32) (v5 : Int32) (hret : meth.sig.returnType = some .int) {fs : List Frame} (hr : ∀ (f : JFrame) (acts : List Action), f.method = m → f.locked = none → f.entered = [] → (doReturn e (T.setTop f) acts (some (.int (F4_115 v0 v1 v5)))).1 = T.setFrames fs) : Steps p.tables e below (T.setTop (mkF m 115 #[.val (.int v0), .val (.int v1), .val (.int v2), .val (.int v3), .val (.int v4), .val (.int v5)] [])) (T.setFrames fs) := by
  show Steps p.tables e below (T.setTop (mkF m 115 #[.val (.int v0), .val (.int v1), .val (.int v2), .val (.int v3), .val (.int v4), .val (.int v5)] [])) _
  refine XS.iload X.here hx rfl (hb hby d4_115) rfl ?_
  show Steps p.tables e below (T.setTop (mkF m 117 #[.val (.int v0), .val (.int v1), .val (.int v2), .val (.int v3), .val (.int v4), .val (.int v5)] [(.int v5)])) _
  by_cases hc : v5 = (0 : Int32)
  · rw [show (F4_115 v0 v1 v5) = F4_138 from if_pos hc] at hr
    refine XS.ifYes X.here hx rfl (pc0 := 117) (pc' := 138) rfl (hb hby d4_117) rfl ((if0 _ _).trans (teq hc).1) (by decide) (by decide) ?_
    exact b4_138 X hx hZ hw hby hown v0 v1 v2 v3 v4 v5 hret hr
  · rw [show (F4_115 v0 v1 v5) = (F4_120 v0 v1) from if_neg hc] at hr
    refine XS.ifNo X.here hx rfl (hb hby d4_117) rfl ((if0 _ _).trans (feq hc).1) ?_
    exact b4_120 X hx hZ hw hby hown v0 v1 v2 v3 v4 v5 hret hr
def F4_107 (v0 : Int32) (v1 : Int32) (v4 : Int32) : Int32 := if v4 = (0 : Int32) then F4_138 else (F4_115 v0 v1 (0 : Int32))
theorem b4_107 {p : Program} {l : Launch} {e : Env} {R : Room} {s : State} {m : MethodId} {args : Array Value} {below : List Frame} {meth : Method} {c : Code} {T : State} {locs : List Loc} {cells slots : Nat} {Z : State} {a0 : Array Value} (X : Stand p l e R s m args below meth c T locs cells slots) (hx : p.tables.exec = Jvm.exec) (hZ : Z.Warmed39 s.vm) (hw : ∀ d ∈ tables_1, d.before a0 Z = true) (hby : c.code = method_3_code) (hown : s.vm.findClass "com/example/kent_ridge/kentridge/HangulSyllablesComposePinLaw" = some m.cls) (v0 : Int32) (v1 : Int32) (v2 : Int32) (v3 : Int32) (v4 : Int32) (hret : meth.sig.returnType = some .int) {fs : List Frame} (hr : ∀ (f : JFrame) (acts : List Action), f.method = m → f.locked = none → f.entered = [] → (doReturn e (T.setTop f) acts (some (.int (F4_107 v0 v1 v4)))).1 = T.setFrames fs) : Steps p.tables e below (T.setTop (mkF m 107 #[.val (.int v0), .val (.int v1), .val (.int v2), .val (.int v3), .val (.int v4), .unset] [])) (T.setFrames fs) := by
  show Steps p.tables e below (T.setTop (mkF m 107 #[.val (.int v0), .val (.int v1), .val (.int v2), .val (.int v3), .val (.int v4), .unset] [])) _
  refine XS.iconst X.here hx rfl (hb hby d4_107) ?_
  show Steps p.tables e below (T.setTop (mkF m 108 #[.val (.int v0), .val (.int v1), .val (.int v2), .val (.int v3), .val (.int v4), .unset] [(.int (0 : Int32))])) _
  refine XS.istore X.here hx rfl (hb hby d4_108) rfl (l' := #[.val (.int v0), .val (.int v1), .val (.int v2), .val (.int v3), .val (.int v4), .val (.int (0 : Int32))]) rfl ?_
  show Steps p.tables e below (T.setTop (mkF m 110 #[.val (.int v0), .val (.int v1), .val (.int v2), .val (.int v3), .val (.int v4), .val (.int (0 : Int32))] [])) _
  refine XS.iload X.here hx rfl (hb hby d4_110) rfl ?_
  show Steps p.tables e below (T.setTop (mkF m 112 #[.val (.int v0), .val (.int v1), .val (.int v2), .val (.int v3), .val (.int v4), .val (.int (0 : Int32))] [(.int v4)])) _
  by_cases hc : v4 = (0 : Int32)
  · rw [show (F4_107 v0 v1 v4) = F4_138 from if_pos hc] at hr
    refine XS.ifYes X.here hx rfl (pc0 := 112) (pc' := 138) rfl (hb hby d4_112) rfl ((if0 _ _).trans (teq hc).1) (by decide) (by decide) ?_
    exact b4_138 X hx hZ hw hby hown v0 v1 v2 v3 v4 (0 : Int32) hret hr
  · rw [show (F4_107 v0 v1 v4) = (F4_115 v0 v1 (0 : Int32)) from if_neg hc] at hr
    refine XS.ifNo X.here hx rfl (hb hby d4_112) rfl ((if0 _ _).trans (feq hc).1) ?_
    exact b4_115 X hx hZ hw hby hown v0 v1 v2 v3 v4 (0 : Int32) hret hr
def F4_103 (v0 : Int32) (v1 : Int32) (v4 : Int32) : Int32 := if v4 = (0 : Int32) then F4_138 else (F4_115 v0 v1 (1 : Int32))
theorem b4_103 {p : Program} {l : Launch} {e : Env} {R : Room} {s : State} {m : MethodId} {args : Array Value} {below : List Frame} {meth : Method} {c : Code} {T : State} {locs : List Loc} {cells slots : Nat} {Z : State} {a0 : Array Value} (X : Stand p l e R s m args below meth c T locs cells slots) (hx : p.tables.exec = Jvm.exec) (hZ : Z.Warmed39 s.vm) (hw : ∀ d ∈ tables_1, d.before a0 Z = true) (hby : c.code = method_3_code) (hown : s.vm.findClass "com/example/kent_ridge/kentridge/HangulSyllablesComposePinLaw" = some m.cls) (v0 : Int32) (v1 : Int32) (v2 : Int32) (v3 : Int32) (v4 : Int32) (hret : meth.sig.returnType = some .int) {fs : List Frame} (hr : ∀ (f : JFrame) (acts : List Action), f.method = m → f.locked = none → f.entered = [] → (doReturn e (T.setTop f) acts (some (.int (F4_103 v0 v1 v4)))).1 = T.setFrames fs) : Steps p.tables e below (T.setTop (mkF m 103 #[.val (.int v0), .val (.int v1), .val (.int v2), .val (.int v3), .val (.int v4), .unset] [])) (T.setFrames fs) := by
  show Steps p.tables e below (T.setTop (mkF m 103 #[.val (.int v0), .val (.int v1), .val (.int v2), .val (.int v3), .val (.int v4), .unset] [])) _
  refine XS.iconst X.here hx rfl (hb hby d4_103) ?_
  show Steps p.tables e below (T.setTop (mkF m 104 #[.val (.int v0), .val (.int v1), .val (.int v2), .val (.int v3), .val (.int v4), .unset] [(.int (1 : Int32))])) _
  refine XS.goto X.here hx rfl (pc0 := 104) (pc' := 108) rfl (hb hby d4_104) (by decide) (by decide) ?_
  show Steps p.tables e below (T.setTop (mkF m 108 #[.val (.int v0), .val (.int v1), .val (.int v2), .val (.int v3), .val (.int v4), .unset] [(.int (1 : Int32))])) _
  refine XS.istore X.here hx rfl (hb hby d4_108) rfl (l' := #[.val (.int v0), .val (.int v1), .val (.int v2), .val (.int v3), .val (.int v4), .val (.int (1 : Int32))]) rfl ?_
  show Steps p.tables e below (T.setTop (mkF m 110 #[.val (.int v0), .val (.int v1), .val (.int v2), .val (.int v3), .val (.int v4), .val (.int (1 : Int32))] [])) _
  refine XS.iload X.here hx rfl (hb hby d4_110) rfl ?_
  show Steps p.tables e below (T.setTop (mkF m 112 #[.val (.int v0), .val (.int v1), .val (.int v2), .val (.int v3), .val (.int v4), .val (.int (1 : Int32))] [(.int v4)])) _
  by_cases hc : v4 = (0 : Int32)
  · rw [show (F4_103 v0 v1 v4) = F4_138 from if_pos hc] at hr
    refine XS.ifYes X.here hx rfl (pc0 := 112) (pc' := 138) rfl (hb hby d4_112) rfl ((if0 _ _).trans (teq hc).1) (by decide) (by decide) ?_
    exact b4_138 X hx hZ hw hby hown v0 v1 v2 v3 v4 (1 : Int32) hret hr
  · rw [show (F4_103 v0 v1 v4) = (F4_115 v0 v1 (1 : Int32)) from if_neg hc] at hr
    refine XS.ifNo X.here hx rfl (hb hby d4_112) rfl ((if0 _ _).trans (feq hc).1) ?_
    exact b4_115 X hx hZ hw hby hown v0 v1 v2 v3 v4 (1 : Int32) hret hr
def F4_96 (v0 : Int32) (v1 : Int32) (v4 : Int32) : Int32 := if (4546 : Int32) < v1 then (F4_107 v0 v1 v4) else (F4_103 v0 v1 v4)
theorem b4_96 {p : Program} {l : Launch} {e : Env} {R : Room} {s : State} {m : MethodId} {args : Array Value} {below : List Frame} {meth : Method} {c : Code} {T : State} {locs : List Loc} {cells slots : Nat} {Z : State} {a0 : Array Value} (X : Stand p l e R s m args below meth c T locs cells slots) (hx : p.tables.exec = Jvm.exec) (hZ : Z.Warmed39 s.vm) (hw : ∀ d ∈ tables_1, d.before a0 Z = true) (hby : c.code = method_3_code) (hown : s.vm.findClass "com/example/kent_ridge/kentridge/HangulSyllablesComposePinLaw" = some m.cls) (v0 : Int32) (v1 : Int32) (v2 : Int32) (v3 : Int32) (v4 : Int32) (hret : meth.sig.returnType = some .int) {fs : List Frame} (hr : ∀ (f : JFrame) (acts : List Action), f.method = m → f.locked = none → f.entered = [] → (doReturn e (T.setTop f) acts (some (.int (F4_96 v0 v1 v4)))).1 = T.setFrames fs) : Steps p.tables e below (T.setTop (mkF m 96 #[.val (.int v0), .val (.int v1), .val (.int v2), .val (.int v3), .val (.int v4), .unset] [])) (T.setFrames fs) := by
  show Steps p.tables e below (T.setTop (mkF m 96 #[.val (.int v0), .val (.int v1), .val (.int v2), .val (.int v3), .val (.int v4), .unset] [])) _
  refine XS.iloadN X.here hx rfl (hb hby d4_96) rfl ?_
  show Steps p.tables e below (T.setTop (mkF m 97 #[.val (.int v0), .val (.int v1), .val (.int v2), .val (.int v3), .val (.int v4), .unset] [(.int v1)])) _
  refine XS.sipush X.here hx rfl (hb hby d4_97) ?_
  show Steps p.tables e below (T.setTop (mkF m 100 #[.val (.int v0), .val (.int v1), .val (.int v2), .val (.int v3), .val (.int v4), .unset] [(.int (4546 : Int32)), (.int v1)])) _
  by_cases hc : (4546 : Int32) < v1
  · rw [show (F4_96 v0 v1 v4) = (F4_107 v0 v1 v4) from if_pos hc] at hr
    refine XS.icmpYes X.here hx rfl (pc0 := 100) (pc' := 107) rfl (hb hby d4_100) rfl (tlt hc).2.2.1 (by decide) (by decide) ?_
    exact b4_107 X hx hZ hw hby hown v0 v1 v2 v3 v4 hret hr
  · rw [show (F4_96 v0 v1 v4) = (F4_103 v0 v1 v4) from if_neg hc] at hr
    refine XS.icmpNo X.here hx rfl (hb hby d4_100) rfl (flt hc).2.2.1 ?_
    exact b4_103 X hx hZ hw hby hown v0 v1 v2 v3 v4 hret hr
def F4_86 (v0 : Int32) (v1 : Int32) : Int32 := if v1 < (4520 : Int32) then (F4_107 v0 v1 (0 : Int32)) else (F4_96 v0 v1 (0 : Int32))
theorem b4_86 {p : Program} {l : Launch} {e : Env} {R : Room} {s : State} {m : MethodId} {args : Array Value} {below : List Frame} {meth : Method} {c : Code} {T : State} {locs : List Loc} {cells slots : Nat} {Z : State} {a0 : Array Value} (X : Stand p l e R s m args below meth c T locs cells slots) (hx : p.tables.exec = Jvm.exec) (hZ : Z.Warmed39 s.vm) (hw : ∀ d ∈ tables_1, d.before a0 Z = true) (hby : c.code = method_3_code) (hown : s.vm.findClass "com/example/kent_ridge/kentridge/HangulSyllablesComposePinLaw" = some m.cls) (v0 : Int32) (v1 : Int32) (v2 : Int32) (v3 : Int32) (hret : meth.sig.returnType = some .int) {fs : List Frame} (hr : ∀ (f : JFrame) (acts : List Action), f.method = m → f.locked = none → f.entered = [] → (doReturn e (T.setTop f) acts (some (.int (F4_86 v0 v1)))).1 = T.setFrames fs) : Steps p.tables e below (T.setTop (mkF m 86 #[.val (.int v0), .val (.int v1), .val (.int v2), .val (.int v3), .unset, .unset] [])) (T.setFrames fs) := by
  show Steps p.tables e below (T.setTop (mkF m 86 #[.val (.int v0), .val (.int v1), .val (.int v2), .val (.int v3), .unset, .unset] [])) _
  refine XS.iconst X.here hx rfl (hb hby d4_86) ?_
  show Steps p.tables e below (T.setTop (mkF m 87 #[.val (.int v0), .val (.int v1), .val (.int v2), .val (.int v3), .unset, .unset] [(.int (0 : Int32))])) _
  refine XS.istore X.here hx rfl (hb hby d4_87) rfl (l' := #[.val (.int v0), .val (.int v1), .val (.int v2), .val (.int v3), .val (.int (0 : Int32)), .unset]) rfl ?_
  show Steps p.tables e below (T.setTop (mkF m 89 #[.val (.int v0), .val (.int v1), .val (.int v2), .val (.int v3), .val (.int (0 : Int32)), .unset] [])) _
  refine XS.iloadN X.here hx rfl (hb hby d4_89) rfl ?_
  show Steps p.tables e below (T.setTop (mkF m 90 #[.val (.int v0), .val (.int v1), .val (.int v2), .val (.int v3), .val (.int (0 : Int32)), .unset] [(.int v1)])) _
  refine XS.sipush X.here hx rfl (hb hby d4_90) ?_
  show Steps p.tables e below (T.setTop (mkF m 93 #[.val (.int v0), .val (.int v1), .val (.int v2), .val (.int v3), .val (.int (0 : Int32)), .unset] [(.int (4520 : Int32)), (.int v1)])) _
  by_cases hc : v1 < (4520 : Int32)
  · rw [show (F4_86 v0 v1) = (F4_107 v0 v1 (0 : Int32)) from if_pos hc] at hr
    refine XS.icmpYes X.here hx rfl (pc0 := 93) (pc' := 107) rfl (hb hby d4_93) rfl (tlt hc).1 (by decide) (by decide) ?_
    exact b4_107 X hx hZ hw hby hown v0 v1 v2 v3 (0 : Int32) hret hr
  · rw [show (F4_86 v0 v1) = (F4_96 v0 v1 (0 : Int32)) from if_neg hc] at hr
    refine XS.icmpNo X.here hx rfl (hb hby d4_93) rfl (flt hc).1 ?_
    exact b4_96 X hx hZ hw hby hown v0 v1 v2 v3 (0 : Int32) hret hr
def F4_82 (v0 : Int32) (v1 : Int32) : Int32 := if v1 < (4520 : Int32) then (F4_107 v0 v1 (1 : Int32)) else (F4_96 v0 v1 (1 : Int32))
theorem b4_82 {p : Program} {l : Launch} {e : Env} {R : Room} {s : State} {m : MethodId} {args : Array Value} {below : List Frame} {meth : Method} {c : Code} {T : State} {locs : List Loc} {cells slots : Nat} {Z : State} {a0 : Array Value} (X : Stand p l e R s m args below meth c T locs cells slots) (hx : p.tables.exec = Jvm.exec) (hZ : Z.Warmed39 s.vm) (hw : ∀ d ∈ tables_1, d.before a0 Z = true) (hby : c.code = method_3_code) (hown : s.vm.findClass "com/example/kent_ridge/kentridge/HangulSyllablesComposePinLaw" = some m.cls) (v0 : Int32) (v1 : Int32) (v2 : Int32) (v3 : Int32) (hret : meth.sig.returnType = some .int) {fs : List Frame} (hr : ∀ (f : JFrame) (acts : List Action), f.method = m → f.locked = none → f.entered = [] → (doReturn e (T.setTop f) acts (some (.int (F4_82 v0 v1)))).1 = T.setFrames fs) : Steps p.tables e below (T.setTop (mkF m 82 #[.val (.int v0), .val (.int v1), .val (.int v2), .val (.int v3), .unset, .unset] [])) (T.setFrames fs) := by
  show Steps p.tables e below (T.setTop (mkF m 82 #[.val (.int v0), .val (.int v1), .val (.int v2), .val (.int v3), .unset, .unset] [])) _
  refine XS.iconst X.here hx rfl (hb hby d4_82) ?_
  show Steps p.tables e below (T.setTop (mkF m 83 #[.val (.int v0), .val (.int v1), .val (.int v2), .val (.int v3), .unset, .unset] [(.int (1 : Int32))])) _
  refine XS.goto X.here hx rfl (pc0 := 83) (pc' := 87) rfl (hb hby d4_83) (by decide) (by decide) ?_
  show Steps p.tables e below (T.setTop (mkF m 87 #[.val (.int v0), .val (.int v1), .val (.int v2), .val (.int v3), .unset, .unset] [(.int (1 : Int32))])) _
  refine XS.istore X.here hx rfl (hb hby d4_87) rfl (l' := #[.val (.int v0), .val (.int v1), .val (.int v2), .val (.int v3), .val (.int (1 : Int32)), .unset]) rfl ?_
  show Steps p.tables e below (T.setTop (mkF m 89 #[.val (.int v0), .val (.int v1), .val (.int v2), .val (.int v3), .val (.int (1 : Int32)), .unset] [])) _
  refine XS.iloadN X.here hx rfl (hb hby d4_89) rfl ?_
  show Steps p.tables e below (T.setTop (mkF m 90 #[.val (.int v0), .val (.int v1), .val (.int v2), .val (.int v3), .val (.int (1 : Int32)), .unset] [(.int v1)])) _
  refine XS.sipush X.here hx rfl (hb hby d4_90) ?_
  show Steps p.tables e below (T.setTop (mkF m 93 #[.val (.int v0), .val (.int v1), .val (.int v2), .val (.int v3), .val (.int (1 : Int32)), .unset] [(.int (4520 : Int32)), (.int v1)])) _
  by_cases hc : v1 < (4520 : Int32)
  · rw [show (F4_82 v0 v1) = (F4_107 v0 v1 (1 : Int32)) from if_pos hc] at hr
    refine XS.icmpYes X.here hx rfl (pc0 := 93) (pc' := 107) rfl (hb hby d4_93) rfl (tlt hc).1 (by decide) (by decide) ?_
    exact b4_107 X hx hZ hw hby hown v0 v1 v2 v3 (1 : Int32) hret hr
  · rw [show (F4_82 v0 v1) = (F4_96 v0 v1 (1 : Int32)) from if_neg hc] at hr
    refine XS.icmpNo X.here hx rfl (hb hby d4_93) rfl (flt hc).1 ?_
    exact b4_96 X hx hZ hw hby hown v0 v1 v2 v3 (1 : Int32) hret hr
def F4_76 (v0 : Int32) (v1 : Int32) : Int32 := if (55203 : Int32) < v0 then (F4_86 v0 v1) else (F4_82 v0 v1)
theorem b4_76 {p : Program} {l : Launch} {e : Env} {R : Room} {s : State} {m : MethodId} {args : Array Value} {below : List Frame} {meth : Method} {c : Code} {T : State} {locs : List Loc} {cells slots : Nat} {Z : State} {a0 : Array Value} (X : Stand p l e R s m args below meth c T locs cells slots) (hx : p.tables.exec = Jvm.exec) (hZ : Z.Warmed39 s.vm) (hw : ∀ d ∈ tables_1, d.before a0 Z = true) (hby : c.code = method_3_code) (hown : s.vm.findClass "com/example/kent_ridge/kentridge/HangulSyllablesComposePinLaw" = some m.cls) (v0 : Int32) (v1 : Int32) (v2 : Int32) (v3 : Int32) (hret : meth.sig.returnType = some .int) {fs : List Frame} (hr : ∀ (f : JFrame) (acts : List Action), f.method = m → f.locked = none → f.entered = [] → (doReturn e (T.setTop f) acts (some (.int (F4_76 v0 v1)))).1 = T.setFrames fs) : Steps p.tables e below (T.setTop (mkF m 76 #[.val (.int v0), .val (.int v1), .val (.int v2), .val (.int v3), .unset, .unset] [])) (T.setFrames fs) := by
  show Steps p.tables e below (T.setTop (mkF m 76 #[.val (.int v0), .val (.int v1), .val (.int v2), .val (.int v3), .unset, .unset] [])) _
  refine XS.iloadN X.here hx rfl (hb hby d4_76) rfl ?_
  show Steps p.tables e below (T.setTop (mkF m 77 #[.val (.int v0), .val (.int v1), .val (.int v2), .val (.int v3), .unset, .unset] [(.int v0)])) _
  refine X.ldcInt hx hown (mvT hZ (hw _ (List.mem_of_getElem? (i := 39) rfl))) (g := (mkF m 77 #[.val (.int v0), .val (.int v1), .val (.int v2), .val (.int v3), .unset, .unset] [(.int v0)])) rfl (hb hby d4_77) _ ?_
  show Steps p.tables e below (T.setTop (mkF m 79 #[.val (.int v0), .val (.int v1), .val (.int v2), .val (.int v3), .unset, .unset] [(.int (55203 : Int32)), (.int v0)])) _
  by_cases hc : (55203 : Int32) < v0
  · rw [show (F4_76 v0 v1) = (F4_86 v0 v1) from if_pos hc] at hr
    refine XS.icmpYes X.here hx rfl (pc0 := 79) (pc' := 86) rfl (hb hby d4_79) rfl (tlt hc).2.2.1 (by decide) (by decide) ?_
    exact b4_86 X hx hZ hw hby hown v0 v1 v2 v3 hret hr
  · rw [show (F4_76 v0 v1) = (F4_82 v0 v1) from if_neg hc] at hr
    refine XS.icmpNo X.here hx rfl (hb hby d4_79) rfl (flt hc).2.2.1 ?_
    exact b4_82 X hx hZ hw hby hown v0 v1 v2 v3 hret hr
def F4_70 (v0 : Int32) (v1 : Int32) : Int32 := if v0 < (44032 : Int32) then (F4_86 v0 v1) else (F4_76 v0 v1)
theorem b4_70 {p : Program} {l : Launch} {e : Env} {R : Room} {s : State} {m : MethodId} {args : Array Value} {below : List Frame} {meth : Method} {c : Code} {T : State} {locs : List Loc} {cells slots : Nat} {Z : State} {a0 : Array Value} (X : Stand p l e R s m args below meth c T locs cells slots) (hx : p.tables.exec = Jvm.exec) (hZ : Z.Warmed39 s.vm) (hw : ∀ d ∈ tables_1, d.before a0 Z = true) (hby : c.code = method_3_code) (hown : s.vm.findClass "com/example/kent_ridge/kentridge/HangulSyllablesComposePinLaw" = some m.cls) (v0 : Int32) (v1 : Int32) (v2 : Int32) (v3 : Int32) (hret : meth.sig.returnType = some .int) {fs : List Frame} (hr : ∀ (f : JFrame) (acts : List Action), f.method = m → f.locked = none → f.entered = [] → (doReturn e (T.setTop f) acts (some (.int (F4_70 v0 v1)))).1 = T.setFrames fs) : Steps p.tables e below (T.setTop (mkF m 70 #[.val (.int v0), .val (.int v1), .val (.int v2), .val (.int v3), .unset, .unset] [])) (T.setFrames fs) := by
  show Steps p.tables e below (T.setTop (mkF m 70 #[.val (.int v0), .val (.int v1), .val (.int v2), .val (.int v3), .unset, .unset] [])) _
  refine XS.iloadN X.here hx rfl (hb hby d4_70) rfl ?_
  show Steps p.tables e below (T.setTop (mkF m 71 #[.val (.int v0), .val (.int v1), .val (.int v2), .val (.int v3), .unset, .unset] [(.int v0)])) _
  refine X.ldcInt hx hown (mvT hZ (hw _ (List.mem_of_getElem? (i := 3) rfl))) (g := (mkF m 71 #[.val (.int v0), .val (.int v1), .val (.int v2), .val (.int v3), .unset, .unset] [(.int v0)])) rfl (hb hby d4_71) _ ?_
  show Steps p.tables e below (T.setTop (mkF m 73 #[.val (.int v0), .val (.int v1), .val (.int v2), .val (.int v3), .unset, .unset] [(.int (44032 : Int32)), (.int v0)])) _
  by_cases hc : v0 < (44032 : Int32)
  · rw [show (F4_70 v0 v1) = (F4_86 v0 v1) from if_pos hc] at hr
    refine XS.icmpYes X.here hx rfl (pc0 := 73) (pc' := 86) rfl (hb hby d4_73) rfl (tlt hc).1 (by decide) (by decide) ?_
    exact b4_86 X hx hZ hw hby hown v0 v1 v2 v3 hret hr
  · rw [show (F4_70 v0 v1) = (F4_76 v0 v1) from if_neg hc] at hr
    refine XS.icmpNo X.here hx rfl (hb hby d4_73) rfl (flt hc).1 ?_
    exact b4_76 X hx hZ hw hby hown v0 v1 v2 v3 hret hr
def F4_48 (v0 : Int32) (v1 : Int32) : Int32 := (((44032 : Int32) + ((v0 - (4352 : Int32)) * (588 : Int32))) + ((v1 - (4449 : Int32)) * (28 : Int32)))
theorem b4_48 {p : Program} {l : Launch} {e : Env} {R : Room} {s : State} {m : MethodId} {args : Array Value} {below : List Frame} {meth : Method} {c : Code} {T : State} {locs : List Loc} {cells slots : Nat} {Z : State} {a0 : Array Value} (X : Stand p l e R s m args below meth c T locs cells slots) (hx : p.tables.exec = Jvm.exec) (hZ : Z.Warmed39 s.vm) (hw : ∀ d ∈ tables_1, d.before a0 Z = true) (hby : c.code = method_3_code) (hown : s.vm.findClass "com/example/kent_ridge/kentridge/HangulSyllablesComposePinLaw" = some m.cls) (v0 : Int32) (v1 : Int32) (v2 : Int32) (v3 : Int32) (hret : meth.sig.returnType = some .int) {fs : List Frame} (hr : ∀ (f : JFrame) (acts : List Action), f.method = m → f.locked = none → f.entered = [] → (doReturn e (T.setTop f) acts (some (.int (F4_48 v0 v1)))).1 = T.setFrames fs) : Steps p.tables e below (T.setTop (mkF m 48 #[.val (.int v0), .val (.int v1), .val (.int v2), .val (.int v3), .unset, .unset] [])) (T.setFrames fs) := by
  show Steps p.tables e below (T.setTop (mkF m 48 #[.val (.int v0), .val (.int v1), .val (.int v2), .val (.int v3), .unset, .unset] [])) _
  refine X.ldcInt hx hown (mvT hZ (hw _ (List.mem_of_getElem? (i := 3) rfl))) (g := (mkF m 48 #[.val (.int v0), .val (.int v1), .val (.int v2), .val (.int v3), .unset, .unset] [])) rfl (hb hby d4_48) _ ?_
  show Steps p.tables e below (T.setTop (mkF m 50 #[.val (.int v0), .val (.int v1), .val (.int v2), .val (.int v3), .unset, .unset] [(.int (44032 : Int32))])) _
  refine XS.iloadN X.here hx rfl (hb hby d4_50) rfl ?_
  show Steps p.tables e below (T.setTop (mkF m 51 #[.val (.int v0), .val (.int v1), .val (.int v2), .val (.int v3), .unset, .unset] [(.int v0), (.int (44032 : Int32))])) _
  refine XS.sipush X.here hx rfl (hb hby d4_51) ?_
  show Steps p.tables e below (T.setTop (mkF m 54 #[.val (.int v0), .val (.int v1), .val (.int v2), .val (.int v3), .unset, .unset] [(.int (4352 : Int32)), (.int v0), (.int (44032 : Int32))])) _
  refine XS.isub X.here hx rfl (hb hby d4_54) rfl ?_
  show Steps p.tables e below (T.setTop (mkF m 55 #[.val (.int v0), .val (.int v1), .val (.int v2), .val (.int v3), .unset, .unset] [(.int (v0 - (4352 : Int32))), (.int (44032 : Int32))])) _
  refine XS.sipush X.here hx rfl (hb hby d4_55) ?_
  show Steps p.tables e below (T.setTop (mkF m 58 #[.val (.int v0), .val (.int v1), .val (.int v2), .val (.int v3), .unset, .unset] [(.int (588 : Int32)), (.int (v0 - (4352 : Int32))), (.int (44032 : Int32))])) _
  refine XS.imul X.here hx rfl (hb hby d4_58) rfl ?_
  show Steps p.tables e below (T.setTop (mkF m 59 #[.val (.int v0), .val (.int v1), .val (.int v2), .val (.int v3), .unset, .unset] [(.int ((v0 - (4352 : Int32)) * (588 : Int32))), (.int (44032 : Int32))])) _
  refine XS.iadd X.here hx rfl (hb hby d4_59) rfl ?_
  show Steps p.tables e below (T.setTop (mkF m 60 #[.val (.int v0), .val (.int v1), .val (.int v2), .val (.int v3), .unset, .unset] [(.int ((44032 : Int32) + ((v0 - (4352 : Int32)) * (588 : Int32))))])) _
  refine XS.iloadN X.here hx rfl (hb hby d4_60) rfl ?_
  show Steps p.tables e below (T.setTop (mkF m 61 #[.val (.int v0), .val (.int v1), .val (.int v2), .val (.int v3), .unset, .unset] [(.int v1), (.int ((44032 : Int32) + ((v0 - (4352 : Int32)) * (588 : Int32))))])) _
  refine XS.sipush X.here hx rfl (hb hby d4_61) ?_
  show Steps p.tables e below (T.setTop (mkF m 64 #[.val (.int v0), .val (.int v1), .val (.int v2), .val (.int v3), .unset, .unset] [(.int (4449 : Int32)), (.int v1), (.int ((44032 : Int32) + ((v0 - (4352 : Int32)) * (588 : Int32))))])) _
  refine XS.isub X.here hx rfl (hb hby d4_64) rfl ?_
  show Steps p.tables e below (T.setTop (mkF m 65 #[.val (.int v0), .val (.int v1), .val (.int v2), .val (.int v3), .unset, .unset] [(.int (v1 - (4449 : Int32))), (.int ((44032 : Int32) + ((v0 - (4352 : Int32)) * (588 : Int32))))])) _
  refine XS.bipush X.here hx rfl (hb hby d4_65) ?_
  show Steps p.tables e below (T.setTop (mkF m 67 #[.val (.int v0), .val (.int v1), .val (.int v2), .val (.int v3), .unset, .unset] [(.int (28 : Int32)), (.int (v1 - (4449 : Int32))), (.int ((44032 : Int32) + ((v0 - (4352 : Int32)) * (588 : Int32))))])) _
  refine XS.imul X.here hx rfl (hb hby d4_67) rfl ?_
  show Steps p.tables e below (T.setTop (mkF m 68 #[.val (.int v0), .val (.int v1), .val (.int v2), .val (.int v3), .unset, .unset] [(.int ((v1 - (4449 : Int32)) * (28 : Int32))), (.int ((44032 : Int32) + ((v0 - (4352 : Int32)) * (588 : Int32))))])) _
  refine XS.iadd X.here hx rfl (hb hby d4_68) rfl ?_
  show Steps p.tables e below (T.setTop (mkF m 69 #[.val (.int v0), .val (.int v1), .val (.int v2), .val (.int v3), .unset, .unset] [(.int (((44032 : Int32) + ((v0 - (4352 : Int32)) * (588 : Int32))) + ((v1 - (4449 : Int32)) * (28 : Int32))))])) _
  rw [show (F4_48 v0 v1) = (((44032 : Int32) + ((v0 - (4352 : Int32)) * (588 : Int32))) + ((v1 - (4449 : Int32)) * (28 : Int32))) from rfl] at hr
  exact retI X hx hret (hb hby d4_69) hr
def F4_44 (v0 : Int32) (v1 : Int32) (v3 : Int32) : Int32 := if v3 = (0 : Int32) then (F4_70 v0 v1) else (F4_48 v0 v1)
theorem b4_44 {p : Program} {l : Launch} {e : Env} {R : Room} {s : State} {m : MethodId} {args : Array Value} {below : List Frame} {meth : Method} {c : Code} {T : State} {locs : List Loc} {cells slots : Nat} {Z : State} {a0 : Array Value} (X : Stand p l e R s m args below meth c T locs cells slots) (hx : p.tables.exec = Jvm.exec) (hZ : Z.Warmed39 s.vm) (hw : ∀ d ∈ tables_1, d.before a0 Z = true) (hby : c.code = method_3_code) (hown : s.vm.findClass "com/example/kent_ridge/kentridge/HangulSyllablesComposePinLaw" = some m.cls) (v0 : Int32) (v1 : Int32) (v2 : Int32) (v3 : Int32) (hret : meth.sig.returnType = some .int) {fs : List Frame} (hr : ∀ (f : JFrame) (acts : List Action), f.method = m → f.locked = none → f.entered = [] → (doReturn e (T.setTop f) acts (some (.int (F4_44 v0 v1 v3)))).1 = T.setFrames fs) : Steps p.tables e below (T.setTop (mkF m 44 #[.val (.int v0), .val (.int v1), .val (.int v2), .val (.int v3), .unset, .unset] [])) (T.setFrames fs) := by
  show Steps p.tables e below (T.setTop (mkF m 44 #[.val (.int v0), .val (.int v1), .val (.int v2), .val (.int v3), .unset, .unset] [])) _
  refine XS.iloadN X.here hx rfl (hb hby d4_44) rfl ?_
  show Steps p.tables e below (T.setTop (mkF m 45 #[.val (.int v0), .val (.int v1), .val (.int v2), .val (.int v3), .unset, .unset] [(.int v3)])) _
  by_cases hc : v3 = (0 : Int32)
  · rw [show (F4_44 v0 v1 v3) = (F4_70 v0 v1) from if_pos hc] at hr
    refine XS.ifYes X.here hx rfl (pc0 := 45) (pc' := 70) rfl (hb hby d4_45) rfl ((if0 _ _).trans (teq hc).1) (by decide) (by decide) ?_
    exact b4_70 X hx hZ hw hby hown v0 v1 v2 v3 hret hr
  · rw [show (F4_44 v0 v1 v3) = (F4_48 v0 v1) from if_neg hc] at hr
    refine XS.ifNo X.here hx rfl (hb hby d4_45) rfl ((if0 _ _).trans (feq hc).1) ?_
    exact b4_48 X hx hZ hw hby hown v0 v1 v2 v3 hret hr
def F4_38 (v0 : Int32) (v1 : Int32) (v2 : Int32) : Int32 := if v2 = (0 : Int32) then (F4_70 v0 v1) else (F4_44 v0 v1 (0 : Int32))
theorem b4_38 {p : Program} {l : Launch} {e : Env} {R : Room} {s : State} {m : MethodId} {args : Array Value} {below : List Frame} {meth : Method} {c : Code} {T : State} {locs : List Loc} {cells slots : Nat} {Z : State} {a0 : Array Value} (X : Stand p l e R s m args below meth c T locs cells slots) (hx : p.tables.exec = Jvm.exec) (hZ : Z.Warmed39 s.vm) (hw : ∀ d ∈ tables_1, d.before a0 Z = true) (hby : c.code = method_3_code) (hown : s.vm.findClass "com/example/kent_ridge/kentridge/HangulSyllablesComposePinLaw" = some m.cls) (v0 : Int32) (v1 : Int32) (v2 : Int32) (hret : meth.sig.returnType = some .int) {fs : List Frame} (hr : ∀ (f : JFrame) (acts : List Action), f.method = m → f.locked = none → f.entered = [] → (doReturn e (T.setTop f) acts (some (.int (F4_38 v0 v1 v2)))).1 = T.setFrames fs) : Steps p.tables e below (T.setTop (mkF m 38 #[.val (.int v0), .val (.int v1), .val (.int v2), .unset, .unset, .unset] [])) (T.setFrames fs) := by
  show Steps p.tables e below (T.setTop (mkF m 38 #[.val (.int v0), .val (.int v1), .val (.int v2), .unset, .unset, .unset] [])) _
  refine XS.iconst X.here hx rfl (hb hby d4_38) ?_
  show Steps p.tables e below (T.setTop (mkF m 39 #[.val (.int v0), .val (.int v1), .val (.int v2), .unset, .unset, .unset] [(.int (0 : Int32))])) _
  refine XS.istoreN X.here hx rfl (hb hby d4_39) rfl (l' := #[.val (.int v0), .val (.int v1), .val (.int v2), .val (.int (0 : Int32)), .unset, .unset]) rfl ?_
  show Steps p.tables e below (T.setTop (mkF m 40 #[.val (.int v0), .val (.int v1), .val (.int v2), .val (.int (0 : Int32)), .unset, .unset] [])) _
  refine XS.iloadN X.here hx rfl (hb hby d4_40) rfl ?_
  show Steps p.tables e below (T.setTop (mkF m 41 #[.val (.int v0), .val (.int v1), .val (.int v2), .val (.int (0 : Int32)), .unset, .unset] [(.int v2)])) _
  by_cases hc : v2 = (0 : Int32)
  · rw [show (F4_38 v0 v1 v2) = (F4_70 v0 v1) from if_pos hc] at hr
    refine XS.ifYes X.here hx rfl (pc0 := 41) (pc' := 70) rfl (hb hby d4_41) rfl ((if0 _ _).trans (teq hc).1) (by decide) (by decide) ?_
    exact b4_70 X hx hZ hw hby hown v0 v1 v2 (0 : Int32) hret hr
  · rw [show (F4_38 v0 v1 v2) = (F4_44 v0 v1 (0 : Int32)) from if_neg hc] at hr
    refine XS.ifNo X.here hx rfl (hb hby d4_41) rfl ((if0 _ _).trans (feq hc).1) ?_
    exact b4_44 X hx hZ hw hby hown v0 v1 v2 (0 : Int32) hret hr
def F4_34 (v0 : Int32) (v1 : Int32) (v2 : Int32) : Int32 := if v2 = (0 : Int32) then (F4_70 v0 v1) else (F4_44 v0 v1 (1 : Int32))
theorem b4_34 {p : Program} {l : Launch} {e : Env} {R : Room} {s : State} {m : MethodId} {args : Array Value} {below : List Frame} {meth : Method} {c : Code} {T : State} {locs : List Loc} {cells slots : Nat} {Z : State} {a0 : Array Value} (X : Stand p l e R s m args below meth c T locs cells slots) (hx : p.tables.exec = Jvm.exec) (hZ : Z.Warmed39 s.vm) (hw : ∀ d ∈ tables_1, d.before a0 Z = true) (hby : c.code = method_3_code) (hown : s.vm.findClass "com/example/kent_ridge/kentridge/HangulSyllablesComposePinLaw" = some m.cls) (v0 : Int32) (v1 : Int32) (v2 : Int32) (hret : meth.sig.returnType = some .int) {fs : List Frame} (hr : ∀ (f : JFrame) (acts : List Action), f.method = m → f.locked = none → f.entered = [] → (doReturn e (T.setTop f) acts (some (.int (F4_34 v0 v1 v2)))).1 = T.setFrames fs) : Steps p.tables e below (T.setTop (mkF m 34 #[.val (.int v0), .val (.int v1), .val (.int v2), .unset, .unset, .unset] [])) (T.setFrames fs) := by
  show Steps p.tables e below (T.setTop (mkF m 34 #[.val (.int v0), .val (.int v1), .val (.int v2), .unset, .unset, .unset] [])) _
  refine XS.iconst X.here hx rfl (hb hby d4_34) ?_
  show Steps p.tables e below (T.setTop (mkF m 35 #[.val (.int v0), .val (.int v1), .val (.int v2), .unset, .unset, .unset] [(.int (1 : Int32))])) _
  refine XS.goto X.here hx rfl (pc0 := 35) (pc' := 39) rfl (hb hby d4_35) (by decide) (by decide) ?_
  show Steps p.tables e below (T.setTop (mkF m 39 #[.val (.int v0), .val (.int v1), .val (.int v2), .unset, .unset, .unset] [(.int (1 : Int32))])) _
  refine XS.istoreN X.here hx rfl (hb hby d4_39) rfl (l' := #[.val (.int v0), .val (.int v1), .val (.int v2), .val (.int (1 : Int32)), .unset, .unset]) rfl ?_
  show Steps p.tables e below (T.setTop (mkF m 40 #[.val (.int v0), .val (.int v1), .val (.int v2), .val (.int (1 : Int32)), .unset, .unset] [])) _
  refine XS.iloadN X.here hx rfl (hb hby d4_40) rfl ?_
  show Steps p.tables e below (T.setTop (mkF m 41 #[.val (.int v0), .val (.int v1), .val (.int v2), .val (.int (1 : Int32)), .unset, .unset] [(.int v2)])) _
  by_cases hc : v2 = (0 : Int32)
  · rw [show (F4_34 v0 v1 v2) = (F4_70 v0 v1) from if_pos hc] at hr
    refine XS.ifYes X.here hx rfl (pc0 := 41) (pc' := 70) rfl (hb hby d4_41) rfl ((if0 _ _).trans (teq hc).1) (by decide) (by decide) ?_
    exact b4_70 X hx hZ hw hby hown v0 v1 v2 (1 : Int32) hret hr
  · rw [show (F4_34 v0 v1 v2) = (F4_44 v0 v1 (1 : Int32)) from if_neg hc] at hr
    refine XS.ifNo X.here hx rfl (hb hby d4_41) rfl ((if0 _ _).trans (feq hc).1) ?_
    exact b4_44 X hx hZ hw hby hown v0 v1 v2 (1 : Int32) hret hr
def F4_27 (v0 : Int32) (v1 : Int32) (v2 : Int32) : Int32 := if (4469 : Int32) < v1 then (F4_38 v0 v1 v2) else (F4_34 v0 v1 v2)
theorem b4_27 {p : Program} {l : Launch} {e : Env} {R : Room} {s : State} {m : MethodId} {args : Array Value} {below : List Frame} {meth : Method} {c : Code} {T : State} {locs : List Loc} {cells slots : Nat} {Z : State} {a0 : Array Value} (X : Stand p l e R s m args below meth c T locs cells slots) (hx : p.tables.exec = Jvm.exec) (hZ : Z.Warmed39 s.vm) (hw : ∀ d ∈ tables_1, d.before a0 Z = true) (hby : c.code = method_3_code) (hown : s.vm.findClass "com/example/kent_ridge/kentridge/HangulSyllablesComposePinLaw" = some m.cls) (v0 : Int32) (v1 : Int32) (v2 : Int32) (hret : meth.sig.returnType = some .int) {fs : List Frame} (hr : ∀ (f : JFrame) (acts : List Action), f.method = m → f.locked = none → f.entered = [] → (doReturn e (T.setTop f) acts (some (.int (F4_27 v0 v1 v2)))).1 = T.setFrames fs) : Steps p.tables e below (T.setTop (mkF m 27 #[.val (.int v0), .val (.int v1), .val (.int v2), .unset, .unset, .unset] [])) (T.setFrames fs) := by
  show Steps p.tables e below (T.setTop (mkF m 27 #[.val (.int v0), .val (.int v1), .val (.int v2), .unset, .unset, .unset] [])) _
  refine XS.iloadN X.here hx rfl (hb hby d4_27) rfl ?_
  show Steps p.tables e below (T.setTop (mkF m 28 #[.val (.int v0), .val (.int v1), .val (.int v2), .unset, .unset, .unset] [(.int v1)])) _
  refine XS.sipush X.here hx rfl (hb hby d4_28) ?_
  show Steps p.tables e below (T.setTop (mkF m 31 #[.val (.int v0), .val (.int v1), .val (.int v2), .unset, .unset, .unset] [(.int (4469 : Int32)), (.int v1)])) _
  by_cases hc : (4469 : Int32) < v1
  · rw [show (F4_27 v0 v1 v2) = (F4_38 v0 v1 v2) from if_pos hc] at hr
    refine XS.icmpYes X.here hx rfl (pc0 := 31) (pc' := 38) rfl (hb hby d4_31) rfl (tlt hc).2.2.1 (by decide) (by decide) ?_
    exact b4_38 X hx hZ hw hby hown v0 v1 v2 hret hr
  · rw [show (F4_27 v0 v1 v2) = (F4_34 v0 v1 v2) from if_neg hc] at hr
    refine XS.icmpNo X.here hx rfl (hb hby d4_31) rfl (flt hc).2.2.1 ?_
    exact b4_34 X hx hZ hw hby hown v0 v1 v2 hret hr
def F4_18 (v0 : Int32) (v1 : Int32) : Int32 := if v1 < (4449 : Int32) then (F4_38 v0 v1 (0 : Int32)) else (F4_27 v0 v1 (0 : Int32))
theorem b4_18 {p : Program} {l : Launch} {e : Env} {R : Room} {s : State} {m : MethodId} {args : Array Value} {below : List Frame} {meth : Method} {c : Code} {T : State} {locs : List Loc} {cells slots : Nat} {Z : State} {a0 : Array Value} (X : Stand p l e R s m args below meth c T locs cells slots) (hx : p.tables.exec = Jvm.exec) (hZ : Z.Warmed39 s.vm) (hw : ∀ d ∈ tables_1, d.before a0 Z = true) (hby : c.code = method_3_code) (hown : s.vm.findClass "com/example/kent_ridge/kentridge/HangulSyllablesComposePinLaw" = some m.cls) (v0 : Int32) (v1 : Int32) (hret : meth.sig.returnType = some .int) {fs : List Frame} (hr : ∀ (f : JFrame) (acts : List Action), f.method = m → f.locked = none → f.entered = [] → (doReturn e (T.setTop f) acts (some (.int (F4_18 v0 v1)))).1 = T.setFrames fs) : Steps p.tables e below (T.setTop (mkF m 18 #[.val (.int v0), .val (.int v1), .unset, .unset, .unset, .unset] [])) (T.setFrames fs) := by
  show Steps p.tables e below (T.setTop (mkF m 18 #[.val (.int v0), .val (.int v1), .unset, .unset, .unset, .unset] [])) _
  refine XS.iconst X.here hx rfl (hb hby d4_18) ?_
  show Steps p.tables e below (T.setTop (mkF m 19 #[.val (.int v0), .val (.int v1), .unset, .unset, .unset, .unset] [(.int (0 : Int32))])) _
  refine XS.istoreN X.here hx rfl (hb hby d4_19) rfl (l' := #[.val (.int v0), .val (.int v1), .val (.int (0 : Int32)), .unset, .unset, .unset]) rfl ?_
  show Steps p.tables e below (T.setTop (mkF m 20 #[.val (.int v0), .val (.int v1), .val (.int (0 : Int32)), .unset, .unset, .unset] [])) _
  refine XS.iloadN X.here hx rfl (hb hby d4_20) rfl ?_
  show Steps p.tables e below (T.setTop (mkF m 21 #[.val (.int v0), .val (.int v1), .val (.int (0 : Int32)), .unset, .unset, .unset] [(.int v1)])) _
  refine XS.sipush X.here hx rfl (hb hby d4_21) ?_
  show Steps p.tables e below (T.setTop (mkF m 24 #[.val (.int v0), .val (.int v1), .val (.int (0 : Int32)), .unset, .unset, .unset] [(.int (4449 : Int32)), (.int v1)])) _
  by_cases hc : v1 < (4449 : Int32)
  · rw [show (F4_18 v0 v1) = (F4_38 v0 v1 (0 : Int32)) from if_pos hc] at hr
    refine XS.icmpYes X.here hx rfl (pc0 := 24) (pc' := 38) rfl (hb hby d4_24) rfl (tlt hc).1 (by decide) (by decide) ?_
    exact b4_38 X hx hZ hw hby hown v0 v1 (0 : Int32) hret hr
  · rw [show (F4_18 v0 v1) = (F4_27 v0 v1 (0 : Int32)) from if_neg hc] at hr
    refine XS.icmpNo X.here hx rfl (hb hby d4_24) rfl (flt hc).1 ?_
    exact b4_27 X hx hZ hw hby hown v0 v1 (0 : Int32) hret hr
def F4_14 (v0 : Int32) (v1 : Int32) : Int32 := if v1 < (4449 : Int32) then (F4_38 v0 v1 (1 : Int32)) else (F4_27 v0 v1 (1 : Int32))
theorem b4_14 {p : Program} {l : Launch} {e : Env} {R : Room} {s : State} {m : MethodId} {args : Array Value} {below : List Frame} {meth : Method} {c : Code} {T : State} {locs : List Loc} {cells slots : Nat} {Z : State} {a0 : Array Value} (X : Stand p l e R s m args below meth c T locs cells slots) (hx : p.tables.exec = Jvm.exec) (hZ : Z.Warmed39 s.vm) (hw : ∀ d ∈ tables_1, d.before a0 Z = true) (hby : c.code = method_3_code) (hown : s.vm.findClass "com/example/kent_ridge/kentridge/HangulSyllablesComposePinLaw" = some m.cls) (v0 : Int32) (v1 : Int32) (hret : meth.sig.returnType = some .int) {fs : List Frame} (hr : ∀ (f : JFrame) (acts : List Action), f.method = m → f.locked = none → f.entered = [] → (doReturn e (T.setTop f) acts (some (.int (F4_14 v0 v1)))).1 = T.setFrames fs) : Steps p.tables e below (T.setTop (mkF m 14 #[.val (.int v0), .val (.int v1), .unset, .unset, .unset, .unset] [])) (T.setFrames fs) := by
  show Steps p.tables e below (T.setTop (mkF m 14 #[.val (.int v0), .val (.int v1), .unset, .unset, .unset, .unset] [])) _
  refine XS.iconst X.here hx rfl (hb hby d4_14) ?_
  show Steps p.tables e below (T.setTop (mkF m 15 #[.val (.int v0), .val (.int v1), .unset, .unset, .unset, .unset] [(.int (1 : Int32))])) _
  refine XS.goto X.here hx rfl (pc0 := 15) (pc' := 19) rfl (hb hby d4_15) (by decide) (by decide) ?_
  show Steps p.tables e below (T.setTop (mkF m 19 #[.val (.int v0), .val (.int v1), .unset, .unset, .unset, .unset] [(.int (1 : Int32))])) _
  refine XS.istoreN X.here hx rfl (hb hby d4_19) rfl (l' := #[.val (.int v0), .val (.int v1), .val (.int (1 : Int32)), .unset, .unset, .unset]) rfl ?_
  show Steps p.tables e below (T.setTop (mkF m 20 #[.val (.int v0), .val (.int v1), .val (.int (1 : Int32)), .unset, .unset, .unset] [])) _
  refine XS.iloadN X.here hx rfl (hb hby d4_20) rfl ?_
  show Steps p.tables e below (T.setTop (mkF m 21 #[.val (.int v0), .val (.int v1), .val (.int (1 : Int32)), .unset, .unset, .unset] [(.int v1)])) _
  refine XS.sipush X.here hx rfl (hb hby d4_21) ?_
  show Steps p.tables e below (T.setTop (mkF m 24 #[.val (.int v0), .val (.int v1), .val (.int (1 : Int32)), .unset, .unset, .unset] [(.int (4449 : Int32)), (.int v1)])) _
  by_cases hc : v1 < (4449 : Int32)
  · rw [show (F4_14 v0 v1) = (F4_38 v0 v1 (1 : Int32)) from if_pos hc] at hr
    refine XS.icmpYes X.here hx rfl (pc0 := 24) (pc' := 38) rfl (hb hby d4_24) rfl (tlt hc).1 (by decide) (by decide) ?_
    exact b4_38 X hx hZ hw hby hown v0 v1 (1 : Int32) hret hr
  · rw [show (F4_14 v0 v1) = (F4_27 v0 v1 (1 : Int32)) from if_neg hc] at hr
    refine XS.icmpNo X.here hx rfl (hb hby d4_24) rfl (flt hc).1 ?_
    exact b4_27 X hx hZ hw hby hown v0 v1 (1 : Int32) hret hr
def F4_7 (v0 : Int32) (v1 : Int32) : Int32 := if (4370 : Int32) < v0 then (F4_18 v0 v1) else (F4_14 v0 v1)
theorem b4_7 {p : Program} {l : Launch} {e : Env} {R : Room} {s : State} {m : MethodId} {args : Array Value} {below : List Frame} {meth : Method} {c : Code} {T : State} {locs : List Loc} {cells slots : Nat} {Z : State} {a0 : Array Value} (X : Stand p l e R s m args below meth c T locs cells slots) (hx : p.tables.exec = Jvm.exec) (hZ : Z.Warmed39 s.vm) (hw : ∀ d ∈ tables_1, d.before a0 Z = true) (hby : c.code = method_3_code) (hown : s.vm.findClass "com/example/kent_ridge/kentridge/HangulSyllablesComposePinLaw" = some m.cls) (v0 : Int32) (v1 : Int32) (hret : meth.sig.returnType = some .int) {fs : List Frame} (hr : ∀ (f : JFrame) (acts : List Action), f.method = m → f.locked = none → f.entered = [] → (doReturn e (T.setTop f) acts (some (.int (F4_7 v0 v1)))).1 = T.setFrames fs) : Steps p.tables e below (T.setTop (mkF m 7 #[.val (.int v0), .val (.int v1), .unset, .unset, .unset, .unset] [])) (T.setFrames fs) := by
  show Steps p.tables e below (T.setTop (mkF m 7 #[.val (.int v0), .val (.int v1), .unset, .unset, .unset, .unset] [])) _
  refine XS.iloadN X.here hx rfl (hb hby d4_7) rfl ?_
  show Steps p.tables e below (T.setTop (mkF m 8 #[.val (.int v0), .val (.int v1), .unset, .unset, .unset, .unset] [(.int v0)])) _
  refine XS.sipush X.here hx rfl (hb hby d4_8) ?_
  show Steps p.tables e below (T.setTop (mkF m 11 #[.val (.int v0), .val (.int v1), .unset, .unset, .unset, .unset] [(.int (4370 : Int32)), (.int v0)])) _
  by_cases hc : (4370 : Int32) < v0
  · rw [show (F4_7 v0 v1) = (F4_18 v0 v1) from if_pos hc] at hr
    refine XS.icmpYes X.here hx rfl (pc0 := 11) (pc' := 18) rfl (hb hby d4_11) rfl (tlt hc).2.2.1 (by decide) (by decide) ?_
    exact b4_18 X hx hZ hw hby hown v0 v1 hret hr
  · rw [show (F4_7 v0 v1) = (F4_14 v0 v1) from if_neg hc] at hr
    refine XS.icmpNo X.here hx rfl (hb hby d4_11) rfl (flt hc).2.2.1 ?_
    exact b4_14 X hx hZ hw hby hown v0 v1 hret hr
def F4_0 (v0 : Int32) (v1 : Int32) : Int32 := if v0 < (4352 : Int32) then (F4_18 v0 v1) else (F4_7 v0 v1)
theorem b4_0 {p : Program} {l : Launch} {e : Env} {R : Room} {s : State} {m : MethodId} {args : Array Value} {below : List Frame} {meth : Method} {c : Code} {T : State} {locs : List Loc} {cells slots : Nat} {Z : State} {a0 : Array Value} (X : Stand p l e R s m args below meth c T locs cells slots) (hx : p.tables.exec = Jvm.exec) (hZ : Z.Warmed39 s.vm) (hw : ∀ d ∈ tables_1, d.before a0 Z = true) (hby : c.code = method_3_code) (hown : s.vm.findClass "com/example/kent_ridge/kentridge/HangulSyllablesComposePinLaw" = some m.cls) (v0 : Int32) (v1 : Int32) (hret : meth.sig.returnType = some .int) {fs : List Frame} (hr : ∀ (f : JFrame) (acts : List Action), f.method = m → f.locked = none → f.entered = [] → (doReturn e (T.setTop f) acts (some (.int (F4_0 v0 v1)))).1 = T.setFrames fs) : Steps p.tables e below (T.setTop (mkF m 0 #[.val (.int v0), .val (.int v1), .unset, .unset, .unset, .unset] [])) (T.setFrames fs) := by
  show Steps p.tables e below (T.setTop (mkF m 0 #[.val (.int v0), .val (.int v1), .unset, .unset, .unset, .unset] [])) _
  refine XS.iloadN X.here hx rfl (hb hby d4_0) rfl ?_
  show Steps p.tables e below (T.setTop (mkF m 1 #[.val (.int v0), .val (.int v1), .unset, .unset, .unset, .unset] [(.int v0)])) _
  refine XS.sipush X.here hx rfl (hb hby d4_1) ?_
  show Steps p.tables e below (T.setTop (mkF m 4 #[.val (.int v0), .val (.int v1), .unset, .unset, .unset, .unset] [(.int (4352 : Int32)), (.int v0)])) _
  by_cases hc : v0 < (4352 : Int32)
  · rw [show (F4_0 v0 v1) = (F4_18 v0 v1) from if_pos hc] at hr
    refine XS.icmpYes X.here hx rfl (pc0 := 4) (pc' := 18) rfl (hb hby d4_4) rfl (tlt hc).1 (by decide) (by decide) ?_
    exact b4_18 X hx hZ hw hby hown v0 v1 hret hr
  · rw [show (F4_0 v0 v1) = (F4_7 v0 v1) from if_neg hc] at hr
    refine XS.icmpNo X.here hx rfl (hb hby d4_4) rfl (flt hc).1 ?_
    exact b4_7 X hx hZ hw hby hown v0 v1 hret hr
theorem pn_4 : plainName "com/example/kent_ridge/kentridge/HangulSyllablesComposePinLaw" = true := by first | (simp [plainName, overriddenIn]; done) | decide +kernel
theorem ef_4 (m : MethodId) (p0 : Int32) (p1 : Int32) : entryFrame m #[(.int p0), (.int p1)] 6 = mkF m 0 #[.val (.int p0), .val (.int p1), .unset, .unset, .unset, .unset] [] := by first | (simp [entryFrame, mkF, argsToLocals, Value.category]; done) | rfl
def Q_rm4 (Z : State) (p0 : Int32) (p1 : Int32) (h0 : Heap) (n0 : Nat) (v : Option Value) (h : Heap) (L : List Loc) : Prop := (v = some (.int (F4_0 p0 p1)) ∧ Fr n0 L ∧ h = h0)
set_option maxRecDepth 65536 in
set_option maxHeartbeats 40000000 in
theorem rm4 (l : Launch) (Z : State) (a0 : Array Value) (hw : ∀ d ∈ tables_1, d.before a0 Z = true) (ws : List Jvm.Cond) (p0 : Int32) (p1 : Int32) (h0 : Heap) (n0 : Nat) (Z0 : n0 ≤ h0.size) :
    MetFree l (⟨"com/example/kent_ridge/kentridge/HangulSyllablesComposePinLaw", "expected", "(II)I"⟩ : MethodName) (head1 (Jvm.Cond.code (⟨"com/example/kent_ridge/kentridge/HangulSyllablesComposePinLaw", "expected", "(II)I"⟩ : MethodName) method_3_code 6 (some .int) :: ws) ({ frames := 0, cells := 0, slots := 0, locals := 0 } : Room)) (fun a U => a = #[(.int p0), (.int p1)] ∧ Z.Warmed39 U.vm ∧ U.heap = h0) (fun _ _ _ _ _ => True) (fun _ U o U' => ∃ v L, o = .returned v ∧ Q_rm4 Z p0 p1 h0 n0 v U'.heap L ∧ FrameEnd U o U' L ({ frames := 0, cells := 0, slots := 0, locals := 0 } : Room).cells ({ frames := 0, cells := 0, slots := 0, locals := 0 } : Room).slots) := by
  refine MetFree.of_bodySF (plainFor_of_name pn_4) hisR ?_
  intro p e s m args below meth c s₁ Bd hml0 hP hK
  obtain ⟨rfl, hZ, hh⟩ := hP
  have hx := Bd.exec
  have hby := Bd.bytes
  have hml : c.maxLocals = 6 := hml0
  have hown : s.vm.findClass "com/example/kent_ridge/kentridge/HangulSyllablesComposePinLaw" = some m.cls := findClass_of_methodNamed Bd.named
  have hnm := (name_of_methodNamed Bd.named Bd.method).1
  have X0 : Stand p l e ({ frames := 0, cells := 0, slots := 0, locals := 0 } : Room) s m #[(.int p0), (.int p1)] below meth c s₁ [] 0 0 := Stand.of_body Bd
  have e0 : s₁.heap = h0 := by rw [← hh, Bd.state]; rfl
  have N0 := Fr.nil n0
  have pre0 : ∀ t, Steps p.tables e below (s₁.setTop (mkF m 0 #[.val (.int p0), .val (.int p1), .unset, .unset, .unset, .unset] [])) t → Steps p.tables e below (s₁.setTop (entryFrame m #[(.int p0), (.int p1)] 6)) t := fun t k => castTop (ef_4 m p0 p1) k
  obtain ⟨fs, hr, hrun, hended, hW, hsame⟩ := X0.leave (v := some (.int (F4_0 p0 p1))) (fun h => by rw [Bd.returns] at h; cases h)
  refine ⟨_, _, pre0 _ ?_, hrun, hended, _, _, rfl, ⟨rfl, N0, e0⟩, ⟨_, rfl⟩, hW, hsame.mono (by decide) (by decide)⟩
  exact b4_0 X0 hx hZ hw hby hown p0 p1 Bd.returns hr
def F0s_80 (v0 : Int32) : Int32 := v0
theorem b0s_80 {p : Program} {l : Launch} {e : Env} {R : Room} {s : State} {m : MethodId} {args : Array Value} {below : List Frame} {meth : Method} {c : Code} {T : State} {locs : List Loc} {cells slots : Nat} {Z : State} {a0 : Array Value} (X : Stand p l e R s m args below meth c T locs cells slots) (hx : p.tables.exec = Jvm.exec) (hZ : Z.Warmed39 s.vm) (hw : ∀ d ∈ tables_1, d.before a0 Z = true) (hby : c.code = code) (hown : s.vm.findClass "com/example/kent_ridge/kentridge/HangulSyllablesComposePinLaw" = some m.cls) (v0 : Int32) (v1 : Int32) (v2 : Int32) (v3 : Addr) (v4 : Int32) (v5 : Int32) (target : State) (kt : Steps p.tables e below (T.setTop (mkF m 83 #[.val (.int v0), .val (.int v1), .val (.int v2), .val (.ref v3), .val (.int v4), .val (.int v5), .val (.int (F0s_80 v0)), .unset] [])) target) : Steps p.tables e below (T.setTop (mkF m 80 #[.val (.int v0), .val (.int v1), .val (.int v2), .val (.ref v3), .val (.int v4), .val (.int v5), .unset, .unset] [])) target := by
  show Steps p.tables e below (T.setTop (mkF m 80 #[.val (.int v0), .val (.int v1), .val (.int v2), .val (.ref v3), .val (.int v4), .val (.int v5), .unset, .unset] [])) _
  refine XS.iloadN X.here hx rfl (hb hby at_80) rfl ?_
  show Steps p.tables e below (T.setTop (mkF m 81 #[.val (.int v0), .val (.int v1), .val (.int v2), .val (.ref v3), .val (.int v4), .val (.int v5), .unset, .unset] [(.int v0)])) _
  refine XS.istore X.here hx rfl (hb hby at_81) rfl (l' := #[.val (.int v0), .val (.int v1), .val (.int v2), .val (.ref v3), .val (.int v4), .val (.int v5), .val (.int v0), .unset]) rfl ?_
  rw [show (F0s_80 v0) = v0 from rfl] at kt
  exact kt
def F0s_64 (v0 : Int32) : Int32 := ((44031 : Int32) + ((v0 &&& (2147483647 : Int32)) - ((v0 &&& (2147483647 : Int32)) / (11175 : Int32)) * (11175 : Int32)))
theorem b0s_64 {p : Program} {l : Launch} {e : Env} {R : Room} {s : State} {m : MethodId} {args : Array Value} {below : List Frame} {meth : Method} {c : Code} {T : State} {locs : List Loc} {cells slots : Nat} {Z : State} {a0 : Array Value} (X : Stand p l e R s m args below meth c T locs cells slots) (hx : p.tables.exec = Jvm.exec) (hZ : Z.Warmed39 s.vm) (hw : ∀ d ∈ tables_1, d.before a0 Z = true) (hby : c.code = code) (hown : s.vm.findClass "com/example/kent_ridge/kentridge/HangulSyllablesComposePinLaw" = some m.cls) (v0 : Int32) (v1 : Int32) (v2 : Int32) (v3 : Addr) (v4 : Int32) (v5 : Int32) (target : State) (kt : Steps p.tables e below (T.setTop (mkF m 83 #[.val (.int v0), .val (.int v1), .val (.int v2), .val (.ref v3), .val (.int v4), .val (.int v5), .val (.int (F0s_64 v0)), .unset] [])) target) : Steps p.tables e below (T.setTop (mkF m 64 #[.val (.int v0), .val (.int v1), .val (.int v2), .val (.ref v3), .val (.int v4), .val (.int v5), .unset, .unset] [])) target := by
  show Steps p.tables e below (T.setTop (mkF m 64 #[.val (.int v0), .val (.int v1), .val (.int v2), .val (.ref v3), .val (.int v4), .val (.int v5), .unset, .unset] [])) _
  refine X.ldcInt hx hown (mvT hZ (hw _ (List.mem_of_getElem? (i := 38) rfl))) (g := (mkF m 64 #[.val (.int v0), .val (.int v1), .val (.int v2), .val (.ref v3), .val (.int v4), .val (.int v5), .unset, .unset] [])) rfl (hb hby at_64) _ ?_
  show Steps p.tables e below (T.setTop (mkF m 66 #[.val (.int v0), .val (.int v1), .val (.int v2), .val (.ref v3), .val (.int v4), .val (.int v5), .unset, .unset] [(.int (44031 : Int32))])) _
  refine XS.iloadN X.here hx rfl (hb hby at_66) rfl ?_
  show Steps p.tables e below (T.setTop (mkF m 67 #[.val (.int v0), .val (.int v1), .val (.int v2), .val (.ref v3), .val (.int v4), .val (.int v5), .unset, .unset] [(.int v0), (.int (44031 : Int32))])) _
  refine X.ldcInt hx hown (mvT hZ (hw _ (List.mem_of_getElem? (i := 28) rfl))) (g := (mkF m 67 #[.val (.int v0), .val (.int v1), .val (.int v2), .val (.ref v3), .val (.int v4), .val (.int v5), .unset, .unset] [(.int v0), (.int (44031 : Int32))])) rfl (hb hby at_67) _ ?_
  show Steps p.tables e below (T.setTop (mkF m 69 #[.val (.int v0), .val (.int v1), .val (.int v2), .val (.ref v3), .val (.int v4), .val (.int v5), .unset, .unset] [(.int (2147483647 : Int32)), (.int v0), (.int (44031 : Int32))])) _
  refine XS.iand X.here hx rfl (hb hby at_69) rfl ?_
  show Steps p.tables e below (T.setTop (mkF m 70 #[.val (.int v0), .val (.int v1), .val (.int v2), .val (.ref v3), .val (.int v4), .val (.int v5), .unset, .unset] [(.int (v0 &&& (2147483647 : Int32))), (.int (44031 : Int32))])) _
  refine XS.sipush X.here hx rfl (hb hby at_70) ?_
  show Steps p.tables e below (T.setTop (mkF m 73 #[.val (.int v0), .val (.int v1), .val (.int v2), .val (.ref v3), .val (.int v4), .val (.int v5), .unset, .unset] [(.int (11175 : Int32)), (.int (v0 &&& (2147483647 : Int32))), (.int (44031 : Int32))])) _
  refine XS.irem X.here hx rfl (hb hby at_73) rfl (by decide) ?_
  show Steps p.tables e below (T.setTop (mkF m 74 #[.val (.int v0), .val (.int v1), .val (.int v2), .val (.ref v3), .val (.int v4), .val (.int v5), .unset, .unset] [(.int ((v0 &&& (2147483647 : Int32)) - ((v0 &&& (2147483647 : Int32)) / (11175 : Int32)) * (11175 : Int32))), (.int (44031 : Int32))])) _
  refine XS.iadd X.here hx rfl (hb hby at_74) rfl ?_
  show Steps p.tables e below (T.setTop (mkF m 75 #[.val (.int v0), .val (.int v1), .val (.int v2), .val (.ref v3), .val (.int v4), .val (.int v5), .unset, .unset] [(.int ((44031 : Int32) + ((v0 &&& (2147483647 : Int32)) - ((v0 &&& (2147483647 : Int32)) / (11175 : Int32)) * (11175 : Int32))))])) _
  refine XS.istore X.here hx rfl (hb hby at_75) rfl (l' := #[.val (.int v0), .val (.int v1), .val (.int v2), .val (.ref v3), .val (.int v4), .val (.int v5), .val (.int ((44031 : Int32) + ((v0 &&& (2147483647 : Int32)) - ((v0 &&& (2147483647 : Int32)) / (11175 : Int32)) * (11175 : Int32)))), .unset]) rfl ?_
  show Steps p.tables e below (T.setTop (mkF m 77 #[.val (.int v0), .val (.int v1), .val (.int v2), .val (.ref v3), .val (.int v4), .val (.int v5), .val (.int ((44031 : Int32) + ((v0 &&& (2147483647 : Int32)) - ((v0 &&& (2147483647 : Int32)) / (11175 : Int32)) * (11175 : Int32)))), .unset] [])) _
  refine XS.goto X.here hx rfl (pc0 := 77) (pc' := 83) rfl (hb hby at_77) (by decide) (by decide) ?_
  rw [show (F0s_64 v0) = ((44031 : Int32) + ((v0 &&& (2147483647 : Int32)) - ((v0 &&& (2147483647 : Int32)) / (11175 : Int32)) * (11175 : Int32))) from rfl] at kt
  exact kt
def F0s_58 (v0 : Int32) (v4 : Int32) : Int32 := if v4 = (1 : Int32) then (F0s_64 v0) else (F0s_80 v0)
theorem b0s_58 {p : Program} {l : Launch} {e : Env} {R : Room} {s : State} {m : MethodId} {args : Array Value} {below : List Frame} {meth : Method} {c : Code} {T : State} {locs : List Loc} {cells slots : Nat} {Z : State} {a0 : Array Value} (X : Stand p l e R s m args below meth c T locs cells slots) (hx : p.tables.exec = Jvm.exec) (hZ : Z.Warmed39 s.vm) (hw : ∀ d ∈ tables_1, d.before a0 Z = true) (hby : c.code = code) (hown : s.vm.findClass "com/example/kent_ridge/kentridge/HangulSyllablesComposePinLaw" = some m.cls) (v0 : Int32) (v1 : Int32) (v2 : Int32) (v3 : Addr) (v4 : Int32) (v5 : Int32) (target : State) (kt : Steps p.tables e below (T.setTop (mkF m 83 #[.val (.int v0), .val (.int v1), .val (.int v2), .val (.ref v3), .val (.int v4), .val (.int v5), .val (.int (F0s_58 v0 v4)), .unset] [])) target) : Steps p.tables e below (T.setTop (mkF m 58 #[.val (.int v0), .val (.int v1), .val (.int v2), .val (.ref v3), .val (.int v4), .val (.int v5), .unset, .unset] [])) target := by
  show Steps p.tables e below (T.setTop (mkF m 58 #[.val (.int v0), .val (.int v1), .val (.int v2), .val (.ref v3), .val (.int v4), .val (.int v5), .unset, .unset] [])) _
  refine XS.iload X.here hx rfl (hb hby at_58) rfl ?_
  show Steps p.tables e below (T.setTop (mkF m 60 #[.val (.int v0), .val (.int v1), .val (.int v2), .val (.ref v3), .val (.int v4), .val (.int v5), .unset, .unset] [(.int v4)])) _
  refine XS.iconst X.here hx rfl (hb hby at_60) ?_
  show Steps p.tables e below (T.setTop (mkF m 61 #[.val (.int v0), .val (.int v1), .val (.int v2), .val (.ref v3), .val (.int v4), .val (.int v5), .unset, .unset] [(.int (1 : Int32)), (.int v4)])) _
  by_cases hc : v4 = (1 : Int32)
  · rw [show (F0s_58 v0 v4) = (F0s_64 v0) from if_pos hc] at kt
    refine XS.icmpNo X.here hx rfl (hb hby at_61) rfl (teq hc).2 ?_
    exact b0s_64 X hx hZ hw hby hown v0 v1 v2 v3 v4 v5 target kt
  · rw [show (F0s_58 v0 v4) = (F0s_80 v0) from if_neg hc] at kt
    refine XS.icmpYes X.here hx rfl (pc0 := 61) (pc' := 80) rfl (hb hby at_61) rfl (feq hc).2 (by decide) (by decide) ?_
    exact b0s_80 X hx hZ hw hby hown v0 v1 v2 v3 v4 v5 target kt
def F0s_42 (v0 : Int32) : Int32 := ((4351 : Int32) + ((v0 &&& (2147483647 : Int32)) - ((v0 &&& (2147483647 : Int32)) / (21 : Int32)) * (21 : Int32)))
theorem b0s_42 {p : Program} {l : Launch} {e : Env} {R : Room} {s : State} {m : MethodId} {args : Array Value} {below : List Frame} {meth : Method} {c : Code} {T : State} {locs : List Loc} {cells slots : Nat} {Z : State} {a0 : Array Value} (X : Stand p l e R s m args below meth c T locs cells slots) (hx : p.tables.exec = Jvm.exec) (hZ : Z.Warmed39 s.vm) (hw : ∀ d ∈ tables_1, d.before a0 Z = true) (hby : c.code = code) (hown : s.vm.findClass "com/example/kent_ridge/kentridge/HangulSyllablesComposePinLaw" = some m.cls) (v0 : Int32) (v1 : Int32) (v2 : Int32) (v3 : Addr) (v4 : Int32) (v5 : Int32) (target : State) (kt : Steps p.tables e below (T.setTop (mkF m 83 #[.val (.int v0), .val (.int v1), .val (.int v2), .val (.ref v3), .val (.int v4), .val (.int v5), .val (.int (F0s_42 v0)), .unset] [])) target) : Steps p.tables e below (T.setTop (mkF m 42 #[.val (.int v0), .val (.int v1), .val (.int v2), .val (.ref v3), .val (.int v4), .val (.int v5), .unset, .unset] [])) target := by
  show Steps p.tables e below (T.setTop (mkF m 42 #[.val (.int v0), .val (.int v1), .val (.int v2), .val (.ref v3), .val (.int v4), .val (.int v5), .unset, .unset] [])) _
  refine XS.sipush X.here hx rfl (hb hby at_42) ?_
  show Steps p.tables e below (T.setTop (mkF m 45 #[.val (.int v0), .val (.int v1), .val (.int v2), .val (.ref v3), .val (.int v4), .val (.int v5), .unset, .unset] [(.int (4351 : Int32))])) _
  refine XS.iloadN X.here hx rfl (hb hby at_45) rfl ?_
  show Steps p.tables e below (T.setTop (mkF m 46 #[.val (.int v0), .val (.int v1), .val (.int v2), .val (.ref v3), .val (.int v4), .val (.int v5), .unset, .unset] [(.int v0), (.int (4351 : Int32))])) _
  refine X.ldcInt hx hown (mvT hZ (hw _ (List.mem_of_getElem? (i := 28) rfl))) (g := (mkF m 46 #[.val (.int v0), .val (.int v1), .val (.int v2), .val (.ref v3), .val (.int v4), .val (.int v5), .unset, .unset] [(.int v0), (.int (4351 : Int32))])) rfl (hb hby at_46) _ ?_
  show Steps p.tables e below (T.setTop (mkF m 48 #[.val (.int v0), .val (.int v1), .val (.int v2), .val (.ref v3), .val (.int v4), .val (.int v5), .unset, .unset] [(.int (2147483647 : Int32)), (.int v0), (.int (4351 : Int32))])) _
  refine XS.iand X.here hx rfl (hb hby at_48) rfl ?_
  show Steps p.tables e below (T.setTop (mkF m 49 #[.val (.int v0), .val (.int v1), .val (.int v2), .val (.ref v3), .val (.int v4), .val (.int v5), .unset, .unset] [(.int (v0 &&& (2147483647 : Int32))), (.int (4351 : Int32))])) _
  refine XS.bipush X.here hx rfl (hb hby at_49) ?_
  show Steps p.tables e below (T.setTop (mkF m 51 #[.val (.int v0), .val (.int v1), .val (.int v2), .val (.ref v3), .val (.int v4), .val (.int v5), .unset, .unset] [(.int (21 : Int32)), (.int (v0 &&& (2147483647 : Int32))), (.int (4351 : Int32))])) _
  refine XS.irem X.here hx rfl (hb hby at_51) rfl (by decide) ?_
  show Steps p.tables e below (T.setTop (mkF m 52 #[.val (.int v0), .val (.int v1), .val (.int v2), .val (.ref v3), .val (.int v4), .val (.int v5), .unset, .unset] [(.int ((v0 &&& (2147483647 : Int32)) - ((v0 &&& (2147483647 : Int32)) / (21 : Int32)) * (21 : Int32))), (.int (4351 : Int32))])) _
  refine XS.iadd X.here hx rfl (hb hby at_52) rfl ?_
  show Steps p.tables e below (T.setTop (mkF m 53 #[.val (.int v0), .val (.int v1), .val (.int v2), .val (.ref v3), .val (.int v4), .val (.int v5), .unset, .unset] [(.int ((4351 : Int32) + ((v0 &&& (2147483647 : Int32)) - ((v0 &&& (2147483647 : Int32)) / (21 : Int32)) * (21 : Int32))))])) _
  refine XS.istore X.here hx rfl (hb hby at_53) rfl (l' := #[.val (.int v0), .val (.int v1), .val (.int v2), .val (.ref v3), .val (.int v4), .val (.int v5), .val (.int ((4351 : Int32) + ((v0 &&& (2147483647 : Int32)) - ((v0 &&& (2147483647 : Int32)) / (21 : Int32)) * (21 : Int32)))), .unset]) rfl ?_
  show Steps p.tables e below (T.setTop (mkF m 55 #[.val (.int v0), .val (.int v1), .val (.int v2), .val (.ref v3), .val (.int v4), .val (.int v5), .val (.int ((4351 : Int32) + ((v0 &&& (2147483647 : Int32)) - ((v0 &&& (2147483647 : Int32)) / (21 : Int32)) * (21 : Int32)))), .unset] [])) _
  refine XS.goto X.here hx rfl (pc0 := 55) (pc' := 83) rfl (hb hby at_55) (by decide) (by decide) ?_
  rw [show (F0s_42 v0) = ((4351 : Int32) + ((v0 &&& (2147483647 : Int32)) - ((v0 &&& (2147483647 : Int32)) / (21 : Int32)) * (21 : Int32))) from rfl] at kt
  exact kt
def F0s_37 (v0 : Int32) (v4 : Int32) : Int32 := if v4 = (0 : Int32) then (F0s_42 v0) else (F0s_58 v0 v4)
theorem b0s_37 {p : Program} {l : Launch} {e : Env} {R : Room} {s : State} {m : MethodId} {args : Array Value} {below : List Frame} {meth : Method} {c : Code} {T : State} {locs : List Loc} {cells slots : Nat} {Z : State} {a0 : Array Value} (X : Stand p l e R s m args below meth c T locs cells slots) (hx : p.tables.exec = Jvm.exec) (hZ : Z.Warmed39 s.vm) (hw : ∀ d ∈ tables_1, d.before a0 Z = true) (hby : c.code = code) (hown : s.vm.findClass "com/example/kent_ridge/kentridge/HangulSyllablesComposePinLaw" = some m.cls) (v0 : Int32) (v1 : Int32) (v2 : Int32) (v3 : Addr) (v4 : Int32) (v5 : Int32) (target : State) (kt : Steps p.tables e below (T.setTop (mkF m 83 #[.val (.int v0), .val (.int v1), .val (.int v2), .val (.ref v3), .val (.int v4), .val (.int v5), .val (.int (F0s_37 v0 v4)), .unset] [])) target) : Steps p.tables e below (T.setTop (mkF m 37 #[.val (.int v0), .val (.int v1), .val (.int v2), .val (.ref v3), .val (.int v4), .val (.int v5), .unset, .unset] [])) target := by
  show Steps p.tables e below (T.setTop (mkF m 37 #[.val (.int v0), .val (.int v1), .val (.int v2), .val (.ref v3), .val (.int v4), .val (.int v5), .unset, .unset] [])) _
  refine XS.iload X.here hx rfl (hb hby at_37) rfl ?_
  show Steps p.tables e below (T.setTop (mkF m 39 #[.val (.int v0), .val (.int v1), .val (.int v2), .val (.ref v3), .val (.int v4), .val (.int v5), .unset, .unset] [(.int v4)])) _
  by_cases hc : v4 = (0 : Int32)
  · rw [show (F0s_37 v0 v4) = (F0s_42 v0) from if_pos hc] at kt
    refine XS.ifNo X.here hx rfl (hb hby at_39) rfl ((if0 _ _).trans (teq hc).2) ?_
    exact b0s_42 X hx hZ hw hby hown v0 v1 v2 v3 v4 v5 target kt
  · rw [show (F0s_37 v0 v4) = (F0s_58 v0 v4) from if_neg hc] at kt
    refine XS.ifYes X.here hx rfl (pc0 := 39) (pc' := 58) rfl (hb hby at_39) rfl ((if0 _ _).trans (feq hc).2) (by decide) (by decide) ?_
    exact b0s_58 X hx hZ hw hby hown v0 v1 v2 v3 v4 v5 target kt
def F0s_126 (v1 : Int32) : Int32 := v1
theorem b0s_126 {p : Program} {l : Launch} {e : Env} {R : Room} {s : State} {m : MethodId} {args : Array Value} {below : List Frame} {meth : Method} {c : Code} {T : State} {locs : List Loc} {cells slots : Nat} {Z : State} {a0 : Array Value} (X : Stand p l e R s m args below meth c T locs cells slots) (hx : p.tables.exec = Jvm.exec) (hZ : Z.Warmed39 s.vm) (hw : ∀ d ∈ tables_1, d.before a0 Z = true) (hby : c.code = code) (hown : s.vm.findClass "com/example/kent_ridge/kentridge/HangulSyllablesComposePinLaw" = some m.cls) (v0 : Int32) (v1 : Int32) (v2 : Int32) (v3 : Addr) (v4 : Int32) (v5 : Int32) (v6 : Int32) (target : State) (kt : Steps p.tables e below (T.setTop (mkF m 129 #[.val (.int v0), .val (.int v1), .val (.int v2), .val (.ref v3), .val (.int v4), .val (.int v5), .val (.int v6), .val (.int (F0s_126 v1))] [])) target) : Steps p.tables e below (T.setTop (mkF m 126 #[.val (.int v0), .val (.int v1), .val (.int v2), .val (.ref v3), .val (.int v4), .val (.int v5), .val (.int v6), .unset] [])) target := by
  show Steps p.tables e below (T.setTop (mkF m 126 #[.val (.int v0), .val (.int v1), .val (.int v2), .val (.ref v3), .val (.int v4), .val (.int v5), .val (.int v6), .unset] [])) _
  refine XS.iloadN X.here hx rfl (hb hby at_126) rfl ?_
  show Steps p.tables e below (T.setTop (mkF m 127 #[.val (.int v0), .val (.int v1), .val (.int v2), .val (.ref v3), .val (.int v4), .val (.int v5), .val (.int v6), .unset] [(.int v1)])) _
  refine XS.istore X.here hx rfl (hb hby at_127) rfl (l' := #[.val (.int v0), .val (.int v1), .val (.int v2), .val (.ref v3), .val (.int v4), .val (.int v5), .val (.int v6), .val (.int v1)]) rfl ?_
  rw [show (F0s_126 v1) = v1 from rfl] at kt
  exact kt
def F0s_110 (v1 : Int32) : Int32 := ((4519 : Int32) + ((v1 &&& (2147483647 : Int32)) - ((v1 &&& (2147483647 : Int32)) / (29 : Int32)) * (29 : Int32)))
theorem b0s_110 {p : Program} {l : Launch} {e : Env} {R : Room} {s : State} {m : MethodId} {args : Array Value} {below : List Frame} {meth : Method} {c : Code} {T : State} {locs : List Loc} {cells slots : Nat} {Z : State} {a0 : Array Value} (X : Stand p l e R s m args below meth c T locs cells slots) (hx : p.tables.exec = Jvm.exec) (hZ : Z.Warmed39 s.vm) (hw : ∀ d ∈ tables_1, d.before a0 Z = true) (hby : c.code = code) (hown : s.vm.findClass "com/example/kent_ridge/kentridge/HangulSyllablesComposePinLaw" = some m.cls) (v0 : Int32) (v1 : Int32) (v2 : Int32) (v3 : Addr) (v4 : Int32) (v5 : Int32) (v6 : Int32) (target : State) (kt : Steps p.tables e below (T.setTop (mkF m 129 #[.val (.int v0), .val (.int v1), .val (.int v2), .val (.ref v3), .val (.int v4), .val (.int v5), .val (.int v6), .val (.int (F0s_110 v1))] [])) target) : Steps p.tables e below (T.setTop (mkF m 110 #[.val (.int v0), .val (.int v1), .val (.int v2), .val (.ref v3), .val (.int v4), .val (.int v5), .val (.int v6), .unset] [])) target := by
  show Steps p.tables e below (T.setTop (mkF m 110 #[.val (.int v0), .val (.int v1), .val (.int v2), .val (.ref v3), .val (.int v4), .val (.int v5), .val (.int v6), .unset] [])) _
  refine XS.sipush X.here hx rfl (hb hby at_110) ?_
  show Steps p.tables e below (T.setTop (mkF m 113 #[.val (.int v0), .val (.int v1), .val (.int v2), .val (.ref v3), .val (.int v4), .val (.int v5), .val (.int v6), .unset] [(.int (4519 : Int32))])) _
  refine XS.iloadN X.here hx rfl (hb hby at_113) rfl ?_
  show Steps p.tables e below (T.setTop (mkF m 114 #[.val (.int v0), .val (.int v1), .val (.int v2), .val (.ref v3), .val (.int v4), .val (.int v5), .val (.int v6), .unset] [(.int v1), (.int (4519 : Int32))])) _
  refine X.ldcInt hx hown (mvT hZ (hw _ (List.mem_of_getElem? (i := 28) rfl))) (g := (mkF m 114 #[.val (.int v0), .val (.int v1), .val (.int v2), .val (.ref v3), .val (.int v4), .val (.int v5), .val (.int v6), .unset] [(.int v1), (.int (4519 : Int32))])) rfl (hb hby at_114) _ ?_
  show Steps p.tables e below (T.setTop (mkF m 116 #[.val (.int v0), .val (.int v1), .val (.int v2), .val (.ref v3), .val (.int v4), .val (.int v5), .val (.int v6), .unset] [(.int (2147483647 : Int32)), (.int v1), (.int (4519 : Int32))])) _
  refine XS.iand X.here hx rfl (hb hby at_116) rfl ?_
  show Steps p.tables e below (T.setTop (mkF m 117 #[.val (.int v0), .val (.int v1), .val (.int v2), .val (.ref v3), .val (.int v4), .val (.int v5), .val (.int v6), .unset] [(.int (v1 &&& (2147483647 : Int32))), (.int (4519 : Int32))])) _
  refine XS.bipush X.here hx rfl (hb hby at_117) ?_
  show Steps p.tables e below (T.setTop (mkF m 119 #[.val (.int v0), .val (.int v1), .val (.int v2), .val (.ref v3), .val (.int v4), .val (.int v5), .val (.int v6), .unset] [(.int (29 : Int32)), (.int (v1 &&& (2147483647 : Int32))), (.int (4519 : Int32))])) _
  refine XS.irem X.here hx rfl (hb hby at_119) rfl (by decide) ?_
  show Steps p.tables e below (T.setTop (mkF m 120 #[.val (.int v0), .val (.int v1), .val (.int v2), .val (.ref v3), .val (.int v4), .val (.int v5), .val (.int v6), .unset] [(.int ((v1 &&& (2147483647 : Int32)) - ((v1 &&& (2147483647 : Int32)) / (29 : Int32)) * (29 : Int32))), (.int (4519 : Int32))])) _
  refine XS.iadd X.here hx rfl (hb hby at_120) rfl ?_
  show Steps p.tables e below (T.setTop (mkF m 121 #[.val (.int v0), .val (.int v1), .val (.int v2), .val (.ref v3), .val (.int v4), .val (.int v5), .val (.int v6), .unset] [(.int ((4519 : Int32) + ((v1 &&& (2147483647 : Int32)) - ((v1 &&& (2147483647 : Int32)) / (29 : Int32)) * (29 : Int32))))])) _
  refine XS.istore X.here hx rfl (hb hby at_121) rfl (l' := #[.val (.int v0), .val (.int v1), .val (.int v2), .val (.ref v3), .val (.int v4), .val (.int v5), .val (.int v6), .val (.int ((4519 : Int32) + ((v1 &&& (2147483647 : Int32)) - ((v1 &&& (2147483647 : Int32)) / (29 : Int32)) * (29 : Int32))))]) rfl ?_
  show Steps p.tables e below (T.setTop (mkF m 123 #[.val (.int v0), .val (.int v1), .val (.int v2), .val (.ref v3), .val (.int v4), .val (.int v5), .val (.int v6), .val (.int ((4519 : Int32) + ((v1 &&& (2147483647 : Int32)) - ((v1 &&& (2147483647 : Int32)) / (29 : Int32)) * (29 : Int32))))] [])) _
  refine XS.goto X.here hx rfl (pc0 := 123) (pc' := 129) rfl (hb hby at_123) (by decide) (by decide) ?_
  rw [show (F0s_110 v1) = ((4519 : Int32) + ((v1 &&& (2147483647 : Int32)) - ((v1 &&& (2147483647 : Int32)) / (29 : Int32)) * (29 : Int32))) from rfl] at kt
  exact kt
def F0s_104 (v1 : Int32) (v5 : Int32) : Int32 := if v5 = (1 : Int32) then (F0s_110 v1) else (F0s_126 v1)
theorem b0s_104 {p : Program} {l : Launch} {e : Env} {R : Room} {s : State} {m : MethodId} {args : Array Value} {below : List Frame} {meth : Method} {c : Code} {T : State} {locs : List Loc} {cells slots : Nat} {Z : State} {a0 : Array Value} (X : Stand p l e R s m args below meth c T locs cells slots) (hx : p.tables.exec = Jvm.exec) (hZ : Z.Warmed39 s.vm) (hw : ∀ d ∈ tables_1, d.before a0 Z = true) (hby : c.code = code) (hown : s.vm.findClass "com/example/kent_ridge/kentridge/HangulSyllablesComposePinLaw" = some m.cls) (v0 : Int32) (v1 : Int32) (v2 : Int32) (v3 : Addr) (v4 : Int32) (v5 : Int32) (v6 : Int32) (target : State) (kt : Steps p.tables e below (T.setTop (mkF m 129 #[.val (.int v0), .val (.int v1), .val (.int v2), .val (.ref v3), .val (.int v4), .val (.int v5), .val (.int v6), .val (.int (F0s_104 v1 v5))] [])) target) : Steps p.tables e below (T.setTop (mkF m 104 #[.val (.int v0), .val (.int v1), .val (.int v2), .val (.ref v3), .val (.int v4), .val (.int v5), .val (.int v6), .unset] [])) target := by
  show Steps p.tables e below (T.setTop (mkF m 104 #[.val (.int v0), .val (.int v1), .val (.int v2), .val (.ref v3), .val (.int v4), .val (.int v5), .val (.int v6), .unset] [])) _
  refine XS.iload X.here hx rfl (hb hby at_104) rfl ?_
  show Steps p.tables e below (T.setTop (mkF m 106 #[.val (.int v0), .val (.int v1), .val (.int v2), .val (.ref v3), .val (.int v4), .val (.int v5), .val (.int v6), .unset] [(.int v5)])) _
  refine XS.iconst X.here hx rfl (hb hby at_106) ?_
  show Steps p.tables e below (T.setTop (mkF m 107 #[.val (.int v0), .val (.int v1), .val (.int v2), .val (.ref v3), .val (.int v4), .val (.int v5), .val (.int v6), .unset] [(.int (1 : Int32)), (.int v5)])) _
  by_cases hc : v5 = (1 : Int32)
  · rw [show (F0s_104 v1 v5) = (F0s_110 v1) from if_pos hc] at kt
    refine XS.icmpNo X.here hx rfl (hb hby at_107) rfl (teq hc).2 ?_
    exact b0s_110 X hx hZ hw hby hown v0 v1 v2 v3 v4 v5 v6 target kt
  · rw [show (F0s_104 v1 v5) = (F0s_126 v1) from if_neg hc] at kt
    refine XS.icmpYes X.here hx rfl (pc0 := 107) (pc' := 126) rfl (hb hby at_107) rfl (feq hc).2 (by decide) (by decide) ?_
    exact b0s_126 X hx hZ hw hby hown v0 v1 v2 v3 v4 v5 v6 target kt
def F0s_88 (v1 : Int32) : Int32 := ((4448 : Int32) + ((v1 &&& (2147483647 : Int32)) - ((v1 &&& (2147483647 : Int32)) / (23 : Int32)) * (23 : Int32)))
theorem b0s_88 {p : Program} {l : Launch} {e : Env} {R : Room} {s : State} {m : MethodId} {args : Array Value} {below : List Frame} {meth : Method} {c : Code} {T : State} {locs : List Loc} {cells slots : Nat} {Z : State} {a0 : Array Value} (X : Stand p l e R s m args below meth c T locs cells slots) (hx : p.tables.exec = Jvm.exec) (hZ : Z.Warmed39 s.vm) (hw : ∀ d ∈ tables_1, d.before a0 Z = true) (hby : c.code = code) (hown : s.vm.findClass "com/example/kent_ridge/kentridge/HangulSyllablesComposePinLaw" = some m.cls) (v0 : Int32) (v1 : Int32) (v2 : Int32) (v3 : Addr) (v4 : Int32) (v5 : Int32) (v6 : Int32) (target : State) (kt : Steps p.tables e below (T.setTop (mkF m 129 #[.val (.int v0), .val (.int v1), .val (.int v2), .val (.ref v3), .val (.int v4), .val (.int v5), .val (.int v6), .val (.int (F0s_88 v1))] [])) target) : Steps p.tables e below (T.setTop (mkF m 88 #[.val (.int v0), .val (.int v1), .val (.int v2), .val (.ref v3), .val (.int v4), .val (.int v5), .val (.int v6), .unset] [])) target := by
  show Steps p.tables e below (T.setTop (mkF m 88 #[.val (.int v0), .val (.int v1), .val (.int v2), .val (.ref v3), .val (.int v4), .val (.int v5), .val (.int v6), .unset] [])) _
  refine XS.sipush X.here hx rfl (hb hby at_88) ?_
  show Steps p.tables e below (T.setTop (mkF m 91 #[.val (.int v0), .val (.int v1), .val (.int v2), .val (.ref v3), .val (.int v4), .val (.int v5), .val (.int v6), .unset] [(.int (4448 : Int32))])) _
  refine XS.iloadN X.here hx rfl (hb hby at_91) rfl ?_
  show Steps p.tables e below (T.setTop (mkF m 92 #[.val (.int v0), .val (.int v1), .val (.int v2), .val (.ref v3), .val (.int v4), .val (.int v5), .val (.int v6), .unset] [(.int v1), (.int (4448 : Int32))])) _
  refine X.ldcInt hx hown (mvT hZ (hw _ (List.mem_of_getElem? (i := 28) rfl))) (g := (mkF m 92 #[.val (.int v0), .val (.int v1), .val (.int v2), .val (.ref v3), .val (.int v4), .val (.int v5), .val (.int v6), .unset] [(.int v1), (.int (4448 : Int32))])) rfl (hb hby at_92) _ ?_
  show Steps p.tables e below (T.setTop (mkF m 94 #[.val (.int v0), .val (.int v1), .val (.int v2), .val (.ref v3), .val (.int v4), .val (.int v5), .val (.int v6), .unset] [(.int (2147483647 : Int32)), (.int v1), (.int (4448 : Int32))])) _
  refine XS.iand X.here hx rfl (hb hby at_94) rfl ?_
  show Steps p.tables e below (T.setTop (mkF m 95 #[.val (.int v0), .val (.int v1), .val (.int v2), .val (.ref v3), .val (.int v4), .val (.int v5), .val (.int v6), .unset] [(.int (v1 &&& (2147483647 : Int32))), (.int (4448 : Int32))])) _
  refine XS.bipush X.here hx rfl (hb hby at_95) ?_
  show Steps p.tables e below (T.setTop (mkF m 97 #[.val (.int v0), .val (.int v1), .val (.int v2), .val (.ref v3), .val (.int v4), .val (.int v5), .val (.int v6), .unset] [(.int (23 : Int32)), (.int (v1 &&& (2147483647 : Int32))), (.int (4448 : Int32))])) _
  refine XS.irem X.here hx rfl (hb hby at_97) rfl (by decide) ?_
  show Steps p.tables e below (T.setTop (mkF m 98 #[.val (.int v0), .val (.int v1), .val (.int v2), .val (.ref v3), .val (.int v4), .val (.int v5), .val (.int v6), .unset] [(.int ((v1 &&& (2147483647 : Int32)) - ((v1 &&& (2147483647 : Int32)) / (23 : Int32)) * (23 : Int32))), (.int (4448 : Int32))])) _
  refine XS.iadd X.here hx rfl (hb hby at_98) rfl ?_
  show Steps p.tables e below (T.setTop (mkF m 99 #[.val (.int v0), .val (.int v1), .val (.int v2), .val (.ref v3), .val (.int v4), .val (.int v5), .val (.int v6), .unset] [(.int ((4448 : Int32) + ((v1 &&& (2147483647 : Int32)) - ((v1 &&& (2147483647 : Int32)) / (23 : Int32)) * (23 : Int32))))])) _
  refine XS.istore X.here hx rfl (hb hby at_99) rfl (l' := #[.val (.int v0), .val (.int v1), .val (.int v2), .val (.ref v3), .val (.int v4), .val (.int v5), .val (.int v6), .val (.int ((4448 : Int32) + ((v1 &&& (2147483647 : Int32)) - ((v1 &&& (2147483647 : Int32)) / (23 : Int32)) * (23 : Int32))))]) rfl ?_
  show Steps p.tables e below (T.setTop (mkF m 101 #[.val (.int v0), .val (.int v1), .val (.int v2), .val (.ref v3), .val (.int v4), .val (.int v5), .val (.int v6), .val (.int ((4448 : Int32) + ((v1 &&& (2147483647 : Int32)) - ((v1 &&& (2147483647 : Int32)) / (23 : Int32)) * (23 : Int32))))] [])) _
  refine XS.goto X.here hx rfl (pc0 := 101) (pc' := 129) rfl (hb hby at_101) (by decide) (by decide) ?_
  rw [show (F0s_88 v1) = ((4448 : Int32) + ((v1 &&& (2147483647 : Int32)) - ((v1 &&& (2147483647 : Int32)) / (23 : Int32)) * (23 : Int32))) from rfl] at kt
  exact kt
def F0s_83 (v1 : Int32) (v5 : Int32) : Int32 := if v5 = (0 : Int32) then (F0s_88 v1) else (F0s_104 v1 v5)
theorem b0s_83 {p : Program} {l : Launch} {e : Env} {R : Room} {s : State} {m : MethodId} {args : Array Value} {below : List Frame} {meth : Method} {c : Code} {T : State} {locs : List Loc} {cells slots : Nat} {Z : State} {a0 : Array Value} (X : Stand p l e R s m args below meth c T locs cells slots) (hx : p.tables.exec = Jvm.exec) (hZ : Z.Warmed39 s.vm) (hw : ∀ d ∈ tables_1, d.before a0 Z = true) (hby : c.code = code) (hown : s.vm.findClass "com/example/kent_ridge/kentridge/HangulSyllablesComposePinLaw" = some m.cls) (v0 : Int32) (v1 : Int32) (v2 : Int32) (v3 : Addr) (v4 : Int32) (v5 : Int32) (v6 : Int32) (target : State) (kt : Steps p.tables e below (T.setTop (mkF m 129 #[.val (.int v0), .val (.int v1), .val (.int v2), .val (.ref v3), .val (.int v4), .val (.int v5), .val (.int v6), .val (.int (F0s_83 v1 v5))] [])) target) : Steps p.tables e below (T.setTop (mkF m 83 #[.val (.int v0), .val (.int v1), .val (.int v2), .val (.ref v3), .val (.int v4), .val (.int v5), .val (.int v6), .unset] [])) target := by
  show Steps p.tables e below (T.setTop (mkF m 83 #[.val (.int v0), .val (.int v1), .val (.int v2), .val (.ref v3), .val (.int v4), .val (.int v5), .val (.int v6), .unset] [])) _
  refine XS.iload X.here hx rfl (hb hby at_83) rfl ?_
  show Steps p.tables e below (T.setTop (mkF m 85 #[.val (.int v0), .val (.int v1), .val (.int v2), .val (.ref v3), .val (.int v4), .val (.int v5), .val (.int v6), .unset] [(.int v5)])) _
  by_cases hc : v5 = (0 : Int32)
  · rw [show (F0s_83 v1 v5) = (F0s_88 v1) from if_pos hc] at kt
    refine XS.ifNo X.here hx rfl (hb hby at_85) rfl ((if0 _ _).trans (teq hc).2) ?_
    exact b0s_88 X hx hZ hw hby hown v0 v1 v2 v3 v4 v5 v6 target kt
  · rw [show (F0s_83 v1 v5) = (F0s_104 v1 v5) from if_neg hc] at kt
    refine XS.ifYes X.here hx rfl (pc0 := 85) (pc' := 104) rfl (hb hby at_85) rfl ((if0 _ _).trans (feq hc).2) (by decide) (by decide) ?_
    exact b0s_104 X hx hZ hw hby hown v0 v1 v2 v3 v4 v5 v6 target kt
theorem own_lt {v c : Int32} {z : Int} (hc : c.toInt = z) (h : v.toInt < z) : v < c := by rw [Int32.lt_iff_toInt_lt, hc]; exact h
theorem own_nlt {v c : Int32} {z : Int} (hc : c.toInt = z) (h : z ≤ v.toInt) : ¬ v < c := by rw [Int32.lt_iff_toInt_lt, hc]; omega
theorem own_gt {v c : Int32} {z : Int} (hc : c.toInt = z) (h : z < v.toInt) : c < v := by rw [Int32.lt_iff_toInt_lt, hc]; exact h
theorem own_ngt {v c : Int32} {z : Int} (hc : c.toInt = z) (h : v.toInt ≤ z) : ¬ c < v := by rw [Int32.lt_iff_toInt_lt, hc]; omega
theorem own_sub (a c : Int32) (z : Int) (hc : c.toInt = z) : ((a - c).toInt - (a.toInt - z)) % 4294967296 = 0 := by rw [← hc]; exact c_isub a c
theorem own_105 (a t : Int32) : F3_105 a t = (-1 : Int32) := if_pos rfl
theorem own_101 (a t : Int32) : F3_101 a t = F3_113 a t := if_neg (by decide)
theorem own_113 (a t : Int32) : F3_113 a t = if 0 ≤ t.toInt ∧ t.toInt < 27 then a + t + 1 else (-1 : Int32) := by
  by_cases h : t.toInt < 0
  · rw [if_neg (by omega)]; exact if_pos (own_lt (z := 0) rfl h)
  · rw [show F3_113 a t = F3_118 a t from if_neg (own_nlt (z := 0) rfl (by omega))]
    by_cases h2 : t.toInt < 27
    · rw [if_pos (by omega)]; exact if_pos (own_lt (z := 27) rfl h2)
    · rw [if_neg (by omega)]; exact if_neg (own_nlt (z := 27) rfl (by omega))
theorem own_3_61 (a b : Int32) : F3_61 a b = if (44032 ≤ a.toInt ∧ a.toInt ≤ 55203) ∧ (4520 ≤ b.toInt ∧ b.toInt ≤ 4546) ∧ ((a - (44032 : Int32)) - ((a - (44032 : Int32)) / (28 : Int32)) * (28 : Int32)) = (0 : Int32) then a + (b - (4520 : Int32)) + 1 else (-1 : Int32) := by
  have d1 := own_sub a 44032 44032 rfl
  have d2 := own_sub b 4520 4520 rfl
  have r1 := rng32 a
  have r2 := rng32 b
  have r3 := rng32 (a - 44032)
  have r4 := rng32 (b - 4520)
  by_cases h1 : (a - (44032 : Int32)).toInt < 0
  · rw [show F3_61 a b = F3_105 a (b - 4520) from if_pos (own_lt (z := 0) rfl h1), own_105, if_neg (by omega)]
  · rw [show F3_61 a b = F3_82 a (a - 44032) (b - 4520) from if_neg (own_nlt (z := 0) rfl (by omega))]
    by_cases h2 : (a - (44032 : Int32)).toInt < 11172
    · rw [show F3_82 a (a - 44032) (b - 4520) = F3_91 a (a - 44032) (b - 4520) from if_pos (own_lt (z := 11172) rfl h2)]
      by_cases h3 : ((a - (44032 : Int32)) - ((a - (44032 : Int32)) / (28 : Int32)) * (28 : Int32)) = (0 : Int32)
      · rw [show F3_91 a (a - 44032) (b - 4520) = F3_101 a (b - 4520) from if_pos h3, own_101, own_113]
        by_cases h4 : 0 ≤ (b - (4520 : Int32)).toInt ∧ (b - (4520 : Int32)).toInt < 27
        · rw [if_pos h4, if_pos ⟨by omega, by omega, h3⟩]
        · rw [if_neg h4, if_neg (fun q => h4 (by have := q.2.1; omega))]
      · rw [show F3_91 a (a - 44032) (b - 4520) = F3_105 a (b - 4520) from if_neg h3, own_105, if_neg (fun q => h3 q.2.2)]
    · rw [show F3_82 a (a - 44032) (b - 4520) = F3_105 a (b - 4520) from if_neg (own_nlt (z := 11172) rfl (by omega)), own_105, if_neg (by omega)]
theorem own_4_107 (a b v : Int32) : F4_107 a b v = (-1 : Int32) := by
  by_cases h : v = (0 : Int32)
  · exact if_pos h
  · rw [show F4_107 a b v = F4_115 a b 0 from if_neg h]; exact if_pos rfl
theorem own_4_96 (a b v : Int32) (h : v = 0 ∨ v = 1) : F4_96 a b v = if v = 1 ∧ b.toInt ≤ 4546 ∧ ((a - (44032 : Int32)) - ((a - (44032 : Int32)) / (28 : Int32)) * (28 : Int32)) = (0 : Int32) then a + (b - (4519 : Int32)) else (-1 : Int32) := by
  by_cases h1 : 4546 < b.toInt
  · rw [show F4_96 a b v = F4_107 a b v from if_pos (own_gt (z := 4546) rfl h1), own_4_107, if_neg (by omega)]
  · rw [show F4_96 a b v = F4_103 a b v from if_neg (own_ngt (z := 4546) rfl (by omega))]
    rcases h with rfl | rfl
    · rw [show F4_103 a b 0 = (-1 : Int32) from if_pos rfl, if_neg (fun q => absurd q.1 (by decide))]
    · rw [show F4_103 a b 1 = F4_115 a b 1 from if_neg (by decide), show F4_115 a b 1 = F4_120 a b from if_neg (by decide)]
      by_cases h3 : ((a - (44032 : Int32)) - ((a - (44032 : Int32)) / (28 : Int32)) * (28 : Int32)) = (0 : Int32)
      · rw [if_pos ⟨rfl, by omega, h3⟩]; exact if_pos h3
      · rw [if_neg (fun q => h3 q.2.2)]; exact if_neg h3
theorem own_4_70 (a b : Int32) : F4_70 a b = if (44032 ≤ a.toInt ∧ a.toInt ≤ 55203) ∧ (4520 ≤ b.toInt ∧ b.toInt ≤ 4546) ∧ ((a - (44032 : Int32)) - ((a - (44032 : Int32)) / (28 : Int32)) * (28 : Int32)) = (0 : Int32) then a + (b - (4519 : Int32)) else (-1 : Int32) := by
  have h86 : F4_86 a b = (-1 : Int32) := by
    by_cases h : b.toInt < 4520
    · rw [show F4_86 a b = F4_107 a b 0 from if_pos (own_lt (z := 4520) rfl h), own_4_107]
    · rw [show F4_86 a b = F4_96 a b 0 from if_neg (own_nlt (z := 4520) rfl (by omega)), own_4_96 a b 0 (Or.inl rfl), if_neg (fun q => absurd q.1 (by decide))]
  by_cases h1 : a.toInt < 44032
  · rw [show F4_70 a b = F4_86 a b from if_pos (own_lt (z := 44032) rfl h1), h86, if_neg (by omega)]
  · rw [show F4_70 a b = F4_76 a b from if_neg (own_nlt (z := 44032) rfl (by omega))]
    by_cases h2 : 55203 < a.toInt
    · rw [show F4_76 a b = F4_86 a b from if_pos (own_gt (z := 55203) rfl h2), h86, if_neg (by omega)]
    · rw [show F4_76 a b = F4_82 a b from if_neg (own_ngt (z := 55203) rfl (by omega))]
      by_cases h : b.toInt < 4520
      · rw [show F4_82 a b = F4_107 a b 1 from if_pos (own_lt (z := 4520) rfl h), own_4_107, if_neg (by omega)]
      · rw [show F4_82 a b = F4_96 a b 1 from if_neg (own_nlt (z := 4520) rfl (by omega)), own_4_96 a b 1 (Or.inr rfl)]
        by_cases h3 : b.toInt ≤ 4546 ∧ ((a - (44032 : Int32)) - ((a - (44032 : Int32)) / (28 : Int32)) * (28 : Int32)) = (0 : Int32)
        · rw [if_pos ⟨rfl, h3⟩, if_pos ⟨by omega, by omega, h3.2⟩]
        · rw [if_neg (fun q => h3 q.2), if_neg (fun q => h3 ⟨by have := q.2.1; omega, q.2.2⟩)]
theorem own_off (a b : Int32) : a + (b - (4520 : Int32)) + 1 = a + (b - (4519 : Int32)) := by
  have d1 := own_sub b 4520 4520 rfl
  have d2 := own_sub b 4519 4519 rfl
  have d3 := c_iadd a (b - 4520)
  have d4 := c_iadd (a + (b - 4520)) 1
  have d5 := c_iadd a (b - 4519)
  have r1 := rng32 (a + (b - 4520) + 1)
  have r2 := rng32 (a + (b - 4519))
  have e1 : (1 : Int32).toInt = 1 := rfl
  rw [← Int32.toInt_inj]; omega
theorem own_tail (a b : Int32) : F3_61 a b = F4_70 a b := by
  rw [own_3_61, own_4_70, own_off]
theorem own_4_18 (a b : Int32) : F4_18 a b = F4_70 a b := by
  by_cases h : b.toInt < 4449
  · rw [show F4_18 a b = F4_38 a b 0 from if_pos (own_lt (z := 4449) rfl h)]; exact if_pos rfl
  · rw [show F4_18 a b = F4_27 a b 0 from if_neg (own_nlt (z := 4449) rfl (by omega))]
    by_cases h2 : 4469 < b.toInt
    · rw [show F4_27 a b 0 = F4_38 a b 0 from if_pos (own_gt (z := 4469) rfl h2)]; exact if_pos rfl
    · rw [show F4_27 a b 0 = F4_34 a b 0 from if_neg (own_ngt (z := 4469) rfl (by omega))]; exact if_pos rfl
theorem own_38_1 (a b : Int32) : F4_38 a b 1 = F4_70 a b := by
  rw [show F4_38 a b 1 = F4_44 a b 0 from if_neg (by decide)]; exact if_pos rfl
theorem own_val (x y : Int32) : F3_41 x y = (44032 : Int32) + x * (588 : Int32) + y * (28 : Int32) := by
  show (44032 : Int32) + ((x * (21 : Int32)) + y) * (28 : Int32) = _
  rw [Int32.add_mul, Int32.mul_assoc, show (21 : Int32) * 28 = 588 from by decide, Int32.add_assoc]
theorem own_same (a b : Int32) : F3_0 a b = F4_0 a b := by
  have d1 := own_sub a 4352 4352 rfl
  have d2 := own_sub b 4449 4449 rfl
  have r1 := rng32 a
  have r2 := rng32 b
  have r3 := rng32 (a - 4352)
  have r4 := rng32 (b - 4449)
  by_cases hl : 4352 ≤ a.toInt ∧ a.toInt ≤ 4370
  · rw [show F3_0 a b = F3_19 a b (a - 4352) (b - 4449) from if_neg (own_nlt (z := 0) rfl (by omega)), show F3_19 a b (a - 4352) (b - 4449) = F3_27 a b (a - 4352) (b - 4449) from if_pos (own_lt (z := 19) rfl (by omega))]
    rw [show F4_0 a b = F4_7 a b from if_neg (own_nlt (z := 4352) rfl (by omega)), show F4_7 a b = F4_14 a b from if_neg (own_ngt (z := 4370) rfl (by omega))]
    by_cases h1 : b.toInt < 4449
    · rw [show F4_14 a b = F4_38 a b 1 from if_pos (own_lt (z := 4449) rfl h1), own_38_1, ← own_tail]
      by_cases h2 : (b - (4449 : Int32)).toInt < 0
      · exact if_pos (own_lt (z := 0) rfl h2)
      · rw [show F3_27 a b (a - 4352) (b - 4449) = F3_32 a b (a - 4352) (b - 4449) from if_neg (own_nlt (z := 0) rfl (by omega))]
        exact if_neg (own_nlt (z := 21) rfl (by omega))
    · rw [show F4_14 a b = F4_27 a b 1 from if_neg (own_nlt (z := 4449) rfl (by omega))]
      by_cases h3 : 4469 < b.toInt
      · rw [show F4_27 a b 1 = F4_38 a b 1 from if_pos (own_gt (z := 4469) rfl h3), own_38_1, ← own_tail]
        by_cases h2 : (b - (4449 : Int32)).toInt < 0
        · exact if_pos (own_lt (z := 0) rfl h2)
        · rw [show F3_27 a b (a - 4352) (b - 4449) = F3_32 a b (a - 4352) (b - 4449) from if_neg (own_nlt (z := 0) rfl (by omega))]
          exact if_neg (own_nlt (z := 21) rfl (by omega))
      · rw [show F4_27 a b 1 = F4_34 a b 1 from if_neg (own_ngt (z := 4469) rfl (by omega)), show F4_34 a b 1 = F4_44 a b 1 from if_neg (by decide), show F4_44 a b 1 = F4_48 a b from if_neg (by decide)]
        rw [show F3_27 a b (a - 4352) (b - 4449) = F3_32 a b (a - 4352) (b - 4449) from if_neg (own_nlt (z := 0) rfl (by omega)), show F3_32 a b (a - 4352) (b - 4449) = F3_41 (a - 4352) (b - 4449) from if_pos (own_lt (z := 21) rfl (by omega)), own_val]
        rfl
  · have e3 : F3_0 a b = F3_61 a b := by
      by_cases h1 : (a - (4352 : Int32)).toInt < 0
      · exact if_pos (own_lt (z := 0) rfl h1)
      · rw [show F3_0 a b = F3_19 a b (a - 4352) (b - 4449) from if_neg (own_nlt (z := 0) rfl (by omega))]
        exact if_neg (own_nlt (z := 19) rfl (by omega))
    have e4 : F4_0 a b = F4_70 a b := by
      by_cases h1 : a.toInt < 4352
      · rw [show F4_0 a b = F4_18 a b from if_pos (own_lt (z := 4352) rfl h1), own_4_18]
      · rw [show F4_0 a b = F4_7 a b from if_neg (own_nlt (z := 4352) rfl (by omega)), show F4_7 a b = F4_18 a b from if_pos (own_gt (z := 4370) rfl (by omega)), own_4_18]
    rw [e3, e4, own_tail]

theorem pn_0 : plainName "com/example/kent_ridge/kentridge/HangulSyllablesComposePinLaw" = true := by first | (simp [plainName, overriddenIn]; done) | decide +kernel
theorem ef_0 (m : MethodId) (p0 : Int32) (p1 : Int32) (p2 : Int32) : entryFrame m #[(.int p0), (.int p1), (.int p2)] maxLocals = mkF m 0 #[.val (.int p0), .val (.int p1), .val (.int p2), .unset, .unset, .unset, .unset, .unset] [] := by first | (simp [entryFrame, mkF, argsToLocals, Value.category, maxLocals]; done) | rfl
def Q_rm0 (Z : State) (p0 : Int32) (p1 : Int32) (p2 : Int32) (h0 : Heap) (n0 : Nat) (v : Option Value) (h : Heap) (L : List Loc) : Prop := (v = some (.int (1 : Int32)) ∧ Fr n0 L)
set_option maxRecDepth 65536 in
set_option maxHeartbeats 40000000 in
theorem rm0 (l : Launch) (Z : State) (a0 : Array Value) (hw : ∀ d ∈ tables_1, d.before a0 Z = true) (ws : List Jvm.Cond) (p0 : Int32) (p1 : Int32) (p2 : Int32) (h0 : Heap) (n0 : Nat) (Z0 : n0 ≤ h0.size) :
    MetFree l x (head1 (Jvm.Cond.code x code maxLocals ret :: ws) room_1) (fun a U => a = #[(.int p0), (.int p1), (.int p2)] ∧ Z.Warmed39 U.vm ∧ U.heap = h0) (fun _ _ _ _ _ => True) (fun _ U o U' => ∃ v L, o = .returned v ∧ Q_rm0 Z p0 p1 p2 h0 n0 v U'.heap L ∧ FrameEnd U o U' L room_1.cells room_1.slots) := by
  refine MetFree.of_bodySF (plainFor_of_name pn_0) hisR ?_
  intro p e s m args below meth c s₁ Bd hml0 hP hK
  obtain ⟨rfl, hZ, hh⟩ := hP
  have hx := Bd.exec
  have hby := Bd.bytes
  have hml : c.maxLocals = 8 := hml0
  have hown : s.vm.findClass "com/example/kent_ridge/kentridge/HangulSyllablesComposePinLaw" = some m.cls := findClass_of_methodNamed Bd.named
  have hnm := (name_of_methodNamed Bd.named Bd.method).1
  have X0 : Stand p l e room_1 s m #[(.int p0), (.int p1), (.int p2)] below meth c s₁ [] 0 0 := Stand.of_body Bd
  have e0 : s₁.heap = h0 := by rw [← hh, Bd.state]; rfl
  have N0 := Fr.nil n0
  have pre0 : ∀ t, Steps p.tables e below (s₁.setTop (mkF m 0 #[.val (.int p0), .val (.int p1), .val (.int p2), .unset, .unset, .unset, .unset, .unset] [])) t → Steps p.tables e below (s₁.setTop (entryFrame m #[(.int p0), (.int p1), (.int p2)] maxLocals)) t := fun t k => castTop (ef_0 m p0 p1 p2) k
  obtain ⟨T1, h1, X1, e1, E1, A1, D1, -, st1⟩ := newO X0 hx hZ hown (hw _ (List.mem_of_getElem? (i := 0) rfl)) (hw _ (List.mem_of_getElem? (i := 1) rfl)) (hw _ (List.mem_of_getElem? (i := 2) rfl)) e0 (g := (mkF m 0 #[.val (.int p0), .val (.int p1), .val (.int p2), .unset, .unset, .unset, .unset, .unset] [])) rfl (hb hby at_0) (by decide) (by decide)
  obtain ⟨b1, g1⟩ : ∃ z, z = Array.size h0 := ⟨_, rfl⟩
  rw [← g1] at A1 D1 st1
  have G1 : n0 ≤ b1 := Nat.le_trans Z0 (Nat.le_of_eq g1.symm)
  have Z1 : n0 ≤ Array.size h1 := Nat.le_trans Z0 E1.1
  have F1_firstSyllable : Fld Z h1 b1 "com/example/kent_ridge/kentridge/HangulSyllables" "firstSyllable" "I" (.int (0 : Int32)) := D1 (Or.inr (hw _ (List.mem_of_getElem? (i := 11) rfl))) (ty := .int) (by decide)
  have F1_firstLead : Fld Z h1 b1 "com/example/kent_ridge/kentridge/HangulSyllables" "firstLead" "I" (.int (0 : Int32)) := D1 (Or.inr (hw _ (List.mem_of_getElem? (i := 13) rfl))) (ty := .int) (by decide)
  have F1_leadCount : Fld Z h1 b1 "com/example/kent_ridge/kentridge/HangulSyllables" "leadCount" "I" (.int (0 : Int32)) := D1 (Or.inr (hw _ (List.mem_of_getElem? (i := 15) rfl))) (ty := .int) (by decide)
  have F1_firstVowel : Fld Z h1 b1 "com/example/kent_ridge/kentridge/HangulSyllables" "firstVowel" "I" (.int (0 : Int32)) := D1 (Or.inr (hw _ (List.mem_of_getElem? (i := 17) rfl))) (ty := .int) (by decide)
  have F1_vowelCount : Fld Z h1 b1 "com/example/kent_ridge/kentridge/HangulSyllables" "vowelCount" "I" (.int (0 : Int32)) := D1 (Or.inr (hw _ (List.mem_of_getElem? (i := 19) rfl))) (ty := .int) (by decide)
  have F1_firstTrail : Fld Z h1 b1 "com/example/kent_ridge/kentridge/HangulSyllables" "firstTrail" "I" (.int (0 : Int32)) := D1 (Or.inr (hw _ (List.mem_of_getElem? (i := 21) rfl))) (ty := .int) (by decide)
  have F1_trailCount : Fld Z h1 b1 "com/example/kent_ridge/kentridge/HangulSyllables" "trailCount" "I" (.int (0 : Int32)) := D1 (Or.inr (hw _ (List.mem_of_getElem? (i := 23) rfl))) (ty := .int) (by decide)
  have F1_trailStates : Fld Z h1 b1 "com/example/kent_ridge/kentridge/HangulSyllables" "trailStates" "I" (.int (0 : Int32)) := D1 (Or.inr (hw _ (List.mem_of_getElem? (i := 25) rfl))) (ty := .int) (by decide)
  have F1_syllableCount : Fld Z h1 b1 "com/example/kent_ridge/kentridge/HangulSyllables" "syllableCount" "I" (.int (0 : Int32)) := D1 (Or.inr (hw _ (List.mem_of_getElem? (i := 27) rfl))) (ty := .int) (by decide)
  obtain ⟨_, _, ⟨T2, L2, k2, n2⟩, -, X2, ⟨Lc2, hQ2, l2, y2, z2⟩, st2⟩ := X1.specialBack hx (y := (⟨"com/example/kent_ridge/kentridge/HangulSyllables", "<init>", "(IIIIIII)V"⟩ : MethodName)) rfl hown (mvT hZ (hw _ (List.mem_of_getElem? (i := 4) rfl))) (mvT hZ (hw _ (List.mem_of_getElem? (i := 5) rfl))) (mvT hZ (hw _ (List.mem_of_getElem? (i := 6) rfl))) (by decide) (backOf (W := 1) (rm1 l Z a0 hw [] b1 (44032 : Int32) (4352 : Int32) (19 : Int32) (4449 : Int32) (21 : Int32) (4520 : Int32) (27 : Int32) h1 n0 Z1 A1 F1_firstSyllable F1_firstLead F1_leadCount F1_firstVowel F1_vowelCount F1_firstTrail F1_trailCount F1_trailStates F1_syllableCount G1) hZ (hw _ (List.mem_of_getElem? (i := 6) rfl)) (hw _ (List.mem_of_getElem? (i := 2) rfl)) (by decide) (by decide)) (g := (mkF m 21 #[.val (.int p0), .val (.int p1), .val (.int p2), .unset, .unset, .unset, .unset, .unset] [(.int (27 : Int32)), (.int (4520 : Int32)), (.int (21 : Int32)), (.int (4449 : Int32)), (.int (19 : Int32)), (.int (4352 : Int32)), (.int (44032 : Int32)), (.ref b1), (.ref b1)])) rfl (by rw [hml]; rfl) (Steps.refl _) (a := b1) (argsL := [(.int (44032 : Int32)), (.int (4352 : Int32)), (.int (19 : Int32)), (.int (4449 : Int32)), (.int (21 : Int32)), (.int (4520 : Int32)), (.int (27 : Int32))]) (rest := [(.ref b1)]) (lenOf pd0 rfl) rfl (by show 2 * 0 + _ ≤ _; exact Nat.le_of_eq rfl) (hb hby at_21) (fun _ _ => ⟨rfl, e1, (by decide : 1 + 0 ≤ _), (by decide : 9 + 0 ≤ _)⟩)
  dsimp only [Pt.U, Pt.locs, Pt.cells, Pt.slots] at X2 l2 y2 z2 st2 hQ2
  subst l2 y2 z2
  obtain ⟨rfl, N2q, K2, Ec2, Fc2_firstSyllable, Fc2_firstLead, Fc2_leadCount, Fc2_firstVowel, Fc2_vowelCount, Fc2_firstTrail, Fc2_trailCount, Fc2_trailStates, Fc2_syllableCount⟩ := hQ2
  have Z2 : n0 ≤ Array.size T2.heap := Nat.le_trans Z1 K2.1
  have N2 := Fr.app N0 N2q
  have P_trailStates : Fld Z T2.heap b1 "com/example/kent_ridge/kentridge/HangulSyllables" "trailStates" "I" (.int (28 : Int32)) := Fc2_trailStates
  have P_syllableCount : Fld Z T2.heap b1 "com/example/kent_ridge/kentridge/HangulSyllables" "syllableCount" "I" (.int (11172 : Int32)) := Fc2_syllableCount
  obtain ⟨cq3, kq3, q3a, q3b, q3c⟩ := isOf hZ rfl Ec2
  obtain ⟨_, _, ⟨T3, L3, k3, n3⟩, -, X3, ⟨Lc3, hQ3, l3, y3, z3⟩, st3⟩ := X2.virtualBack hx (y := (⟨"com/example/kent_ridge/kentridge/HangulSyllables", "compose", "(II)I"⟩ : MethodName)) (z := (⟨"com/example/kent_ridge/kentridge/HangulSyllables", "compose", "(II)I"⟩ : MethodName)) hown (mvT hZ (hw _ (List.mem_of_getElem? (i := 29) rfl))) (mvT hZ (hw _ (List.mem_of_getElem? (i := 30) rfl))) (notFace_of_selects (args := #[]) (mvT hZ (hw _ (List.mem_of_getElem? (i := 32) rfl)))) (mvT hZ (hw _ (List.mem_of_getElem? (i := 32) rfl))) (mvT hZ (hw _ (List.mem_of_getElem? (i := 31) rfl))) (by decide) (backOf (W := 0) (rm3 l Z a0 hw [] b1 (F0s_37 p0 (p2 &&& (3 : Int32))) (F0s_83 p1 (((p2.toUInt32 >>> ((2 : Int32) &&& 31).toUInt32).toInt32) &&& (3 : Int32))) T2.heap n0 Z2 Fc2_firstSyllable Fc2_firstLead Fc2_leadCount Fc2_firstVowel Fc2_vowelCount Fc2_firstTrail Fc2_trailCount P_trailStates P_syllableCount) hZ (hw _ (List.mem_of_getElem? (i := 33) rfl)) (hw _ (List.mem_of_getElem? (i := 2) rfl)) (by decide) (by decide)) q3a q3c (g := (mkF m 134 #[.val (.int p0), .val (.int p1), .val (.int p2), .val (.ref b1), .val (.int (p2 &&& (3 : Int32))), .val (.int (((p2.toUInt32 >>> ((2 : Int32) &&& 31).toUInt32).toInt32) &&& (3 : Int32))), .val (.int (F0s_37 p0 (p2 &&& (3 : Int32)))), .val (.int (F0s_83 p1 (((p2.toUInt32 >>> ((2 : Int32) &&& 31).toUInt32).toInt32) &&& (3 : Int32))))] [(.int (F0s_83 p1 (((p2.toUInt32 >>> ((2 : Int32) &&& 31).toUInt32).toInt32) &&& (3 : Int32)))), (.int (F0s_37 p0 (p2 &&& (3 : Int32)))), (.ref b1)])) rfl (by rw [hml]; rfl) (Steps.refl _) (argsL := [(.int (F0s_37 p0 (p2 &&& (3 : Int32)))), (.int (F0s_83 p1 (((p2.toUInt32 >>> ((2 : Int32) &&& 31).toUInt32).toInt32) &&& (3 : Int32))))]) (rest := []) (lenOf pd1 rfl) rfl (by show 2 * 0 + _ ≤ _; exact Nat.le_of_eq rfl) (hb hby at_134) (fun _ _ => ⟨rfl, rfl, (by decide : 1 + 0 ≤ _), (by decide : 9 + 0 ≤ _)⟩)
  dsimp only [Pt.U, Pt.locs, Pt.cells, Pt.slots] at X3 l3 y3 z3 st3 hQ3
  subst l3 y3 z3
  obtain ⟨rfl, N3q, e3⟩ := hQ3
  have N3 := Fr.app N2 N3q
  obtain ⟨_, _, ⟨T4, L4, k4, n4⟩, -, X4, ⟨Lc4, hQ4, l4, y4, z4⟩, st4⟩ := Jvm.LawKit.callS X3 hx (y := (⟨"com/example/kent_ridge/kentridge/HangulSyllablesComposePinLaw", "expected", "(II)I"⟩ : MethodName)) hown (mvT hZ (hw _ (List.mem_of_getElem? (i := 34) rfl))) (mvT hZ (hw _ (List.mem_of_getElem? (i := 35) rfl))) (mvT hZ (hw _ (List.mem_of_getElem? (i := 36) rfl))) (mvT hZ (hw _ (List.mem_of_getElem? (i := 37) rfl))) (by decide) (backOf (W := 1) (rm4 l Z a0 hw [] (F0s_37 p0 (p2 &&& (3 : Int32))) (F0s_83 p1 (((p2.toUInt32 >>> ((2 : Int32) &&& 31).toUInt32).toInt32) &&& (3 : Int32))) T2.heap n0 Z2) hZ (hw _ (List.mem_of_getElem? (i := 37) rfl)) (hw _ (List.mem_of_getElem? (i := 36) rfl)) (by decide) (by decide)) (g := (mkF m 141 #[.val (.int p0), .val (.int p1), .val (.int p2), .val (.ref b1), .val (.int (p2 &&& (3 : Int32))), .val (.int (((p2.toUInt32 >>> ((2 : Int32) &&& 31).toUInt32).toInt32) &&& (3 : Int32))), .val (.int (F0s_37 p0 (p2 &&& (3 : Int32)))), .val (.int (F0s_83 p1 (((p2.toUInt32 >>> ((2 : Int32) &&& 31).toUInt32).toInt32) &&& (3 : Int32))))] [(.int (F0s_83 p1 (((p2.toUInt32 >>> ((2 : Int32) &&& 31).toUInt32).toInt32) &&& (3 : Int32)))), (.int (F0s_37 p0 (p2 &&& (3 : Int32)))), (.int (F3_0 (F0s_37 p0 (p2 &&& (3 : Int32))) (F0s_83 p1 (((p2.toUInt32 >>> ((2 : Int32) &&& 31).toUInt32).toInt32) &&& (3 : Int32)))))])) rfl (by rw [hml]; rfl) (argsL := [(.int (F0s_37 p0 (p2 &&& (3 : Int32)))), (.int (F0s_83 p1 (((p2.toUInt32 >>> ((2 : Int32) &&& 31).toUInt32).toInt32) &&& (3 : Int32))))]) (rest := [(.int (F3_0 (F0s_37 p0 (p2 &&& (3 : Int32))) (F0s_83 p1 (((p2.toUInt32 >>> ((2 : Int32) &&& 31).toUInt32).toInt32) &&& (3 : Int32)))))]) (lenOf pd1 rfl) rfl (by show 2 * 0 + _ ≤ _; exact Nat.le_of_eq rfl) (hb hby at_141) (fun _ _ => ⟨rfl, e3, (by decide : 1 + 0 ≤ _), (by decide : 9 + 0 ≤ _)⟩)
  dsimp only [Pt.U, Pt.locs, Pt.cells, Pt.slots] at X4 l4 y4 z4 st4 hQ4
  subst l4 y4 z4
  obtain ⟨rfl, N4q, e4⟩ := hQ4
  have N4 := Fr.app N3 N4q
  obtain ⟨fs, hr, hrun, hended, hW, hsame⟩ := X4.leave (v := some (.int (1 : Int32))) (fun h => by rw [Bd.returns] at h; cases h)
  refine ⟨_, _, pre0 _ ?_, hrun, hended, _, _, rfl, ⟨rfl, N4⟩, ⟨_, rfl⟩, hW, hsame.mono (by decide) (by decide)⟩
  show Steps p.tables e below (s₁.setTop (mkF m 0 #[.val (.int p0), .val (.int p1), .val (.int p2), .unset, .unset, .unset, .unset, .unset] [])) _
  refine st1 _ ?_
  show Steps p.tables e below (T1.setTop (mkF m 3 #[.val (.int p0), .val (.int p1), .val (.int p2), .unset, .unset, .unset, .unset, .unset] [(.ref b1)])) _
  refine XS.dup X1.here hx rfl (hb hby at_3) rfl rfl ?_
  show Steps p.tables e below (T1.setTop (mkF m 4 #[.val (.int p0), .val (.int p1), .val (.int p2), .unset, .unset, .unset, .unset, .unset] [(.ref b1), (.ref b1)])) _
  refine X1.ldcInt hx hown (mvT hZ (hw _ (List.mem_of_getElem? (i := 3) rfl))) (g := (mkF m 4 #[.val (.int p0), .val (.int p1), .val (.int p2), .unset, .unset, .unset, .unset, .unset] [(.ref b1), (.ref b1)])) rfl (hb hby at_4) _ ?_
  show Steps p.tables e below (T1.setTop (mkF m 6 #[.val (.int p0), .val (.int p1), .val (.int p2), .unset, .unset, .unset, .unset, .unset] [(.int (44032 : Int32)), (.ref b1), (.ref b1)])) _
  refine XS.sipush X1.here hx rfl (hb hby at_6) ?_
  show Steps p.tables e below (T1.setTop (mkF m 9 #[.val (.int p0), .val (.int p1), .val (.int p2), .unset, .unset, .unset, .unset, .unset] [(.int (4352 : Int32)), (.int (44032 : Int32)), (.ref b1), (.ref b1)])) _
  refine XS.bipush X1.here hx rfl (hb hby at_9) ?_
  show Steps p.tables e below (T1.setTop (mkF m 11 #[.val (.int p0), .val (.int p1), .val (.int p2), .unset, .unset, .unset, .unset, .unset] [(.int (19 : Int32)), (.int (4352 : Int32)), (.int (44032 : Int32)), (.ref b1), (.ref b1)])) _
  refine XS.sipush X1.here hx rfl (hb hby at_11) ?_
  show Steps p.tables e below (T1.setTop (mkF m 14 #[.val (.int p0), .val (.int p1), .val (.int p2), .unset, .unset, .unset, .unset, .unset] [(.int (4449 : Int32)), (.int (19 : Int32)), (.int (4352 : Int32)), (.int (44032 : Int32)), (.ref b1), (.ref b1)])) _
  refine XS.bipush X1.here hx rfl (hb hby at_14) ?_
  show Steps p.tables e below (T1.setTop (mkF m 16 #[.val (.int p0), .val (.int p1), .val (.int p2), .unset, .unset, .unset, .unset, .unset] [(.int (21 : Int32)), (.int (4449 : Int32)), (.int (19 : Int32)), (.int (4352 : Int32)), (.int (44032 : Int32)), (.ref b1), (.ref b1)])) _
  refine XS.sipush X1.here hx rfl (hb hby at_16) ?_
  show Steps p.tables e below (T1.setTop (mkF m 19 #[.val (.int p0), .val (.int p1), .val (.int p2), .unset, .unset, .unset, .unset, .unset] [(.int (4520 : Int32)), (.int (21 : Int32)), (.int (4449 : Int32)), (.int (19 : Int32)), (.int (4352 : Int32)), (.int (44032 : Int32)), (.ref b1), (.ref b1)])) _
  refine XS.bipush X1.here hx rfl (hb hby at_19) ?_
  show Steps p.tables e below (T1.setTop (mkF m 21 #[.val (.int p0), .val (.int p1), .val (.int p2), .unset, .unset, .unset, .unset, .unset] [(.int (27 : Int32)), (.int (4520 : Int32)), (.int (21 : Int32)), (.int (4449 : Int32)), (.int (19 : Int32)), (.int (4352 : Int32)), (.int (44032 : Int32)), (.ref b1), (.ref b1)])) _
  refine st2.trans ?_
  show Steps p.tables e below (T2.setTop (mkF m 24 #[.val (.int p0), .val (.int p1), .val (.int p2), .unset, .unset, .unset, .unset, .unset] [(.ref b1)])) _
  refine XS.astoreN X2.here hx rfl (hb hby at_24) rfl rfl (l' := #[.val (.int p0), .val (.int p1), .val (.int p2), .val (.ref b1), .unset, .unset, .unset, .unset]) rfl ?_
  show Steps p.tables e below (T2.setTop (mkF m 25 #[.val (.int p0), .val (.int p1), .val (.int p2), .val (.ref b1), .unset, .unset, .unset, .unset] [])) _
  refine XS.iloadN X2.here hx rfl (hb hby at_25) rfl ?_
  show Steps p.tables e below (T2.setTop (mkF m 26 #[.val (.int p0), .val (.int p1), .val (.int p2), .val (.ref b1), .unset, .unset, .unset, .unset] [(.int p2)])) _
  refine XS.iconst X2.here hx rfl (hb hby at_26) ?_
  show Steps p.tables e below (T2.setTop (mkF m 27 #[.val (.int p0), .val (.int p1), .val (.int p2), .val (.ref b1), .unset, .unset, .unset, .unset] [(.int (3 : Int32)), (.int p2)])) _
  refine XS.iand X2.here hx rfl (hb hby at_27) rfl ?_
  show Steps p.tables e below (T2.setTop (mkF m 28 #[.val (.int p0), .val (.int p1), .val (.int p2), .val (.ref b1), .unset, .unset, .unset, .unset] [(.int (p2 &&& (3 : Int32)))])) _
  refine XS.istore X2.here hx rfl (hb hby at_28) rfl (l' := #[.val (.int p0), .val (.int p1), .val (.int p2), .val (.ref b1), .val (.int (p2 &&& (3 : Int32))), .unset, .unset, .unset]) rfl ?_
  show Steps p.tables e below (T2.setTop (mkF m 30 #[.val (.int p0), .val (.int p1), .val (.int p2), .val (.ref b1), .val (.int (p2 &&& (3 : Int32))), .unset, .unset, .unset] [])) _
  refine XS.iloadN X2.here hx rfl (hb hby at_30) rfl ?_
  show Steps p.tables e below (T2.setTop (mkF m 31 #[.val (.int p0), .val (.int p1), .val (.int p2), .val (.ref b1), .val (.int (p2 &&& (3 : Int32))), .unset, .unset, .unset] [(.int p2)])) _
  refine XS.iconst X2.here hx rfl (hb hby at_31) ?_
  show Steps p.tables e below (T2.setTop (mkF m 32 #[.val (.int p0), .val (.int p1), .val (.int p2), .val (.ref b1), .val (.int (p2 &&& (3 : Int32))), .unset, .unset, .unset] [(.int (2 : Int32)), (.int p2)])) _
  refine XS.iushr X2.here hx rfl (hb hby at_32) rfl ?_
  show Steps p.tables e below (T2.setTop (mkF m 33 #[.val (.int p0), .val (.int p1), .val (.int p2), .val (.ref b1), .val (.int (p2 &&& (3 : Int32))), .unset, .unset, .unset] [(.int ((p2.toUInt32 >>> ((2 : Int32) &&& 31).toUInt32).toInt32))])) _
  refine XS.iconst X2.here hx rfl (hb hby at_33) ?_
  show Steps p.tables e below (T2.setTop (mkF m 34 #[.val (.int p0), .val (.int p1), .val (.int p2), .val (.ref b1), .val (.int (p2 &&& (3 : Int32))), .unset, .unset, .unset] [(.int (3 : Int32)), (.int ((p2.toUInt32 >>> ((2 : Int32) &&& 31).toUInt32).toInt32))])) _
  refine XS.iand X2.here hx rfl (hb hby at_34) rfl ?_
  show Steps p.tables e below (T2.setTop (mkF m 35 #[.val (.int p0), .val (.int p1), .val (.int p2), .val (.ref b1), .val (.int (p2 &&& (3 : Int32))), .unset, .unset, .unset] [(.int (((p2.toUInt32 >>> ((2 : Int32) &&& 31).toUInt32).toInt32) &&& (3 : Int32)))])) _
  refine XS.istore X2.here hx rfl (hb hby at_35) rfl (l' := #[.val (.int p0), .val (.int p1), .val (.int p2), .val (.ref b1), .val (.int (p2 &&& (3 : Int32))), .val (.int (((p2.toUInt32 >>> ((2 : Int32) &&& 31).toUInt32).toInt32) &&& (3 : Int32))), .unset, .unset]) rfl ?_
  show Steps p.tables e below (T2.setTop (mkF m 37 #[.val (.int p0), .val (.int p1), .val (.int p2), .val (.ref b1), .val (.int (p2 &&& (3 : Int32))), .val (.int (((p2.toUInt32 >>> ((2 : Int32) &&& 31).toUInt32).toInt32) &&& (3 : Int32))), .unset, .unset] [])) _
  refine b0s_37 X2 hx hZ hw hby hown p0 p1 p2 b1 (p2 &&& (3 : Int32)) (((p2.toUInt32 >>> ((2 : Int32) &&& 31).toUInt32).toInt32) &&& (3 : Int32)) _ ?_
  show Steps p.tables e below (T2.setTop (mkF m 83 #[.val (.int p0), .val (.int p1), .val (.int p2), .val (.ref b1), .val (.int (p2 &&& (3 : Int32))), .val (.int (((p2.toUInt32 >>> ((2 : Int32) &&& 31).toUInt32).toInt32) &&& (3 : Int32))), .val (.int (F0s_37 p0 (p2 &&& (3 : Int32)))), .unset] [])) _
  refine b0s_83 X2 hx hZ hw hby hown p0 p1 p2 b1 (p2 &&& (3 : Int32)) (((p2.toUInt32 >>> ((2 : Int32) &&& 31).toUInt32).toInt32) &&& (3 : Int32)) (F0s_37 p0 (p2 &&& (3 : Int32))) _ ?_
  show Steps p.tables e below (T2.setTop (mkF m 129 #[.val (.int p0), .val (.int p1), .val (.int p2), .val (.ref b1), .val (.int (p2 &&& (3 : Int32))), .val (.int (((p2.toUInt32 >>> ((2 : Int32) &&& 31).toUInt32).toInt32) &&& (3 : Int32))), .val (.int (F0s_37 p0 (p2 &&& (3 : Int32)))), .val (.int (F0s_83 p1 (((p2.toUInt32 >>> ((2 : Int32) &&& 31).toUInt32).toInt32) &&& (3 : Int32))))] [])) _
  refine XS.aloadN X2.here hx rfl (hb hby at_129) rfl rfl ?_
  show Steps p.tables e below (T2.setTop (mkF m 130 #[.val (.int p0), .val (.int p1), .val (.int p2), .val (.ref b1), .val (.int (p2 &&& (3 : Int32))), .val (.int (((p2.toUInt32 >>> ((2 : Int32) &&& 31).toUInt32).toInt32) &&& (3 : Int32))), .val (.int (F0s_37 p0 (p2 &&& (3 : Int32)))), .val (.int (F0s_83 p1 (((p2.toUInt32 >>> ((2 : Int32) &&& 31).toUInt32).toInt32) &&& (3 : Int32))))] [(.ref b1)])) _
  refine XS.iload X2.here hx rfl (hb hby at_130) rfl ?_
  show Steps p.tables e below (T2.setTop (mkF m 132 #[.val (.int p0), .val (.int p1), .val (.int p2), .val (.ref b1), .val (.int (p2 &&& (3 : Int32))), .val (.int (((p2.toUInt32 >>> ((2 : Int32) &&& 31).toUInt32).toInt32) &&& (3 : Int32))), .val (.int (F0s_37 p0 (p2 &&& (3 : Int32)))), .val (.int (F0s_83 p1 (((p2.toUInt32 >>> ((2 : Int32) &&& 31).toUInt32).toInt32) &&& (3 : Int32))))] [(.int (F0s_37 p0 (p2 &&& (3 : Int32)))), (.ref b1)])) _
  refine XS.iload X2.here hx rfl (hb hby at_132) rfl ?_
  show Steps p.tables e below (T2.setTop (mkF m 134 #[.val (.int p0), .val (.int p1), .val (.int p2), .val (.ref b1), .val (.int (p2 &&& (3 : Int32))), .val (.int (((p2.toUInt32 >>> ((2 : Int32) &&& 31).toUInt32).toInt32) &&& (3 : Int32))), .val (.int (F0s_37 p0 (p2 &&& (3 : Int32)))), .val (.int (F0s_83 p1 (((p2.toUInt32 >>> ((2 : Int32) &&& 31).toUInt32).toInt32) &&& (3 : Int32))))] [(.int (F0s_83 p1 (((p2.toUInt32 >>> ((2 : Int32) &&& 31).toUInt32).toInt32) &&& (3 : Int32)))), (.int (F0s_37 p0 (p2 &&& (3 : Int32)))), (.ref b1)])) _
  refine st3.trans ?_
  show Steps p.tables e below (T3.setTop (mkF m 137 #[.val (.int p0), .val (.int p1), .val (.int p2), .val (.ref b1), .val (.int (p2 &&& (3 : Int32))), .val (.int (((p2.toUInt32 >>> ((2 : Int32) &&& 31).toUInt32).toInt32) &&& (3 : Int32))), .val (.int (F0s_37 p0 (p2 &&& (3 : Int32)))), .val (.int (F0s_83 p1 (((p2.toUInt32 >>> ((2 : Int32) &&& 31).toUInt32).toInt32) &&& (3 : Int32))))] [(.int (F3_0 (F0s_37 p0 (p2 &&& (3 : Int32))) (F0s_83 p1 (((p2.toUInt32 >>> ((2 : Int32) &&& 31).toUInt32).toInt32) &&& (3 : Int32)))))])) _
  refine XS.iload X3.here hx rfl (hb hby at_137) rfl ?_
  show Steps p.tables e below (T3.setTop (mkF m 139 #[.val (.int p0), .val (.int p1), .val (.int p2), .val (.ref b1), .val (.int (p2 &&& (3 : Int32))), .val (.int (((p2.toUInt32 >>> ((2 : Int32) &&& 31).toUInt32).toInt32) &&& (3 : Int32))), .val (.int (F0s_37 p0 (p2 &&& (3 : Int32)))), .val (.int (F0s_83 p1 (((p2.toUInt32 >>> ((2 : Int32) &&& 31).toUInt32).toInt32) &&& (3 : Int32))))] [(.int (F0s_37 p0 (p2 &&& (3 : Int32)))), (.int (F3_0 (F0s_37 p0 (p2 &&& (3 : Int32))) (F0s_83 p1 (((p2.toUInt32 >>> ((2 : Int32) &&& 31).toUInt32).toInt32) &&& (3 : Int32)))))])) _
  refine XS.iload X3.here hx rfl (hb hby at_139) rfl ?_
  show Steps p.tables e below (T3.setTop (mkF m 141 #[.val (.int p0), .val (.int p1), .val (.int p2), .val (.ref b1), .val (.int (p2 &&& (3 : Int32))), .val (.int (((p2.toUInt32 >>> ((2 : Int32) &&& 31).toUInt32).toInt32) &&& (3 : Int32))), .val (.int (F0s_37 p0 (p2 &&& (3 : Int32)))), .val (.int (F0s_83 p1 (((p2.toUInt32 >>> ((2 : Int32) &&& 31).toUInt32).toInt32) &&& (3 : Int32))))] [(.int (F0s_83 p1 (((p2.toUInt32 >>> ((2 : Int32) &&& 31).toUInt32).toInt32) &&& (3 : Int32)))), (.int (F0s_37 p0 (p2 &&& (3 : Int32)))), (.int (F3_0 (F0s_37 p0 (p2 &&& (3 : Int32))) (F0s_83 p1 (((p2.toUInt32 >>> ((2 : Int32) &&& 31).toUInt32).toInt32) &&& (3 : Int32)))))])) _
  refine st4 _ ?_
  show Steps p.tables e below (T4.setTop (mkF m 144 #[.val (.int p0), .val (.int p1), .val (.int p2), .val (.ref b1), .val (.int (p2 &&& (3 : Int32))), .val (.int (((p2.toUInt32 >>> ((2 : Int32) &&& 31).toUInt32).toInt32) &&& (3 : Int32))), .val (.int (F0s_37 p0 (p2 &&& (3 : Int32)))), .val (.int (F0s_83 p1 (((p2.toUInt32 >>> ((2 : Int32) &&& 31).toUInt32).toInt32) &&& (3 : Int32))))] [(.int (F4_0 (F0s_37 p0 (p2 &&& (3 : Int32))) (F0s_83 p1 (((p2.toUInt32 >>> ((2 : Int32) &&& 31).toUInt32).toInt32) &&& (3 : Int32))))), (.int (F3_0 (F0s_37 p0 (p2 &&& (3 : Int32))) (F0s_83 p1 (((p2.toUInt32 >>> ((2 : Int32) &&& 31).toUInt32).toInt32) &&& (3 : Int32)))))])) _
  refine XS.icmpNo X4.here hx rfl (hb hby at_144) rfl (teq (own_same _ _)).2 ?_
  show Steps p.tables e below (T4.setTop (mkF m 147 #[.val (.int p0), .val (.int p1), .val (.int p2), .val (.ref b1), .val (.int (p2 &&& (3 : Int32))), .val (.int (((p2.toUInt32 >>> ((2 : Int32) &&& 31).toUInt32).toInt32) &&& (3 : Int32))), .val (.int (F0s_37 p0 (p2 &&& (3 : Int32)))), .val (.int (F0s_83 p1 (((p2.toUInt32 >>> ((2 : Int32) &&& 31).toUInt32).toInt32) &&& (3 : Int32))))] [])) _
  refine XS.iconst X4.here hx rfl (hb hby at_147) ?_
  show Steps p.tables e below (T4.setTop (mkF m 148 #[.val (.int p0), .val (.int p1), .val (.int p2), .val (.ref b1), .val (.int (p2 &&& (3 : Int32))), .val (.int (((p2.toUInt32 >>> ((2 : Int32) &&& 31).toUInt32).toInt32) &&& (3 : Int32))), .val (.int (F0s_37 p0 (p2 &&& (3 : Int32)))), .val (.int (F0s_83 p1 (((p2.toUInt32 >>> ((2 : Int32) &&& 31).toUInt32).toInt32) &&& (3 : Int32))))] [(.int (1 : Int32))])) _
  refine XS.goto X4.here hx rfl (pc0 := 148) (pc' := 152) rfl (hb hby at_148) (by decide) (by decide) ?_
  show Steps p.tables e below (T4.setTop (mkF m 152 #[.val (.int p0), .val (.int p1), .val (.int p2), .val (.ref b1), .val (.int (p2 &&& (3 : Int32))), .val (.int (((p2.toUInt32 >>> ((2 : Int32) &&& 31).toUInt32).toInt32) &&& (3 : Int32))), .val (.int (F0s_37 p0 (p2 &&& (3 : Int32)))), .val (.int (F0s_83 p1 (((p2.toUInt32 >>> ((2 : Int32) &&& 31).toUInt32).toInt32) &&& (3 : Int32))))] [(.int (1 : Int32))])) _
  exact retN X4 hx (t := .boolean) Bd.returns (by simp) (hb hby at_152) hr
set_option maxRecDepth 65536 in
set_option maxHeartbeats 40000000 in
theorem comes_1 {Post : Tables → Env → Array Value → State → Outcome → State → Prop} (hpost : ∀ tb e args s v u, (limb_1_1.after args s (.returned v) u = true ∧ limb_1_2.after args s (.returned v) u = true ∧ True) → FrameEnd s (.returned v) u (Jvm.fieldLocs frame_1_writes args s ++ Jvm.arrayLocs frame_1_arrays args s ++ Jvm.staticLocs frame_1_statics s) 16 128 → Post tb e args s (.returned v) u) :
    ArmFor flags0 classFile x code maxLocals ret World_1 tables_1 room_1 Calls_1 rest_1 Pre_1 Post := by
  intro l hfl _ _ p e ha hc hk s m args below hf hA hF happ hP
  obtain ⟨hcalls, hrest, hpre⟩ := hP
  obtain ⟨-, -, -, hnamed, -, -, -, hat⟩ := (Spec.applies_iff hf).mp happ
  obtain ⟨hg, hn⟩ := and_e (Cond.before_iff.mp (show (Jvm.Cond.and given_1 narrow_1).before args s = true from hpre))
  obtain ⟨gc, g0⟩ := and_e hg
  obtain ⟨k0, g1⟩ := and_e g0
  obtain ⟨k1, g2⟩ := and_e g1
  have k2 := g2
  obtain ⟨w0, w1, w2, rfl⟩ : ∃ w0 w1 w2 : Value, args = #[w0, w1, w2] := by
    have hs : args.size = 3 := by simpa [Cond.value, given_1] using gc
    obtain ⟨L⟩ := args
    match L, hs with
    | [w0, w1, w2], _ => exact ⟨w0, w1, w2, rfl⟩
  have hw := fun d (hd : d ∈ tables_1) => atoms_spec (ws := Jvm.Cond.code x code maxLocals ret :: tables_1) hat d (List.mem_cons_of_mem _ hd)
  obtain ⟨i0, ei0⟩ := is_v k0
  obtain rfl : w0 = (.int i0) := Option.some.inj ei0
  obtain ⟨i1, ei1⟩ := is_v k1
  obtain rfl : w1 = (.int i1) := Option.some.inj ei1
  obtain ⟨i2, ei2⟩ := is_v k2
  obtain rfl : w2 = (.int i2) := Option.some.inj ei2
  obtain ⟨n, o, h1, h2, h3, _, L, rfl, ⟨rfl, N⟩, hq⟩ := rm0 l s _ hw tables_1 i0 i1 i2 s.heap s.heap.size (Nat.le_refl _) p e ha hc hk s m _ below hf ((Spec.applies_iff_loose hf).mp happ).1 ⟨rfl, State.Warmed39.refl s, rfl⟩ trivial
  refine ⟨n, _, h1, h2, h3, hpost _ _ _ _ _ _ ⟨Cond.after_iff.mpr rfl, Cond.after_iff.mpr (eq_i res_at (Term.int_eval (1)) rfl), trivial⟩ ⟨hq.1, hq.2.1, (hq.2.2.sift fun y hy => Or.inr (N y hy)).mono (by decide) (by decide)⟩⟩
theorem main_1_1 : Claimed_1_1 := comes_1 fun _ _ _ _ _ _ h hF => ⟨h.1, hF⟩
theorem main_1_2 : Claimed_1_2 := comes_1 fun _ _ _ _ _ _ h hF => ⟨h.2.1, hF⟩
end Jvm.Pilot.@@N@@
namespace Jvm.Pilot.@@N@@
open Jvm Jvm.ClassFile Sem Op Lib Jvm.Free Jvm.Stand Jvm.Pilot.@@N@@.Jvm.D
/-! MADE BY PROGRAM (witnessworld.py) out of the Statement's table words and the real class files: 9 classes; the members and pool entries that the words name. The judged class is class 1, her method 1. -/
namespace start1
open Jvm.ClassFile
def u (s : String) : CpInfo := .utf8 (stringToUtf16 s)
/-- a pool by its gaps: so many unusable entries, then the entry; so many at the end -/
def gap : Nat → List CpInfo → List CpInfo
  | 0, r => r
  | n + 1, r => .unusable :: gap n r
def poolList (es : List (Nat × CpInfo)) (last : Nat) : List CpInfo := es.foldr (fun e r => gap e.1 (e.2 :: r)) (gap last [])
def pool (es : List (Nat × CpInfo)) (last : Nat) : Array CpInfo := ⟨poolList es last⟩
def fileOf (pool : Array CpInfo) (this : Nat) (attrs : Array Attribute := #[]) (ms : Array MethodInfo := #[]) (fl : Nat := 33) (sup : Nat := 0) (ifs : Array Nat := #[]) (fds : Array FieldInfo := #[]) : ClassFile where
  minorVersion := 0
  majorVersion := 65
  constantPool := pool
  accessFlags := fl
  thisClass := this
  superClass := sup
  interfaces := ifs
  fields := fds
  methods := ms
  attributes := attrs
def plain (name : String) (sup : Option ClassId) : Class where
  name := name
  kind := .ordinary
  loader := none
  accessFlags := 33
  super := sup
  interfaces := #[]
  cf := none
  fields := #[]
  methods := #[]
  instanceTypes := #[]
  staticTypes := #[]
  resolved := #[]
  callSites := []
  init := .initialized
  statics := none
  mirror := none

def pool0 : Array CpInfo := pool [(5, u "<init>"), (0, u "()V"), (1, .class_ 10), (1, u "java/lang/Object")] 113

def k0c0 : Code := { maxStack := 0, maxLocals := 1, code := object_method_1_code, exceptionTable := #[], attributes := #[] }
def k0m0 : Method := { name := "<init>", desc := "()V", sig := { parameters := [], returnType := none }, accessFlags := 1, code := some k0c0 }
/-- java/lang/Object -/
def k0 : Class := { plain "java/lang/Object" none with
  accessFlags := 33
  interfaces := #[]
  cf := some (fileOf pool0 8 #[] #[{ accessFlags := 1, nameIndex := 5, descriptorIndex := 6, attributes := #[] }] 33 0 #[] #[])
  fields := #[]
  methods := #[k0m0]
  instanceTypes := #[]
  staticTypes := #[]
  resolved := Array.replicate 124 none
  statics := none }

def pool1 : Array CpInfo := pool [(2, .class_ 4), (1, u "java/lang/Object"), (0, u "<init>"), (0, u "()V"), (0, .class_ 8), (0, u "com/example/kent_ridge/kentridge/HangulSyllables"), (0, .integer 44032), (0, .methodref 7 11), (0, .nameAndType 5 12), (0, u "(IIIIIII)V"), (0, .integer 2147483647), (0, .integer 44031), (0, .methodref 7 16), (0, .nameAndType 17 18), (0, u "compose"), (0, u "(II)I"), (0, .methodref 20 21), (0, .class_ 22), (0, .nameAndType 23 18), (0, u "com/example/kent_ridge/kentridge/HangulSyllablesComposePinLaw"), (0, u "expected"), (0, .integer 55203), (2, u "law"), (0, u "(III)Z")] 3

def k1m0 : Method := { name := "<init>", desc := "()V", sig := { parameters := [], returnType := none }, accessFlags := 1, code := none }
def k1c1 : Code := { maxStack := 9, maxLocals := 8, code := code, exceptionTable := #[], attributes := #[] }
def k1m1 : Method := { name := "law", desc := "(III)Z", sig := { parameters := [.int, .int, .int], returnType := some .boolean }, accessFlags := 9, code := some k1c1 }
def k1c2 : Code := { maxStack := 3, maxLocals := 6, code := method_3_code, exceptionTable := #[], attributes := #[] }
def k1m2 : Method := { name := "expected", desc := "(II)I", sig := { parameters := [.int, .int], returnType := some .int }, accessFlags := 10, code := some k1c2 }
/-- com/example/kent_ridge/kentridge/HangulSyllablesComposePinLaw -/
def k1 : Class := { plain "com/example/kent_ridge/kentridge/HangulSyllablesComposePinLaw" (some 0) with
  accessFlags := 49
  interfaces := #[]
  cf := some (fileOf pool1 20 #[] #[{ accessFlags := 1, nameIndex := 5, descriptorIndex := 6, attributes := #[] }, { accessFlags := 9, nameIndex := 27, descriptorIndex := 28, attributes := #[] }, { accessFlags := 10, nameIndex := 23, descriptorIndex := 18, attributes := #[] }] 49 2 #[] #[])
  fields := #[]
  methods := #[k1m0, k1m1, k1m2]
  instanceTypes := #[]
  staticTypes := #[]
  resolved := Array.replicate 32 none
  statics := none }

def pool2 : Array CpInfo := pool [(1, .methodref 2 3), (0, .class_ 4), (0, .nameAndType 5 6), (0, u "java/lang/Object"), (0, u "<init>"), (0, u "()V"), (0, .fieldref 8 9), (0, .class_ 10), (0, .nameAndType 11 12), (0, u "com/example/kent_ridge/kentridge/HangulSyllables"), (0, u "firstSyllable"), (0, u "I"), (0, .fieldref 8 14), (0, .nameAndType 15 12), (0, u "firstLead"), (0, .fieldref 8 17), (0, .nameAndType 18 12), (0, u "leadCount"), (0, .fieldref 8 20), (0, .nameAndType 21 12), (0, u "firstVowel"), (0, .fieldref 8 23), (0, .nameAndType 24 12), (0, u "vowelCount"), (0, .fieldref 8 26), (0, .nameAndType 27 12), (0, u "firstTrail"), (0, .fieldref 8 29), (0, .nameAndType 30 12), (0, u "trailCount"), (0, .fieldref 8 32), (0, .nameAndType 33 12), (0, u "trailStates"), (0, .fieldref 8 35), (0, .nameAndType 36 12), (0, u "syllableCount"), (46, u "RUNS"), (0, u "Ljava/util/List;"), (50, u "(IIIIIII)V"), (45, u "LEADS"), (0, u "Ljava/lang/String;"), (1, u "VOWELS"), (0, u "TRAILS"), (0, u "SYLLABLES"), (12, u "compose"), (0, u "(II)I")] 19

def k2c0 : Code := { maxStack := 3, maxLocals := 8, code := prog_18_method_1_code, exceptionTable := #[], attributes := #[] }
def k2m0 : Method := { name := "<init>", desc := "(IIIIIII)V", sig := { parameters := [.int, .int, .int, .int, .int, .int, .int], returnType := none }, accessFlags := 0, code := some k2c0 }
def k2c1 : Code := { maxStack := 3, maxLocals := 8, code := prog_18_method_6_code, exceptionTable := #[], attributes := #[] }
def k2m1 : Method := { name := "compose", desc := "(II)I", sig := { parameters := [.int, .int], returnType := some .int }, accessFlags := 0, code := some k2c1 }
/-- com/example/kent_ridge/kentridge/HangulSyllables -/
def k2 : Class := { plain "com/example/kent_ridge/kentridge/HangulSyllables" (some 0) with
  accessFlags := 48
  interfaces := #[]
  cf := some (fileOf pool2 8 #[] #[{ accessFlags := 0, nameIndex := 5, descriptorIndex := 135, attributes := #[] }, { accessFlags := 0, nameIndex := 199, descriptorIndex := 200, attributes := #[] }] 48 2 #[] #[{ accessFlags := 24, nameIndex := 181, descriptorIndex := 182, attributes := #[] }, { accessFlags := 24, nameIndex := 184, descriptorIndex := 182, attributes := #[] }, { accessFlags := 24, nameIndex := 185, descriptorIndex := 182, attributes := #[] }, { accessFlags := 24, nameIndex := 186, descriptorIndex := 182, attributes := #[] }, { accessFlags := 26, nameIndex := 83, descriptorIndex := 84, attributes := #[] }, { accessFlags := 18, nameIndex := 11, descriptorIndex := 12, attributes := #[] }, { accessFlags := 18, nameIndex := 15, descriptorIndex := 12, attributes := #[] }, { accessFlags := 18, nameIndex := 18, descriptorIndex := 12, attributes := #[] }, { accessFlags := 18, nameIndex := 21, descriptorIndex := 12, attributes := #[] }, { accessFlags := 18, nameIndex := 24, descriptorIndex := 12, attributes := #[] }, { accessFlags := 18, nameIndex := 27, descriptorIndex := 12, attributes := #[] }, { accessFlags := 18, nameIndex := 30, descriptorIndex := 12, attributes := #[] }, { accessFlags := 18, nameIndex := 33, descriptorIndex := 12, attributes := #[] }, { accessFlags := 18, nameIndex := 36, descriptorIndex := 12, attributes := #[] }])
  fields := #[{ name := "LEADS", type := (.object "java/lang/String"), accessFlags := 24, slot := 0, constantValue := 0 }, { name := "VOWELS", type := (.object "java/lang/String"), accessFlags := 24, slot := 1, constantValue := 0 }, { name := "TRAILS", type := (.object "java/lang/String"), accessFlags := 24, slot := 2, constantValue := 0 }, { name := "SYLLABLES", type := (.object "java/lang/String"), accessFlags := 24, slot := 3, constantValue := 0 }, { name := "RUNS", type := (.object "java/util/List"), accessFlags := 26, slot := 4, constantValue := 0 }, { name := "firstSyllable", type := .int, accessFlags := 18, slot := 0, constantValue := 0 }, { name := "firstLead", type := .int, accessFlags := 18, slot := 1, constantValue := 0 }, { name := "leadCount", type := .int, accessFlags := 18, slot := 2, constantValue := 0 }, { name := "firstVowel", type := .int, accessFlags := 18, slot := 3, constantValue := 0 }, { name := "vowelCount", type := .int, accessFlags := 18, slot := 4, constantValue := 0 }, { name := "firstTrail", type := .int, accessFlags := 18, slot := 5, constantValue := 0 }, { name := "trailCount", type := .int, accessFlags := 18, slot := 6, constantValue := 0 }, { name := "trailStates", type := .int, accessFlags := 18, slot := 7, constantValue := 0 }, { name := "syllableCount", type := .int, accessFlags := 18, slot := 8, constantValue := 0 }]
  methods := #[k2m0, k2m1]
  instanceTypes := #[.int, .int, .int, .int, .int, .int, .int, .int, .int]
  staticTypes := #[(.object "java/lang/String"), (.object "java/lang/String"), (.object "java/lang/String"), (.object "java/lang/String"), (.object "java/util/List")]
  resolved := Array.replicate 220 none
  statics := none }

def pool3 : Array CpInfo := pool [(1, u "java/lang/Cloneable"), (0, .class_ 1), (0, u "java/lang/Object"), (0, .class_ 3)] 3

/-- java/lang/Cloneable -/
def k3 : Class := { plain "java/lang/Cloneable" (some 0) with
  accessFlags := 1537
  interfaces := #[]
  cf := some (fileOf pool3 2 #[] #[] 1537 4 #[] #[])
  fields := #[]
  methods := #[]
  instanceTypes := #[]
  staticTypes := #[]
  resolved := Array.replicate 8 none
  statics := none }

def pool4 : Array CpInfo := pool [(1, u "java/io/Serializable"), (0, .class_ 1), (0, u "java/lang/Object"), (0, .class_ 3)] 3

/-- java/io/Serializable -/
def k4 : Class := { plain "java/io/Serializable" (some 0) with
  accessFlags := 1537
  interfaces := #[]
  cf := some (fileOf pool4 2 #[] #[] 1537 4 #[] #[])
  fields := #[]
  methods := #[]
  instanceTypes := #[]
  staticTypes := #[]
  resolved := Array.replicate 8 none
  statics := none }

/-- the primitive byte -/
def k5 : Class := { plain "byte" none with kind := .primitive 'B', accessFlags := 0x411 }
/-- [B -/
def k6 : Class := { plain "[B" (some 0) with kind := .array 5 .byte, interfaces := #[3, 4], accessFlags := 1041 }

/-- the primitive int -/
def k7 : Class := { plain "int" none with kind := .primitive 'I', accessFlags := 0x411 }
/-- [I -/
def k8 : Class := { plain "[I" (some 0) with kind := .array 7 .int, interfaces := #[3, 4], accessFlags := 1041 }

def heap : Heap := #[]
def classes : Array Class := #[k0, k1, k2, k3, k4, k5, k6, k7, k8]
def interned : List (Array UInt16 × Addr) := []
def slotsUsed : Nat := 0
def theMethod : MethodId := ⟨1, 1⟩
def args0 : Array Value := #[.int 5, .int 5, .int 5]
def aboutOver (below : List Frame) : State where
  vm := { classes := classes, interned := interned.toArray }
  heap := heap
  slotsUsed := slotsUsed
  threads := #[{ frames := .invoking theMethod args0 :: below }]
def below0 : List Frame := [.native { method := ⟨0, 0⟩, args := #[] }]
def about1 : State := aboutOver below0
def p0 : Program := .bare "" "" ""
def e0 : Env := launch0.env 0 0 0
theorem w_frames : about1.frames = Frame.invoking theMethod args0 :: below0 := rfl
set_option maxRecDepth 65536 in
theorem w_args : argsFit about1.vm theMethod args0 = true := by decide +kernel
set_option maxRecDepth 65536 in
theorem w_heap : heapFits about1 = true := by decide +kernel
set_option maxRecDepth 65536 in
theorem w_runnable : about1.curStatus? = some .runnable := by decide +kernel
set_option maxRecDepth 65536 in
theorem w_alone : about1.alone = true := by decide +kernel
set_option maxRecDepth 65536 in
theorem w_named : about1.methodNamed? x = some theMethod := by decide +kernel
set_option maxRecDepth 65536 in
theorem w_hears : about1.hears theMethod below0 = true := by decide +kernel
set_option maxRecDepth 65536 in
theorem w_ripe : about1.ripe theMethod args0 below0 = true := by decide +kernel
theorem w_running : about1.status = .running := rfl
set_option maxRecDepth 65536 in
theorem w_room : about1.hasRoom e0.platform room_1 = true :=
  launch0.hasRoom_least _ room_1 (by decide +kernel) (by decide +kernel) (by decide +kernel) (by decide +kernel) (by decide +kernel) (by decide +kernel)
theorem allAtoms_all (ts : List Jvm.Cond) (a : Array Jvm.Value) (st : Jvm.State) : (allAtoms ts).before a st = ts.all (fun c => c.before a st) := by
  induction ts with
  | nil => rfl
  | cons c t ih =>
    show (Jvm.Cond.and c (allAtoms t)).before a st = _
    rw [Jvm.Cond.before_and, ih, List.all_cons]
def words1 : List Jvm.Cond := Jvm.Cond.code x code maxLocals ret :: tables_1
/-- a 'code' word, met by the world's own term for the bytes: nothing is compared byte by byte -/
theorem code_word {y : MethodName} {bytes : ByteArray} {mx : Nat} {rt : Option FieldType} {a : Array Value} {s : State} {m : MethodId} {meth : Method} {c : Code} (h1 : s.methodNamed? y = some m) (h2 : s.vm.method? m = some meth) (h3 : meth.code = some c) (h4 : c.code = bytes)
    (h5 : (c.maxLocals == mx && c.exceptionTable.isEmpty && decide (c.maxStack ≤ mostOperands) && decide (meth.sig.returnType = rt) && !meth.locks && decide (parseMethodDescriptor y.desc = some meth.sig)) = true) : (Jvm.Cond.code y bytes mx rt).before a s = true := by
  simp only [Bool.and_eq_true, beq_iff_eq, Bool.not_eq_true', decide_eq_true_eq] at h5
  obtain ⟨⟨⟨⟨⟨g1, g2⟩, g3⟩, g4⟩, g5⟩, g6⟩ := h5
  simp [Cond.before, Cond.holds, Cond.value, h1, h2, h3, h4, g1, g2, g3, g4, g5, g6]
def isCode : Jvm.Cond → Bool
  | .code _ _ _ _ => true
  | _ => false
theorem all_split {L : List Jvm.Cond} {P : Jvm.Cond → Bool} (h1 : L.all (fun c => isCode c || P c) = true) (h2 : ∀ c ∈ L.filter isCode, P c = true) : L.all P = true := by
  refine List.all_eq_true.mpr fun c hc => ?_
  have h := List.all_eq_true.mp h1 c hc
  rcases Bool.eq_false_or_eq_true (isCode c) with hi | hi
  · exact h2 c (List.mem_filter.mpr ⟨hc, hi⟩)
  · simpa [hi] using h
set_option maxRecDepth 65536 in
theorem w_c0 : (Jvm.Cond.code x code maxLocals ret).before args0 about1 = true := code_word (m := ⟨1, 1⟩) (meth := k1m1) (c := k1c1) (by decide +kernel) rfl rfl rfl (by decide +kernel)
set_option maxRecDepth 65536 in
theorem w_c1 : (Jvm.Cond.code ({ cls := "com/example/kent_ridge/kentridge/HangulSyllables", name := "<init>", desc := "(IIIIIII)V" } : Jvm.MethodName) prog_18_method_1_code (8 : Nat) (Option.none : Option Jvm.ClassFile.FieldType)).before args0 about1 = true := code_word (m := ⟨2, 0⟩) (meth := k2m0) (c := k2c0) (by decide +kernel) rfl rfl rfl (by decide +kernel)
set_option maxRecDepth 65536 in
theorem w_c2 : (Jvm.Cond.code ({ cls := "java/lang/Object", name := "<init>", desc := "()V" } : Jvm.MethodName) object_method_1_code (1 : Nat) (Option.none : Option Jvm.ClassFile.FieldType)).before args0 about1 = true := code_word (m := ⟨0, 0⟩) (meth := k0m0) (c := k0c0) (by decide +kernel) rfl rfl rfl (by decide +kernel)
set_option maxRecDepth 65536 in
theorem w_c3 : (Jvm.Cond.code ({ cls := "com/example/kent_ridge/kentridge/HangulSyllables", name := "compose", desc := "(II)I" } : Jvm.MethodName) prog_18_method_6_code (8 : Nat) (Option.some Jvm.ClassFile.FieldType.int)).before args0 about1 = true := code_word (m := ⟨2, 1⟩) (meth := k2m1) (c := k2c1) (by decide +kernel) rfl rfl rfl (by decide +kernel)
set_option maxRecDepth 65536 in
theorem w_c4 : (Jvm.Cond.code ({ cls := "com/example/kent_ridge/kentridge/HangulSyllablesComposePinLaw", name := "expected", desc := "(II)I" } : Jvm.MethodName) method_3_code (6 : Nat) (Option.some Jvm.ClassFile.FieldType.int)).before args0 about1 = true := code_word (m := ⟨1, 2⟩) (meth := k1m2) (c := k1c2) (by decide +kernel) rfl rfl rfl (by decide +kernel)
def codes1 : List Jvm.Cond := [Jvm.Cond.code x code maxLocals ret, Jvm.Cond.code ({ cls := "com/example/kent_ridge/kentridge/HangulSyllables", name := "<init>", desc := "(IIIIIII)V" } : Jvm.MethodName) prog_18_method_1_code (8 : Nat) (Option.none : Option Jvm.ClassFile.FieldType), Jvm.Cond.code ({ cls := "java/lang/Object", name := "<init>", desc := "()V" } : Jvm.MethodName) object_method_1_code (1 : Nat) (Option.none : Option Jvm.ClassFile.FieldType), Jvm.Cond.code ({ cls := "com/example/kent_ridge/kentridge/HangulSyllables", name := "compose", desc := "(II)I" } : Jvm.MethodName) prog_18_method_6_code (8 : Nat) (Option.some Jvm.ClassFile.FieldType.int), Jvm.Cond.code ({ cls := "com/example/kent_ridge/kentridge/HangulSyllablesComposePinLaw", name := "expected", desc := "(II)I" } : Jvm.MethodName) method_3_code (6 : Nat) (Option.some Jvm.ClassFile.FieldType.int)]
set_option maxRecDepth 65536 in
theorem codes_eq : words1.filter isCode = codes1 := rfl
theorem w_codes : ∀ c ∈ words1.filter isCode, c.before args0 about1 = true := by
  rw [codes_eq]
  intro c hc
  simp only [codes1, List.mem_cons, List.not_mem_nil, or_false] at hc
  rcases hc with rfl | rfl | rfl | rfl | rfl
  · exact w_c0
  · exact w_c1
  · exact w_c2
  · exact w_c3
  · exact w_c4
set_option maxRecDepth 65536 in
theorem w_t1 : (words1.take 24).all (fun c => isCode c || c.before args0 about1) = true := by decide +kernel
set_option maxRecDepth 65536 in
theorem w_t2 : (words1.drop 24).all (fun c => isCode c || c.before args0 about1) = true := by decide +kernel
theorem w_tables : (allAtoms (Jvm.Cond.code x code maxLocals ret :: tables_1)).before args0 about1 = true := by
  rw [allAtoms_all]
  show words1.all (fun c => c.before args0 about1) = true
  refine all_split ?_ w_codes
  rw [← List.take_append_drop 24 words1, List.all_append, w_t1, w_t2]
  rfl
set_option maxRecDepth 65536 in
theorem w_case : (Jvm.Cond.and given_1 narrow_1).before args0 about1 = true := by decide +kernel
theorem w_applies : (headSpec (Jvm.Cond.code x code maxLocals ret :: tables_1) room_1).applies x e0.platform about1 = true :=
  (Spec.applies_iff w_frames).mpr ⟨w_running, w_runnable, w_alone, w_named, w_hears, w_ripe, w_room, w_tables⟩
theorem atStart : AtStart classFile x code maxLocals ret World_1 tables_1 room_1 Calls_1 rest_1 Pre_1 launch0 p0 e0 about1 theMethod args0 below0 :=
  ⟨lists_1, trivial, launch0.admits_env _ _ _, launch0.least_env, fairChoices_fair.cas, fairChoices_fair.clock, w_frames, w_args, w_heap, w_applies, trivial, trivial, w_case⟩
end start1
theorem witness_1 : WitnessClaimed_1 := ⟨start1.p0, start1.e0, start1.about1, start1.theMethod, start1.args0, start1.below0, start1.atStart⟩
end Jvm.Pilot.@@N@@
