import JvmDerived
import JvmDerived.Pilot.@@N@@Statement
import JvmDerived.Pilot.@@N@@Code
set_option linter.unusedVariables false
set_option linter.unusedSimpArgs false
namespace Jvm.RoadKit
open Sem ClassFile Op Lib Jvm.Stand Jvm.Free Jvm.LawKit
section New
variable {p : Program} {l : Launch} {e : Env} {R : Room} {s : State} {m : MethodId} {args : Array Value} {below : List Frame} {meth : Method} {c : Code} {T : State} {locs : List Loc} {cells slots : Nat}
theorem retI (X : Stand p l e R s m args below meth c T locs cells slots) (hx : p.tables.exec = Jvm.exec) {pc : Nat} {Ls : Array Slot} {z : Int32} {rest : List Value} (hret : meth.sig.returnType = some .int) (hd : decode c.code pc = .ok (.ireturn, 1)) {fs : List Frame}
    (hl : ∀ (f : JFrame) (acts : List Action), f.method = m → f.locked = none → f.entered = [] → (doReturn e (T.setTop f) acts (some (.int z))).1 = T.setFrames fs) : Steps p.tables e below (T.setTop (mkF m pc Ls (.int z :: rest))) (T.setFrames fs) := by
  have hm' : T.vm.method? m = some meth := X.method'
  have hn : narrow .int (.int z) = .int z := rfl
  show Steps p.tables e below (T.setTop { method := m, pc := pc, locals := Ls, stack := _ :: rest, locked := none }) _
  jvm_step X.here [X.here.top, hx, hd, hm', hret, hn]
  first | (intro acts; rw [hl _ acts rfl rfl rfl]) | rw [hl _ _ rfl rfl rfl]
  exact Steps.refl _
end New
end Jvm.RoadKit
namespace Jvm.Pilot.@@N@@
open Jvm Jvm.ClassFile Sem Op Lib Jvm.Free Jvm.Stand Jvm.LawKit Jvm.RoadKit Bundle Jvm.Pilot.@@N@@.Jvm.D
theorem pd0 : parseMethodDescriptor "(J)J" = some ⟨[.long], some .long⟩ := by decide +kernel
theorem pd1 : parseMethodDescriptor "([BI)J" = some ⟨[(.array .byte), .int], some .long⟩ := by decide +kernel
def ArrL (ty : FieldType) (Z : State) (h : Heap) (a : Addr) (vs : List Int32) : Prop := ∃ c : Cell, Arr Z h a c ty ∧ c.slots.size = vs.length ∧ ∀ i, i < vs.length → c.slots[i]? = some (.int (vs.getD i 0))
section OwnArrL
variable {p : Program} {l : Launch} {e : Env} {R : Room} {s : State} {m : MethodId} {args : Array Value} {below : List Frame} {meth : Method} {c : Code} {T : State} {locs : List Loc} {cells slots : Nat} {Z : State} {h h' : Heap} {a : Addr} {ty : FieldType} {vs : List Int32}
theorem ArrL.lt (V : ArrL ty Z h a vs) : a < h.size := by obtain ⟨c, A, -⟩ := V; exact A.lt
theorem ArrL.ext (V : ArrL ty Z h a vs) (E : Ext h h') : ArrL ty Z h' a vs := by obtain ⟨c, A, r⟩ := V; exact ⟨c, A.ext E, r⟩
theorem ArrL.other {b : Addr} {sl : Nat} {v : Value} (V : ArrL ty Z h a vs) (W : Wr h h' b sl v) (q : a ≠ b) : ArrL ty Z h' a vs := by obtain ⟨c, A, r⟩ := V; exact ⟨c, A.other W q, r⟩
theorem ArrL.keep {ws : List Addr} (V : ArrL ty Z h a vs) (K : Keep h h' ws) (q : a ∉ ws) : ArrL ty Z h' a vs := by obtain ⟨c, A, r⟩ := V; exact ⟨c, ⟨K.2.1 a c A.1 q, A.2⟩, r⟩
theorem ArrL.new {k : ClassId} {z : Int32} {n : Nat} (V : Arv Z h a k ty z [] (.int 0)) (hz : z.toNatClampNeg = n) : ArrL ty Z h a (List.replicate n 0) := by
  obtain ⟨c, A, -, S, -, H, -⟩ := V
  refine ⟨c, A, by rw [S, hz, List.length_replicate], fun i hi => ?_⟩
  rw [List.length_replicate] at hi
  rw [H i (by rw [S, hz]; exact hi)]
  simp [hi]
theorem ArrL.set {cl : Cell} {j : Nat} {v : Int32} (A : Arr Z h a cl ty) (S : cl.slots.size = vs.length) (H : ∀ i, i < vs.length → cl.slots[i]? = some (.int (vs.getD i 0))) (hj : j < vs.length) (W : Wr h h' a j (.int v)) : ArrL ty Z h' a (vs.set j v) := by
  refine ⟨_, A.same W, by rw [sz_set, List.length_set]; exact S, fun k hk => ?_⟩
  rw [List.length_set] at hk
  by_cases u : j = k
  · subst u; simp [Cell.setSlot, S, hk]
  · have q := H k hk
    simp only [Cell.setSlot]
    rw [Array.getElem?_setIfInBounds_ne u, q]
    simp [List.getD_eq_getElem?_getD, List.getElem?_set_ne u]
theorem own_al_in {cl : Cell} {n : Nat} {j : Int32} (S : cl.slots.size = n) (hj : ¬ j < 0) (hj2 : j.toNatClampNeg < n) : ¬ (j < 0 ∨ cl.slots.size ≤ j.toNatClampNeg) := by
  rw [S]; rintro (q | q)
  · exact hj q
  · omega
theorem own_al_stI (X : Stand p l e R s m args below meth c T locs cells slots) (hx : p.tables.exec = Jvm.exec) (hZ : Z.Warmed39 s.vm) (eT : T.heap = h) (V : ArrL .int Z h a vs) {i v : Int32} {g : JFrame} {rest : List Value} (hi : ¬ i < 0) (hi2 : i.toNatClampNeg < vs.length)
    (hg : g.method = m) (hs : g.stack = .int v :: .int i :: .ref a :: rest) (hd : decode c.code g.pc = .ok (.iastore, 1)) :
    ∃ T' h', Stand p l e R s m args below meth c T' (locs ++ [⟨a, i.toNatClampNeg⟩]) cells slots ∧ T'.heap = h' ∧ Wr h h' a i.toNatClampNeg (.int v) ∧ ArrL .int Z h' a (vs.set i.toNatClampNeg v) ∧ ∀ target, Steps p.tables e below (T'.setTop { g with pc := g.pc + 1, stack := rest }) target → Steps p.tables e below (T.setTop g) target := by
  obtain ⟨cl, A, S, H⟩ := V
  obtain ⟨T', h', X', e', W, st⟩ := stI X hx hZ eT A (own_al_in S hi hi2) hg hs hd
  exact ⟨T', h', X', e', W, ArrL.set A S H hi2 W, st⟩
theorem own_al_stB (X : Stand p l e R s m args below meth c T locs cells slots) (hx : p.tables.exec = Jvm.exec) (hZ : Z.Warmed39 s.vm) (eT : T.heap = h) (V : ArrL .byte Z h a vs) {i v : Int32} {g : JFrame} {rest : List Value} (hi : ¬ i < 0) (hi2 : i.toNatClampNeg < vs.length)
    (hg : g.method = m) (hs : g.stack = .int v :: .int i :: .ref a :: rest) (hd : decode c.code g.pc = .ok (.bastore, 1)) :
    ∃ T' h', Stand p l e R s m args below meth c T' (locs ++ [⟨a, i.toNatClampNeg⟩]) cells slots ∧ T'.heap = h' ∧ Wr h h' a i.toNatClampNeg (.int (nar .byte v)) ∧ ArrL .byte Z h' a (vs.set i.toNatClampNeg (nar .byte v)) ∧ ∀ target, Steps p.tables e below (T'.setTop { g with pc := g.pc + 1, stack := rest }) target → Steps p.tables e below (T.setTop g) target := by
  obtain ⟨cl, A, S, H⟩ := V
  obtain ⟨T', h', X', e', W, st⟩ := stB X hx hZ eT A (own_al_in S hi hi2) hg hs hd
  exact ⟨T', h', X', e', W, ArrL.set A S H hi2 W, st⟩
theorem own_al_ldI (X : Stand p l e R s m args below meth c T locs cells slots) (hx : p.tables.exec = Jvm.exec) (hZ : Z.Warmed39 s.vm) (eT : T.heap = h) (V : ArrL .int Z h a vs) {j : Int32} {g : JFrame} {rest : List Value} (hj : ¬ j < 0 ∧ j.toNatClampNeg < vs.length)
    (hg : g.method = m) (hs : g.stack = .int j :: .ref a :: rest) (hd : decode c.code g.pc = .ok (.iaload, 1)) (target : State) (k : Steps p.tables e below (T.setTop { g with pc := g.pc + 1, stack := .int (vs.getD j.toNatClampNeg 0) :: rest }) target) : Steps p.tables e below (T.setTop g) target := by
  obtain ⟨cl, A, S, H⟩ := V
  exact X.iaload hx (by rw [eT]; exact A.1) (State.isArrayOf_alike hZ.alike A.2.1) A.2.2 (own_al_in S hj.1 hj.2) (H _ hj.2) hg hs hd target k
theorem own_al_ldB (X : Stand p l e R s m args below meth c T locs cells slots) (hx : p.tables.exec = Jvm.exec) (hZ : Z.Warmed39 s.vm) (eT : T.heap = h) (V : ArrL .byte Z h a vs) {j : Int32} {g : JFrame} {rest : List Value} (hj : ¬ j < 0 ∧ j.toNatClampNeg < vs.length)
    (hg : g.method = m) (hs : g.stack = .int j :: .ref a :: rest) (hd : decode c.code g.pc = .ok (.baload, 1)) (target : State) (k : Steps p.tables e below (T.setTop { g with pc := g.pc + 1, stack := .int (vs.getD j.toNatClampNeg 0) :: rest }) target) : Steps p.tables e below (T.setTop g) target := by
  obtain ⟨cl, A, S, H⟩ := V
  exact X.baloadBytes hx (by rw [eT]; exact A.1) (State.isArrayOf_alike hZ.alike A.2.1) A.2.2 (own_al_in S hj.1 hj.2) (H _ hj.2) hg hs hd target k
theorem own_al_len (X : Stand p l e R s m args below meth c T locs cells slots) (hx : p.tables.exec = Jvm.exec) (hZ : Z.Warmed39 s.vm) (eT : T.heap = h) (V : ArrL ty Z h a vs) {g : JFrame} {rest : List Value} {z : Int32} (hz : vs.length.toInt32 = z)
    (hg : g.method = m) (hs : g.stack = .ref a :: rest) (hd : decode c.code g.pc = .ok (.arraylength, 1)) (target : State) (k : Steps p.tables e below (T.setTop { g with pc := g.pc + 1, stack := .int z :: rest }) target) : Steps p.tables e below (T.setTop g) target := by
  obtain ⟨cl, A, S, H⟩ := V
  refine X.arraylength hx (by rw [eT]; exact A.1) (State.isArrayOf_alike hZ.alike A.2.1) hg hs hd _ ?_
  rw [S, hz]; exact k
end OwnArrL
def xs33 (x : Int64) : Int64 := (x ^^^ ((x.toUInt64 >>> ((33 : Int32) &&& 0x3f).toInt64.toUInt64).toInt64))
def hst (x : Int64) (y : Int32) : Int64 := ((x ^^^ ((y &&& (255 : Int32)).toInt64)) * (1099511628211 : Int64))
def hs (vs : List Int32) : Nat → Int64
  | 0 => (-3750763034362895579 : Int64)
  | i + 1 => hst (hs vs i) (vs.getD i 0)
theorem d3_0 : decode method_3_code 0 = .ok (.lload_n 0, 1) := by decide +kernel
theorem d3_1 : decode method_3_code 1 = .ok (.lstore_n 2, 1) := by decide +kernel
theorem d3_2 : decode method_3_code 2 = .ok (.lload_n 2, 1) := by decide +kernel
theorem d3_3 : decode method_3_code 3 = .ok (.ldc2_w 23, 3) := by decide +kernel
theorem d3_6 : decode method_3_code 6 = .ok (.lload_n 0, 1) := by decide +kernel
theorem d3_7 : decode method_3_code 7 = .ok (.lload_n 2, 1) := by decide +kernel
theorem d3_8 : decode method_3_code 8 = .ok (.lmul, 1) := by decide +kernel
theorem d3_9 : decode method_3_code 9 = .ok (.lsub, 1) := by decide +kernel
theorem d3_10 : decode method_3_code 10 = .ok (.lmul, 1) := by decide +kernel
theorem d3_11 : decode method_3_code 11 = .ok (.lstore_n 2, 1) := by decide +kernel
theorem d3_12 : decode method_3_code 12 = .ok (.lload_n 2, 1) := by decide +kernel
theorem d3_13 : decode method_3_code 13 = .ok (.ldc2_w 23, 3) := by decide +kernel
theorem d3_16 : decode method_3_code 16 = .ok (.lload_n 0, 1) := by decide +kernel
theorem d3_17 : decode method_3_code 17 = .ok (.lload_n 2, 1) := by decide +kernel
theorem d3_18 : decode method_3_code 18 = .ok (.lmul, 1) := by decide +kernel
theorem d3_19 : decode method_3_code 19 = .ok (.lsub, 1) := by decide +kernel
theorem d3_20 : decode method_3_code 20 = .ok (.lmul, 1) := by decide +kernel
theorem d3_21 : decode method_3_code 21 = .ok (.lstore_n 2, 1) := by decide +kernel
theorem d3_22 : decode method_3_code 22 = .ok (.lload_n 2, 1) := by decide +kernel
theorem d3_23 : decode method_3_code 23 = .ok (.ldc2_w 23, 3) := by decide +kernel
theorem d3_26 : decode method_3_code 26 = .ok (.lload_n 0, 1) := by decide +kernel
theorem d3_27 : decode method_3_code 27 = .ok (.lload_n 2, 1) := by decide +kernel
theorem d3_28 : decode method_3_code 28 = .ok (.lmul, 1) := by decide +kernel
theorem d3_29 : decode method_3_code 29 = .ok (.lsub, 1) := by decide +kernel
theorem d3_30 : decode method_3_code 30 = .ok (.lmul, 1) := by decide +kernel
theorem d3_31 : decode method_3_code 31 = .ok (.lstore_n 2, 1) := by decide +kernel
theorem d3_32 : decode method_3_code 32 = .ok (.lload_n 2, 1) := by decide +kernel
theorem d3_33 : decode method_3_code 33 = .ok (.ldc2_w 23, 3) := by decide +kernel
theorem d3_36 : decode method_3_code 36 = .ok (.lload_n 0, 1) := by decide +kernel
theorem d3_37 : decode method_3_code 37 = .ok (.lload_n 2, 1) := by decide +kernel
theorem d3_38 : decode method_3_code 38 = .ok (.lmul, 1) := by decide +kernel
theorem d3_39 : decode method_3_code 39 = .ok (.lsub, 1) := by decide +kernel
theorem d3_40 : decode method_3_code 40 = .ok (.lmul, 1) := by decide +kernel
theorem d3_41 : decode method_3_code 41 = .ok (.lstore_n 2, 1) := by decide +kernel
theorem d3_42 : decode method_3_code 42 = .ok (.lload_n 2, 1) := by decide +kernel
theorem d3_43 : decode method_3_code 43 = .ok (.ldc2_w 23, 3) := by decide +kernel
theorem d3_46 : decode method_3_code 46 = .ok (.lload_n 0, 1) := by decide +kernel
theorem d3_47 : decode method_3_code 47 = .ok (.lload_n 2, 1) := by decide +kernel
theorem d3_48 : decode method_3_code 48 = .ok (.lmul, 1) := by decide +kernel
theorem d3_49 : decode method_3_code 49 = .ok (.lsub, 1) := by decide +kernel
theorem d3_50 : decode method_3_code 50 = .ok (.lmul, 1) := by decide +kernel
theorem d3_51 : decode method_3_code 51 = .ok (.lstore_n 2, 1) := by decide +kernel
theorem d3_52 : decode method_3_code 52 = .ok (.lload_n 2, 1) := by decide +kernel
theorem d3_53 : decode method_3_code 53 = .ok (.lreturn, 1) := by decide +kernel
def F3_0 (v0 : Int64) : Int64 := (((((v0 * ((2 : Int64) - (v0 * v0))) * ((2 : Int64) - (v0 * (v0 * ((2 : Int64) - (v0 * v0)))))) * ((2 : Int64) - (v0 * ((v0 * ((2 : Int64) - (v0 * v0))) * ((2 : Int64) - (v0 * (v0 * ((2 : Int64) - (v0 * v0))))))))) * ((2 : Int64) - (v0 * (((v0 * ((2 : Int64) - (v0 * v0))) * ((2 : Int64) - (v0 * (v0 * ((2 : Int64) - (v0 * v0)))))) * ((2 : Int64) - (v0 * ((v0 * ((2 : Int64) - (v0 * v0))) * ((2 : Int64) - (v0 * (v0 * ((2 : Int64) - (v0 * v0)))))))))))) * ((2 : Int64) - (v0 * ((((v0 * ((2 : Int64) - (v0 * v0))) * ((2 : Int64) - (v0 * (v0 * ((2 : Int64) - (v0 * v0)))))) * ((2 : Int64) - (v0 * ((v0 * ((2 : Int64) - (v0 * v0))) * ((2 : Int64) - (v0 * (v0 * ((2 : Int64) - (v0 * v0))))))))) * ((2 : Int64) - (v0 * (((v0 * ((2 : Int64) - (v0 * v0))) * ((2 : Int64) - (v0 * (v0 * ((2 : Int64) - (v0 * v0)))))) * ((2 : Int64) - (v0 * ((v0 * ((2 : Int64) - (v0 * v0))) * ((2 : Int64) - (v0 * (v0 * ((2 : Int64) - (v0 * v0)))))))))))))))
theorem b3_0 {p : Program} {l : Launch} {e : Env} {R : Room} {s : State} {m : MethodId} {args : Array Value} {below : List Frame} {meth : Method} {c : Code} {T : State} {locs : List Loc} {cells slots : Nat} {Z : State} {a0 : Array Value} (X : Stand p l e R s m args below meth c T locs cells slots) (hx : p.tables.exec = Jvm.exec) (hZ : Z.Warmed39 s.vm) (hw : ∀ d ∈ tables_1, d.before a0 Z = true) (hby : c.code = method_3_code) (hown : s.vm.findClass "com/example/defacto/defacto/index/ChunkTermsHashPinLaw" = some m.cls) (v0 : Int64) (hret : meth.sig.returnType = some .long) {fs : List Frame} (hr : ∀ (f : JFrame) (acts : List Action), f.method = m → f.locked = none → f.entered = [] → (doReturn e (T.setTop f) acts (some (.long (F3_0 v0)))).1 = T.setFrames fs) : Steps p.tables e below (T.setTop (mkF m 0 #[.val (.long v0), .second, .unset, .unset] [])) (T.setFrames fs) := by
  show Steps p.tables e below (T.setTop (mkF m 0 #[.val (.long v0), .second, .unset, .unset] [])) _
  refine XS.lloadN X.here hx rfl (hb hby d3_0) rfl ?_
  show Steps p.tables e below (T.setTop (mkF m 1 #[.val (.long v0), .second, .unset, .unset] [(.long v0)])) _
  refine XS.lstoreN X.here hx rfl (hb hby d3_1) rfl (l' := #[.val (.long v0), .second, .val (.long v0), .second]) rfl ?_
  show Steps p.tables e below (T.setTop (mkF m 2 #[.val (.long v0), .second, .val (.long v0), .second] [])) _
  refine XS.lloadN X.here hx rfl (hb hby d3_2) rfl ?_
  show Steps p.tables e below (T.setTop (mkF m 3 #[.val (.long v0), .second, .val (.long v0), .second] [(.long v0)])) _
  refine X.ldc2Long hx hown (mvT hZ (hw _ (List.mem_of_getElem? (i := 16) rfl))) (g := (mkF m 3 #[.val (.long v0), .second, .val (.long v0), .second] [(.long v0)])) rfl (hb hby d3_3) _ ?_
  show Steps p.tables e below (T.setTop (mkF m 6 #[.val (.long v0), .second, .val (.long v0), .second] [(.long (2 : Int64)), (.long v0)])) _
  refine XS.lloadN X.here hx rfl (hb hby d3_6) rfl ?_
  show Steps p.tables e below (T.setTop (mkF m 7 #[.val (.long v0), .second, .val (.long v0), .second] [(.long v0), (.long (2 : Int64)), (.long v0)])) _
  refine XS.lloadN X.here hx rfl (hb hby d3_7) rfl ?_
  show Steps p.tables e below (T.setTop (mkF m 8 #[.val (.long v0), .second, .val (.long v0), .second] [(.long v0), (.long v0), (.long (2 : Int64)), (.long v0)])) _
  refine XS.lmul X.here hx rfl (hb hby d3_8) rfl ?_
  show Steps p.tables e below (T.setTop (mkF m 9 #[.val (.long v0), .second, .val (.long v0), .second] [(.long (v0 * v0)), (.long (2 : Int64)), (.long v0)])) _
  refine XS.lsub X.here hx rfl (hb hby d3_9) rfl ?_
  show Steps p.tables e below (T.setTop (mkF m 10 #[.val (.long v0), .second, .val (.long v0), .second] [(.long ((2 : Int64) - (v0 * v0))), (.long v0)])) _
  refine XS.lmul X.here hx rfl (hb hby d3_10) rfl ?_
  show Steps p.tables e below (T.setTop (mkF m 11 #[.val (.long v0), .second, .val (.long v0), .second] [(.long (v0 * ((2 : Int64) - (v0 * v0))))])) _
  refine XS.lstoreN X.here hx rfl (hb hby d3_11) rfl (l' := #[.val (.long v0), .second, .val (.long (v0 * ((2 : Int64) - (v0 * v0)))), .second]) rfl ?_
  show Steps p.tables e below (T.setTop (mkF m 12 #[.val (.long v0), .second, .val (.long (v0 * ((2 : Int64) - (v0 * v0)))), .second] [])) _
  refine XS.lloadN X.here hx rfl (hb hby d3_12) rfl ?_
  show Steps p.tables e below (T.setTop (mkF m 13 #[.val (.long v0), .second, .val (.long (v0 * ((2 : Int64) - (v0 * v0)))), .second] [(.long (v0 * ((2 : Int64) - (v0 * v0))))])) _
  refine X.ldc2Long hx hown (mvT hZ (hw _ (List.mem_of_getElem? (i := 16) rfl))) (g := (mkF m 13 #[.val (.long v0), .second, .val (.long (v0 * ((2 : Int64) - (v0 * v0)))), .second] [(.long (v0 * ((2 : Int64) - (v0 * v0))))])) rfl (hb hby d3_13) _ ?_
  show Steps p.tables e below (T.setTop (mkF m 16 #[.val (.long v0), .second, .val (.long (v0 * ((2 : Int64) - (v0 * v0)))), .second] [(.long (2 : Int64)), (.long (v0 * ((2 : Int64) - (v0 * v0))))])) _
  refine XS.lloadN X.here hx rfl (hb hby d3_16) rfl ?_
  show Steps p.tables e below (T.setTop (mkF m 17 #[.val (.long v0), .second, .val (.long (v0 * ((2 : Int64) - (v0 * v0)))), .second] [(.long v0), (.long (2 : Int64)), (.long (v0 * ((2 : Int64) - (v0 * v0))))])) _
  refine XS.lloadN X.here hx rfl (hb hby d3_17) rfl ?_
  show Steps p.tables e below (T.setTop (mkF m 18 #[.val (.long v0), .second, .val (.long (v0 * ((2 : Int64) - (v0 * v0)))), .second] [(.long (v0 * ((2 : Int64) - (v0 * v0)))), (.long v0), (.long (2 : Int64)), (.long (v0 * ((2 : Int64) - (v0 * v0))))])) _
  refine XS.lmul X.here hx rfl (hb hby d3_18) rfl ?_
  show Steps p.tables e below (T.setTop (mkF m 19 #[.val (.long v0), .second, .val (.long (v0 * ((2 : Int64) - (v0 * v0)))), .second] [(.long (v0 * (v0 * ((2 : Int64) - (v0 * v0))))), (.long (2 : Int64)), (.long (v0 * ((2 : Int64) - (v0 * v0))))])) _
  refine XS.lsub X.here hx rfl (hb hby d3_19) rfl ?_
  show Steps p.tables e below (T.setTop (mkF m 20 #[.val (.long v0), .second, .val (.long (v0 * ((2 : Int64) - (v0 * v0)))), .second] [(.long ((2 : Int64) - (v0 * (v0 * ((2 : Int64) - (v0 * v0)))))), (.long (v0 * ((2 : Int64) - (v0 * v0))))])) _
  refine XS.lmul X.here hx rfl (hb hby d3_20) rfl ?_
  show Steps p.tables e below (T.setTop (mkF m 21 #[.val (.long v0), .second, .val (.long (v0 * ((2 : Int64) - (v0 * v0)))), .second] [(.long ((v0 * ((2 : Int64) - (v0 * v0))) * ((2 : Int64) - (v0 * (v0 * ((2 : Int64) - (v0 * v0)))))))])) _
  refine XS.lstoreN X.here hx rfl (hb hby d3_21) rfl (l' := #[.val (.long v0), .second, .val (.long ((v0 * ((2 : Int64) - (v0 * v0))) * ((2 : Int64) - (v0 * (v0 * ((2 : Int64) - (v0 * v0))))))), .second]) rfl ?_
  show Steps p.tables e below (T.setTop (mkF m 22 #[.val (.long v0), .second, .val (.long ((v0 * ((2 : Int64) - (v0 * v0))) * ((2 : Int64) - (v0 * (v0 * ((2 : Int64) - (v0 * v0))))))), .second] [])) _
  refine XS.lloadN X.here hx rfl (hb hby d3_22) rfl ?_
  show Steps p.tables e below (T.setTop (mkF m 23 #[.val (.long v0), .second, .val (.long ((v0 * ((2 : Int64) - (v0 * v0))) * ((2 : Int64) - (v0 * (v0 * ((2 : Int64) - (v0 * v0))))))), .second] [(.long ((v0 * ((2 : Int64) - (v0 * v0))) * ((2 : Int64) - (v0 * (v0 * ((2 : Int64) - (v0 * v0)))))))])) _
  refine X.ldc2Long hx hown (mvT hZ (hw _ (List.mem_of_getElem? (i := 16) rfl))) (g := (mkF m 23 #[.val (.long v0), .second, .val (.long ((v0 * ((2 : Int64) - (v0 * v0))) * ((2 : Int64) - (v0 * (v0 * ((2 : Int64) - (v0 * v0))))))), .second] [(.long ((v0 * ((2 : Int64) - (v0 * v0))) * ((2 : Int64) - (v0 * (v0 * ((2 : Int64) - (v0 * v0)))))))])) rfl (hb hby d3_23) _ ?_
  show Steps p.tables e below (T.setTop (mkF m 26 #[.val (.long v0), .second, .val (.long ((v0 * ((2 : Int64) - (v0 * v0))) * ((2 : Int64) - (v0 * (v0 * ((2 : Int64) - (v0 * v0))))))), .second] [(.long (2 : Int64)), (.long ((v0 * ((2 : Int64) - (v0 * v0))) * ((2 : Int64) - (v0 * (v0 * ((2 : Int64) - (v0 * v0)))))))])) _
  refine XS.lloadN X.here hx rfl (hb hby d3_26) rfl ?_
  show Steps p.tables e below (T.setTop (mkF m 27 #[.val (.long v0), .second, .val (.long ((v0 * ((2 : Int64) - (v0 * v0))) * ((2 : Int64) - (v0 * (v0 * ((2 : Int64) - (v0 * v0))))))), .second] [(.long v0), (.long (2 : Int64)), (.long ((v0 * ((2 : Int64) - (v0 * v0))) * ((2 : Int64) - (v0 * (v0 * ((2 : Int64) - (v0 * v0)))))))])) _
  refine XS.lloadN X.here hx rfl (hb hby d3_27) rfl ?_
  show Steps p.tables e below (T.setTop (mkF m 28 #[.val (.long v0), .second, .val (.long ((v0 * ((2 : Int64) - (v0 * v0))) * ((2 : Int64) - (v0 * (v0 * ((2 : Int64) - (v0 * v0))))))), .second] [(.long ((v0 * ((2 : Int64) - (v0 * v0))) * ((2 : Int64) - (v0 * (v0 * ((2 : Int64) - (v0 * v0))))))), (.long v0), (.long (2 : Int64)), (.long ((v0 * ((2 : Int64) - (v0 * v0))) * ((2 : Int64) - (v0 * (v0 * ((2 : Int64) - (v0 * v0)))))))])) _
  refine XS.lmul X.here hx rfl (hb hby d3_28) rfl ?_
  show Steps p.tables e below (T.setTop (mkF m 29 #[.val (.long v0), .second, .val (.long ((v0 * ((2 : Int64) - (v0 * v0))) * ((2 : Int64) - (v0 * (v0 * ((2 : Int64) - (v0 * v0))))))), .second] [(.long (v0 * ((v0 * ((2 : Int64) - (v0 * v0))) * ((2 : Int64) - (v0 * (v0 * ((2 : Int64) - (v0 * v0)))))))), (.long (2 : Int64)), (.long ((v0 * ((2 : Int64) - (v0 * v0))) * ((2 : Int64) - (v0 * (v0 * ((2 : Int64) - (v0 * v0)))))))])) _
  refine XS.lsub X.here hx rfl (hb hby d3_29) rfl ?_
  show Steps p.tables e below (T.setTop (mkF m 30 #[.val (.long v0), .second, .val (.long ((v0 * ((2 : Int64) - (v0 * v0))) * ((2 : Int64) - (v0 * (v0 * ((2 : Int64) - (v0 * v0))))))), .second] [(.long ((2 : Int64) - (v0 * ((v0 * ((2 : Int64) - (v0 * v0))) * ((2 : Int64) - (v0 * (v0 * ((2 : Int64) - (v0 * v0))))))))), (.long ((v0 * ((2 : Int64) - (v0 * v0))) * ((2 : Int64) - (v0 * (v0 * ((2 : Int64) - (v0 * v0)))))))])) _
  refine XS.lmul X.here hx rfl (hb hby d3_30) rfl ?_
  show Steps p.tables e below (T.setTop (mkF m 31 #[.val (.long v0), .second, .val (.long ((v0 * ((2 : Int64) - (v0 * v0))) * ((2 : Int64) - (v0 * (v0 * ((2 : Int64) - (v0 * v0))))))), .second] [(.long (((v0 * ((2 : Int64) - (v0 * v0))) * ((2 : Int64) - (v0 * (v0 * ((2 : Int64) - (v0 * v0)))))) * ((2 : Int64) - (v0 * ((v0 * ((2 : Int64) - (v0 * v0))) * ((2 : Int64) - (v0 * (v0 * ((2 : Int64) - (v0 * v0))))))))))])) _
  refine XS.lstoreN X.here hx rfl (hb hby d3_31) rfl (l' := #[.val (.long v0), .second, .val (.long (((v0 * ((2 : Int64) - (v0 * v0))) * ((2 : Int64) - (v0 * (v0 * ((2 : Int64) - (v0 * v0)))))) * ((2 : Int64) - (v0 * ((v0 * ((2 : Int64) - (v0 * v0))) * ((2 : Int64) - (v0 * (v0 * ((2 : Int64) - (v0 * v0)))))))))), .second]) rfl ?_
  show Steps p.tables e below (T.setTop (mkF m 32 #[.val (.long v0), .second, .val (.long (((v0 * ((2 : Int64) - (v0 * v0))) * ((2 : Int64) - (v0 * (v0 * ((2 : Int64) - (v0 * v0)))))) * ((2 : Int64) - (v0 * ((v0 * ((2 : Int64) - (v0 * v0))) * ((2 : Int64) - (v0 * (v0 * ((2 : Int64) - (v0 * v0)))))))))), .second] [])) _
  refine XS.lloadN X.here hx rfl (hb hby d3_32) rfl ?_
  show Steps p.tables e below (T.setTop (mkF m 33 #[.val (.long v0), .second, .val (.long (((v0 * ((2 : Int64) - (v0 * v0))) * ((2 : Int64) - (v0 * (v0 * ((2 : Int64) - (v0 * v0)))))) * ((2 : Int64) - (v0 * ((v0 * ((2 : Int64) - (v0 * v0))) * ((2 : Int64) - (v0 * (v0 * ((2 : Int64) - (v0 * v0)))))))))), .second] [(.long (((v0 * ((2 : Int64) - (v0 * v0))) * ((2 : Int64) - (v0 * (v0 * ((2 : Int64) - (v0 * v0)))))) * ((2 : Int64) - (v0 * ((v0 * ((2 : Int64) - (v0 * v0))) * ((2 : Int64) - (v0 * (v0 * ((2 : Int64) - (v0 * v0))))))))))])) _
  refine X.ldc2Long hx hown (mvT hZ (hw _ (List.mem_of_getElem? (i := 16) rfl))) (g := (mkF m 33 #[.val (.long v0), .second, .val (.long (((v0 * ((2 : Int64) - (v0 * v0))) * ((2 : Int64) - (v0 * (v0 * ((2 : Int64) - (v0 * v0)))))) * ((2 : Int64) - (v0 * ((v0 * ((2 : Int64) - (v0 * v0))) * ((2 : Int64) - (v0 * (v0 * ((2 : Int64) - (v0 * v0)))))))))), .second] [(.long (((v0 * ((2 : Int64) - (v0 * v0))) * ((2 : Int64) - (v0 * (v0 * ((2 : Int64) - (v0 * v0)))))) * ((2 : Int64) - (v0 * ((v0 * ((2 : Int64) - (v0 * v0))) * ((2 : Int64) - (v0 * (v0 * ((2 : Int64) - (v0 * v0))))))))))])) rfl (hb hby d3_33) _ ?_
  show Steps p.tables e below (T.setTop (mkF m 36 #[.val (.long v0), .second, .val (.long (((v0 * ((2 : Int64) - (v0 * v0))) * ((2 : Int64) - (v0 * (v0 * ((2 : Int64) - (v0 * v0)))))) * ((2 : Int64) - (v0 * ((v0 * ((2 : Int64) - (v0 * v0))) * ((2 : Int64) - (v0 * (v0 * ((2 : Int64) - (v0 * v0)))))))))), .second] [(.long (2 : Int64)), (.long (((v0 * ((2 : Int64) - (v0 * v0))) * ((2 : Int64) - (v0 * (v0 * ((2 : Int64) - (v0 * v0)))))) * ((2 : Int64) - (v0 * ((v0 * ((2 : Int64) - (v0 * v0))) * ((2 : Int64) - (v0 * (v0 * ((2 : Int64) - (v0 * v0))))))))))])) _
  refine XS.lloadN X.here hx rfl (hb hby d3_36) rfl ?_
  show Steps p.tables e below (T.setTop (mkF m 37 #[.val (.long v0), .second, .val (.long (((v0 * ((2 : Int64) - (v0 * v0))) * ((2 : Int64) - (v0 * (v0 * ((2 : Int64) - (v0 * v0)))))) * ((2 : Int64) - (v0 * ((v0 * ((2 : Int64) - (v0 * v0))) * ((2 : Int64) - (v0 * (v0 * ((2 : Int64) - (v0 * v0)))))))))), .second] [(.long v0), (.long (2 : Int64)), (.long (((v0 * ((2 : Int64) - (v0 * v0))) * ((2 : Int64) - (v0 * (v0 * ((2 : Int64) - (v0 * v0)))))) * ((2 : Int64) - (v0 * ((v0 * ((2 : Int64) - (v0 * v0))) * ((2 : Int64) - (v0 * (v0 * ((2 : Int64) - (v0 * v0))))))))))])) _
  refine XS.lloadN X.here hx rfl (hb hby d3_37) rfl ?_
  show Steps p.tables e below (T.setTop (mkF m 38 #[.val (.long v0), .second, .val (.long (((v0 * ((2 : Int64) - (v0 * v0))) * ((2 : Int64) - (v0 * (v0 * ((2 : Int64) - (v0 * v0)))))) * ((2 : Int64) - (v0 * ((v0 * ((2 : Int64) - (v0 * v0))) * ((2 : Int64) - (v0 * (v0 * ((2 : Int64) - (v0 * v0)))))))))), .second] [(.long (((v0 * ((2 : Int64) - (v0 * v0))) * ((2 : Int64) - (v0 * (v0 * ((2 : Int64) - (v0 * v0)))))) * ((2 : Int64) - (v0 * ((v0 * ((2 : Int64) - (v0 * v0))) * ((2 : Int64) - (v0 * (v0 * ((2 : Int64) - (v0 * v0)))))))))), (.long v0), (.long (2 : Int64)), (.long (((v0 * ((2 : Int64) - (v0 * v0))) * ((2 : Int64) - (v0 * (v0 * ((2 : Int64) - (v0 * v0)))))) * ((2 : Int64) - (v0 * ((v0 * ((2 : Int64) - (v0 * v0))) * ((2 : Int64) - (v0 * (v0 * ((2 : Int64) - (v0 * v0))))))))))])) _
  refine XS.lmul X.here hx rfl (hb hby d3_38) rfl ?_
  show Steps p.tables e below (T.setTop (mkF m 39 #[.val (.long v0), .second, .val (.long (((v0 * ((2 : Int64) - (v0 * v0))) * ((2 : Int64) - (v0 * (v0 * ((2 : Int64) - (v0 * v0)))))) * ((2 : Int64) - (v0 * ((v0 * ((2 : Int64) - (v0 * v0))) * ((2 : Int64) - (v0 * (v0 * ((2 : Int64) - (v0 * v0)))))))))), .second] [(.long (v0 * (((v0 * ((2 : Int64) - (v0 * v0))) * ((2 : Int64) - (v0 * (v0 * ((2 : Int64) - (v0 * v0)))))) * ((2 : Int64) - (v0 * ((v0 * ((2 : Int64) - (v0 * v0))) * ((2 : Int64) - (v0 * (v0 * ((2 : Int64) - (v0 * v0))))))))))), (.long (2 : Int64)), (.long (((v0 * ((2 : Int64) - (v0 * v0))) * ((2 : Int64) - (v0 * (v0 * ((2 : Int64) - (v0 * v0)))))) * ((2 : Int64) - (v0 * ((v0 * ((2 : Int64) - (v0 * v0))) * ((2 : Int64) - (v0 * (v0 * ((2 : Int64) - (v0 * v0))))))))))])) _
  refine XS.lsub X.here hx rfl (hb hby d3_39) rfl ?_
  show Steps p.tables e below (T.setTop (mkF m 40 #[.val (.long v0), .second, .val (.long (((v0 * ((2 : Int64) - (v0 * v0))) * ((2 : Int64) - (v0 * (v0 * ((2 : Int64) - (v0 * v0)))))) * ((2 : Int64) - (v0 * ((v0 * ((2 : Int64) - (v0 * v0))) * ((2 : Int64) - (v0 * (v0 * ((2 : Int64) - (v0 * v0)))))))))), .second] [(.long ((2 : Int64) - (v0 * (((v0 * ((2 : Int64) - (v0 * v0))) * ((2 : Int64) - (v0 * (v0 * ((2 : Int64) - (v0 * v0)))))) * ((2 : Int64) - (v0 * ((v0 * ((2 : Int64) - (v0 * v0))) * ((2 : Int64) - (v0 * (v0 * ((2 : Int64) - (v0 * v0)))))))))))), (.long (((v0 * ((2 : Int64) - (v0 * v0))) * ((2 : Int64) - (v0 * (v0 * ((2 : Int64) - (v0 * v0)))))) * ((2 : Int64) - (v0 * ((v0 * ((2 : Int64) - (v0 * v0))) * ((2 : Int64) - (v0 * (v0 * ((2 : Int64) - (v0 * v0))))))))))])) _
  refine XS.lmul X.here hx rfl (hb hby d3_40) rfl ?_
  show Steps p.tables e below (T.setTop (mkF m 41 #[.val (.long v0), .second, .val (.long (((v0 * ((2 : Int64) - (v0 * v0))) * ((2 : Int64) - (v0 * (v0 * ((2 : Int64) - (v0 * v0)))))) * ((2 : Int64) - (v0 * ((v0 * ((2 : Int64) - (v0 * v0))) * ((2 : Int64) - (v0 * (v0 * ((2 : Int64) - (v0 * v0)))))))))), .second] [(.long ((((v0 * ((2 : Int64) - (v0 * v0))) * ((2 : Int64) - (v0 * (v0 * ((2 : Int64) - (v0 * v0)))))) * ((2 : Int64) - (v0 * ((v0 * ((2 : Int64) - (v0 * v0))) * ((2 : Int64) - (v0 * (v0 * ((2 : Int64) - (v0 * v0))))))))) * ((2 : Int64) - (v0 * (((v0 * ((2 : Int64) - (v0 * v0))) * ((2 : Int64) - (v0 * (v0 * ((2 : Int64) - (v0 * v0)))))) * ((2 : Int64) - (v0 * ((v0 * ((2 : Int64) - (v0 * v0))) * ((2 : Int64) - (v0 * (v0 * ((2 : Int64) - (v0 * v0)))))))))))))])) _
  refine XS.lstoreN X.here hx rfl (hb hby d3_41) rfl (l' := #[.val (.long v0), .second, .val (.long ((((v0 * ((2 : Int64) - (v0 * v0))) * ((2 : Int64) - (v0 * (v0 * ((2 : Int64) - (v0 * v0)))))) * ((2 : Int64) - (v0 * ((v0 * ((2 : Int64) - (v0 * v0))) * ((2 : Int64) - (v0 * (v0 * ((2 : Int64) - (v0 * v0))))))))) * ((2 : Int64) - (v0 * (((v0 * ((2 : Int64) - (v0 * v0))) * ((2 : Int64) - (v0 * (v0 * ((2 : Int64) - (v0 * v0)))))) * ((2 : Int64) - (v0 * ((v0 * ((2 : Int64) - (v0 * v0))) * ((2 : Int64) - (v0 * (v0 * ((2 : Int64) - (v0 * v0))))))))))))), .second]) rfl ?_
  show Steps p.tables e below (T.setTop (mkF m 42 #[.val (.long v0), .second, .val (.long ((((v0 * ((2 : Int64) - (v0 * v0))) * ((2 : Int64) - (v0 * (v0 * ((2 : Int64) - (v0 * v0)))))) * ((2 : Int64) - (v0 * ((v0 * ((2 : Int64) - (v0 * v0))) * ((2 : Int64) - (v0 * (v0 * ((2 : Int64) - (v0 * v0))))))))) * ((2 : Int64) - (v0 * (((v0 * ((2 : Int64) - (v0 * v0))) * ((2 : Int64) - (v0 * (v0 * ((2 : Int64) - (v0 * v0)))))) * ((2 : Int64) - (v0 * ((v0 * ((2 : Int64) - (v0 * v0))) * ((2 : Int64) - (v0 * (v0 * ((2 : Int64) - (v0 * v0))))))))))))), .second] [])) _
  refine XS.lloadN X.here hx rfl (hb hby d3_42) rfl ?_
  show Steps p.tables e below (T.setTop (mkF m 43 #[.val (.long v0), .second, .val (.long ((((v0 * ((2 : Int64) - (v0 * v0))) * ((2 : Int64) - (v0 * (v0 * ((2 : Int64) - (v0 * v0)))))) * ((2 : Int64) - (v0 * ((v0 * ((2 : Int64) - (v0 * v0))) * ((2 : Int64) - (v0 * (v0 * ((2 : Int64) - (v0 * v0))))))))) * ((2 : Int64) - (v0 * (((v0 * ((2 : Int64) - (v0 * v0))) * ((2 : Int64) - (v0 * (v0 * ((2 : Int64) - (v0 * v0)))))) * ((2 : Int64) - (v0 * ((v0 * ((2 : Int64) - (v0 * v0))) * ((2 : Int64) - (v0 * (v0 * ((2 : Int64) - (v0 * v0))))))))))))), .second] [(.long ((((v0 * ((2 : Int64) - (v0 * v0))) * ((2 : Int64) - (v0 * (v0 * ((2 : Int64) - (v0 * v0)))))) * ((2 : Int64) - (v0 * ((v0 * ((2 : Int64) - (v0 * v0))) * ((2 : Int64) - (v0 * (v0 * ((2 : Int64) - (v0 * v0))))))))) * ((2 : Int64) - (v0 * (((v0 * ((2 : Int64) - (v0 * v0))) * ((2 : Int64) - (v0 * (v0 * ((2 : Int64) - (v0 * v0)))))) * ((2 : Int64) - (v0 * ((v0 * ((2 : Int64) - (v0 * v0))) * ((2 : Int64) - (v0 * (v0 * ((2 : Int64) - (v0 * v0)))))))))))))])) _
  refine X.ldc2Long hx hown (mvT hZ (hw _ (List.mem_of_getElem? (i := 16) rfl))) (g := (mkF m 43 #[.val (.long v0), .second, .val (.long ((((v0 * ((2 : Int64) - (v0 * v0))) * ((2 : Int64) - (v0 * (v0 * ((2 : Int64) - (v0 * v0)))))) * ((2 : Int64) - (v0 * ((v0 * ((2 : Int64) - (v0 * v0))) * ((2 : Int64) - (v0 * (v0 * ((2 : Int64) - (v0 * v0))))))))) * ((2 : Int64) - (v0 * (((v0 * ((2 : Int64) - (v0 * v0))) * ((2 : Int64) - (v0 * (v0 * ((2 : Int64) - (v0 * v0)))))) * ((2 : Int64) - (v0 * ((v0 * ((2 : Int64) - (v0 * v0))) * ((2 : Int64) - (v0 * (v0 * ((2 : Int64) - (v0 * v0))))))))))))), .second] [(.long ((((v0 * ((2 : Int64) - (v0 * v0))) * ((2 : Int64) - (v0 * (v0 * ((2 : Int64) - (v0 * v0)))))) * ((2 : Int64) - (v0 * ((v0 * ((2 : Int64) - (v0 * v0))) * ((2 : Int64) - (v0 * (v0 * ((2 : Int64) - (v0 * v0))))))))) * ((2 : Int64) - (v0 * (((v0 * ((2 : Int64) - (v0 * v0))) * ((2 : Int64) - (v0 * (v0 * ((2 : Int64) - (v0 * v0)))))) * ((2 : Int64) - (v0 * ((v0 * ((2 : Int64) - (v0 * v0))) * ((2 : Int64) - (v0 * (v0 * ((2 : Int64) - (v0 * v0)))))))))))))])) rfl (hb hby d3_43) _ ?_
  show Steps p.tables e below (T.setTop (mkF m 46 #[.val (.long v0), .second, .val (.long ((((v0 * ((2 : Int64) - (v0 * v0))) * ((2 : Int64) - (v0 * (v0 * ((2 : Int64) - (v0 * v0)))))) * ((2 : Int64) - (v0 * ((v0 * ((2 : Int64) - (v0 * v0))) * ((2 : Int64) - (v0 * (v0 * ((2 : Int64) - (v0 * v0))))))))) * ((2 : Int64) - (v0 * (((v0 * ((2 : Int64) - (v0 * v0))) * ((2 : Int64) - (v0 * (v0 * ((2 : Int64) - (v0 * v0)))))) * ((2 : Int64) - (v0 * ((v0 * ((2 : Int64) - (v0 * v0))) * ((2 : Int64) - (v0 * (v0 * ((2 : Int64) - (v0 * v0))))))))))))), .second] [(.long (2 : Int64)), (.long ((((v0 * ((2 : Int64) - (v0 * v0))) * ((2 : Int64) - (v0 * (v0 * ((2 : Int64) - (v0 * v0)))))) * ((2 : Int64) - (v0 * ((v0 * ((2 : Int64) - (v0 * v0))) * ((2 : Int64) - (v0 * (v0 * ((2 : Int64) - (v0 * v0))))))))) * ((2 : Int64) - (v0 * (((v0 * ((2 : Int64) - (v0 * v0))) * ((2 : Int64) - (v0 * (v0 * ((2 : Int64) - (v0 * v0)))))) * ((2 : Int64) - (v0 * ((v0 * ((2 : Int64) - (v0 * v0))) * ((2 : Int64) - (v0 * (v0 * ((2 : Int64) - (v0 * v0)))))))))))))])) _
  refine XS.lloadN X.here hx rfl (hb hby d3_46) rfl ?_
  show Steps p.tables e below (T.setTop (mkF m 47 #[.val (.long v0), .second, .val (.long ((((v0 * ((2 : Int64) - (v0 * v0))) * ((2 : Int64) - (v0 * (v0 * ((2 : Int64) - (v0 * v0)))))) * ((2 : Int64) - (v0 * ((v0 * ((2 : Int64) - (v0 * v0))) * ((2 : Int64) - (v0 * (v0 * ((2 : Int64) - (v0 * v0))))))))) * ((2 : Int64) - (v0 * (((v0 * ((2 : Int64) - (v0 * v0))) * ((2 : Int64) - (v0 * (v0 * ((2 : Int64) - (v0 * v0)))))) * ((2 : Int64) - (v0 * ((v0 * ((2 : Int64) - (v0 * v0))) * ((2 : Int64) - (v0 * (v0 * ((2 : Int64) - (v0 * v0))))))))))))), .second] [(.long v0), (.long (2 : Int64)), (.long ((((v0 * ((2 : Int64) - (v0 * v0))) * ((2 : Int64) - (v0 * (v0 * ((2 : Int64) - (v0 * v0)))))) * ((2 : Int64) - (v0 * ((v0 * ((2 : Int64) - (v0 * v0))) * ((2 : Int64) - (v0 * (v0 * ((2 : Int64) - (v0 * v0))))))))) * ((2 : Int64) - (v0 * (((v0 * ((2 : Int64) - (v0 * v0))) * ((2 : Int64) - (v0 * (v0 * ((2 : Int64) - (v0 * v0)))))) * ((2 : Int64) - (v0 * ((v0 * ((2 : Int64) - (v0 * v0))) * ((2 : Int64) - (v0 * (v0 * ((2 : Int64) - (v0 * v0)))))))))))))])) _
  refine XS.lloadN X.here hx rfl (hb hby d3_47) rfl ?_
  show Steps p.tables e below (T.setTop (mkF m 48 #[.val (.long v0), .second, .val (.long ((((v0 * ((2 : Int64) - (v0 * v0))) * ((2 : Int64) - (v0 * (v0 * ((2 : Int64) - (v0 * v0)))))) * ((2 : Int64) - (v0 * ((v0 * ((2 : Int64) - (v0 * v0))) * ((2 : Int64) - (v0 * (v0 * ((2 : Int64) - (v0 * v0))))))))) * ((2 : Int64) - (v0 * (((v0 * ((2 : Int64) - (v0 * v0))) * ((2 : Int64) - (v0 * (v0 * ((2 : Int64) - (v0 * v0)))))) * ((2 : Int64) - (v0 * ((v0 * ((2 : Int64) - (v0 * v0))) * ((2 : Int64) - (v0 * (v0 * ((2 : Int64) - (v0 * v0))))))))))))), .second] [(.long ((((v0 * ((2 : Int64) - (v0 * v0))) * ((2 : Int64) - (v0 * (v0 * ((2 : Int64) - (v0 * v0)))))) * ((2 : Int64) - (v0 * ((v0 * ((2 : Int64) - (v0 * v0))) * ((2 : Int64) - (v0 * (v0 * ((2 : Int64) - (v0 * v0))))))))) * ((2 : Int64) - (v0 * (((v0 * ((2 : Int64) - (v0 * v0))) * ((2 : Int64) - (v0 * (v0 * ((2 : Int64) - (v0 * v0)))))) * ((2 : Int64) - (v0 * ((v0 * ((2 : Int64) - (v0 * v0))) * ((2 : Int64) - (v0 * (v0 * ((2 : Int64) - (v0 * v0))))))))))))), (.long v0), (.long (2 : Int64)), (.long ((((v0 * ((2 : Int64) - (v0 * v0))) * ((2 : Int64) - (v0 * (v0 * ((2 : Int64) - (v0 * v0)))))) * ((2 : Int64) - (v0 * ((v0 * ((2 : Int64) - (v0 * v0))) * ((2 : Int64) - (v0 * (v0 * ((2 : Int64) - (v0 * v0))))))))) * ((2 : Int64) - (v0 * (((v0 * ((2 : Int64) - (v0 * v0))) * ((2 : Int64) - (v0 * (v0 * ((2 : Int64) - (v0 * v0)))))) * ((2 : Int64) - (v0 * ((v0 * ((2 : Int64) - (v0 * v0))) * ((2 : Int64) - (v0 * (v0 * ((2 : Int64) - (v0 * v0)))))))))))))])) _
  refine XS.lmul X.here hx rfl (hb hby d3_48) rfl ?_
  show Steps p.tables e below (T.setTop (mkF m 49 #[.val (.long v0), .second, .val (.long ((((v0 * ((2 : Int64) - (v0 * v0))) * ((2 : Int64) - (v0 * (v0 * ((2 : Int64) - (v0 * v0)))))) * ((2 : Int64) - (v0 * ((v0 * ((2 : Int64) - (v0 * v0))) * ((2 : Int64) - (v0 * (v0 * ((2 : Int64) - (v0 * v0))))))))) * ((2 : Int64) - (v0 * (((v0 * ((2 : Int64) - (v0 * v0))) * ((2 : Int64) - (v0 * (v0 * ((2 : Int64) - (v0 * v0)))))) * ((2 : Int64) - (v0 * ((v0 * ((2 : Int64) - (v0 * v0))) * ((2 : Int64) - (v0 * (v0 * ((2 : Int64) - (v0 * v0))))))))))))), .second] [(.long (v0 * ((((v0 * ((2 : Int64) - (v0 * v0))) * ((2 : Int64) - (v0 * (v0 * ((2 : Int64) - (v0 * v0)))))) * ((2 : Int64) - (v0 * ((v0 * ((2 : Int64) - (v0 * v0))) * ((2 : Int64) - (v0 * (v0 * ((2 : Int64) - (v0 * v0))))))))) * ((2 : Int64) - (v0 * (((v0 * ((2 : Int64) - (v0 * v0))) * ((2 : Int64) - (v0 * (v0 * ((2 : Int64) - (v0 * v0)))))) * ((2 : Int64) - (v0 * ((v0 * ((2 : Int64) - (v0 * v0))) * ((2 : Int64) - (v0 * (v0 * ((2 : Int64) - (v0 * v0)))))))))))))), (.long (2 : Int64)), (.long ((((v0 * ((2 : Int64) - (v0 * v0))) * ((2 : Int64) - (v0 * (v0 * ((2 : Int64) - (v0 * v0)))))) * ((2 : Int64) - (v0 * ((v0 * ((2 : Int64) - (v0 * v0))) * ((2 : Int64) - (v0 * (v0 * ((2 : Int64) - (v0 * v0))))))))) * ((2 : Int64) - (v0 * (((v0 * ((2 : Int64) - (v0 * v0))) * ((2 : Int64) - (v0 * (v0 * ((2 : Int64) - (v0 * v0)))))) * ((2 : Int64) - (v0 * ((v0 * ((2 : Int64) - (v0 * v0))) * ((2 : Int64) - (v0 * (v0 * ((2 : Int64) - (v0 * v0)))))))))))))])) _
  refine XS.lsub X.here hx rfl (hb hby d3_49) rfl ?_
  show Steps p.tables e below (T.setTop (mkF m 50 #[.val (.long v0), .second, .val (.long ((((v0 * ((2 : Int64) - (v0 * v0))) * ((2 : Int64) - (v0 * (v0 * ((2 : Int64) - (v0 * v0)))))) * ((2 : Int64) - (v0 * ((v0 * ((2 : Int64) - (v0 * v0))) * ((2 : Int64) - (v0 * (v0 * ((2 : Int64) - (v0 * v0))))))))) * ((2 : Int64) - (v0 * (((v0 * ((2 : Int64) - (v0 * v0))) * ((2 : Int64) - (v0 * (v0 * ((2 : Int64) - (v0 * v0)))))) * ((2 : Int64) - (v0 * ((v0 * ((2 : Int64) - (v0 * v0))) * ((2 : Int64) - (v0 * (v0 * ((2 : Int64) - (v0 * v0))))))))))))), .second] [(.long ((2 : Int64) - (v0 * ((((v0 * ((2 : Int64) - (v0 * v0))) * ((2 : Int64) - (v0 * (v0 * ((2 : Int64) - (v0 * v0)))))) * ((2 : Int64) - (v0 * ((v0 * ((2 : Int64) - (v0 * v0))) * ((2 : Int64) - (v0 * (v0 * ((2 : Int64) - (v0 * v0))))))))) * ((2 : Int64) - (v0 * (((v0 * ((2 : Int64) - (v0 * v0))) * ((2 : Int64) - (v0 * (v0 * ((2 : Int64) - (v0 * v0)))))) * ((2 : Int64) - (v0 * ((v0 * ((2 : Int64) - (v0 * v0))) * ((2 : Int64) - (v0 * (v0 * ((2 : Int64) - (v0 * v0))))))))))))))), (.long ((((v0 * ((2 : Int64) - (v0 * v0))) * ((2 : Int64) - (v0 * (v0 * ((2 : Int64) - (v0 * v0)))))) * ((2 : Int64) - (v0 * ((v0 * ((2 : Int64) - (v0 * v0))) * ((2 : Int64) - (v0 * (v0 * ((2 : Int64) - (v0 * v0))))))))) * ((2 : Int64) - (v0 * (((v0 * ((2 : Int64) - (v0 * v0))) * ((2 : Int64) - (v0 * (v0 * ((2 : Int64) - (v0 * v0)))))) * ((2 : Int64) - (v0 * ((v0 * ((2 : Int64) - (v0 * v0))) * ((2 : Int64) - (v0 * (v0 * ((2 : Int64) - (v0 * v0)))))))))))))])) _
  refine XS.lmul X.here hx rfl (hb hby d3_50) rfl ?_
  show Steps p.tables e below (T.setTop (mkF m 51 #[.val (.long v0), .second, .val (.long ((((v0 * ((2 : Int64) - (v0 * v0))) * ((2 : Int64) - (v0 * (v0 * ((2 : Int64) - (v0 * v0)))))) * ((2 : Int64) - (v0 * ((v0 * ((2 : Int64) - (v0 * v0))) * ((2 : Int64) - (v0 * (v0 * ((2 : Int64) - (v0 * v0))))))))) * ((2 : Int64) - (v0 * (((v0 * ((2 : Int64) - (v0 * v0))) * ((2 : Int64) - (v0 * (v0 * ((2 : Int64) - (v0 * v0)))))) * ((2 : Int64) - (v0 * ((v0 * ((2 : Int64) - (v0 * v0))) * ((2 : Int64) - (v0 * (v0 * ((2 : Int64) - (v0 * v0))))))))))))), .second] [(.long (((((v0 * ((2 : Int64) - (v0 * v0))) * ((2 : Int64) - (v0 * (v0 * ((2 : Int64) - (v0 * v0)))))) * ((2 : Int64) - (v0 * ((v0 * ((2 : Int64) - (v0 * v0))) * ((2 : Int64) - (v0 * (v0 * ((2 : Int64) - (v0 * v0))))))))) * ((2 : Int64) - (v0 * (((v0 * ((2 : Int64) - (v0 * v0))) * ((2 : Int64) - (v0 * (v0 * ((2 : Int64) - (v0 * v0)))))) * ((2 : Int64) - (v0 * ((v0 * ((2 : Int64) - (v0 * v0))) * ((2 : Int64) - (v0 * (v0 * ((2 : Int64) - (v0 * v0)))))))))))) * ((2 : Int64) - (v0 * ((((v0 * ((2 : Int64) - (v0 * v0))) * ((2 : Int64) - (v0 * (v0 * ((2 : Int64) - (v0 * v0)))))) * ((2 : Int64) - (v0 * ((v0 * ((2 : Int64) - (v0 * v0))) * ((2 : Int64) - (v0 * (v0 * ((2 : Int64) - (v0 * v0))))))))) * ((2 : Int64) - (v0 * (((v0 * ((2 : Int64) - (v0 * v0))) * ((2 : Int64) - (v0 * (v0 * ((2 : Int64) - (v0 * v0)))))) * ((2 : Int64) - (v0 * ((v0 * ((2 : Int64) - (v0 * v0))) * ((2 : Int64) - (v0 * (v0 * ((2 : Int64) - (v0 * v0))))))))))))))))])) _
  refine XS.lstoreN X.here hx rfl (hb hby d3_51) rfl (l' := #[.val (.long v0), .second, .val (.long (((((v0 * ((2 : Int64) - (v0 * v0))) * ((2 : Int64) - (v0 * (v0 * ((2 : Int64) - (v0 * v0)))))) * ((2 : Int64) - (v0 * ((v0 * ((2 : Int64) - (v0 * v0))) * ((2 : Int64) - (v0 * (v0 * ((2 : Int64) - (v0 * v0))))))))) * ((2 : Int64) - (v0 * (((v0 * ((2 : Int64) - (v0 * v0))) * ((2 : Int64) - (v0 * (v0 * ((2 : Int64) - (v0 * v0)))))) * ((2 : Int64) - (v0 * ((v0 * ((2 : Int64) - (v0 * v0))) * ((2 : Int64) - (v0 * (v0 * ((2 : Int64) - (v0 * v0)))))))))))) * ((2 : Int64) - (v0 * ((((v0 * ((2 : Int64) - (v0 * v0))) * ((2 : Int64) - (v0 * (v0 * ((2 : Int64) - (v0 * v0)))))) * ((2 : Int64) - (v0 * ((v0 * ((2 : Int64) - (v0 * v0))) * ((2 : Int64) - (v0 * (v0 * ((2 : Int64) - (v0 * v0))))))))) * ((2 : Int64) - (v0 * (((v0 * ((2 : Int64) - (v0 * v0))) * ((2 : Int64) - (v0 * (v0 * ((2 : Int64) - (v0 * v0)))))) * ((2 : Int64) - (v0 * ((v0 * ((2 : Int64) - (v0 * v0))) * ((2 : Int64) - (v0 * (v0 * ((2 : Int64) - (v0 * v0)))))))))))))))), .second]) rfl ?_
  show Steps p.tables e below (T.setTop (mkF m 52 #[.val (.long v0), .second, .val (.long (((((v0 * ((2 : Int64) - (v0 * v0))) * ((2 : Int64) - (v0 * (v0 * ((2 : Int64) - (v0 * v0)))))) * ((2 : Int64) - (v0 * ((v0 * ((2 : Int64) - (v0 * v0))) * ((2 : Int64) - (v0 * (v0 * ((2 : Int64) - (v0 * v0))))))))) * ((2 : Int64) - (v0 * (((v0 * ((2 : Int64) - (v0 * v0))) * ((2 : Int64) - (v0 * (v0 * ((2 : Int64) - (v0 * v0)))))) * ((2 : Int64) - (v0 * ((v0 * ((2 : Int64) - (v0 * v0))) * ((2 : Int64) - (v0 * (v0 * ((2 : Int64) - (v0 * v0)))))))))))) * ((2 : Int64) - (v0 * ((((v0 * ((2 : Int64) - (v0 * v0))) * ((2 : Int64) - (v0 * (v0 * ((2 : Int64) - (v0 * v0)))))) * ((2 : Int64) - (v0 * ((v0 * ((2 : Int64) - (v0 * v0))) * ((2 : Int64) - (v0 * (v0 * ((2 : Int64) - (v0 * v0))))))))) * ((2 : Int64) - (v0 * (((v0 * ((2 : Int64) - (v0 * v0))) * ((2 : Int64) - (v0 * (v0 * ((2 : Int64) - (v0 * v0)))))) * ((2 : Int64) - (v0 * ((v0 * ((2 : Int64) - (v0 * v0))) * ((2 : Int64) - (v0 * (v0 * ((2 : Int64) - (v0 * v0)))))))))))))))), .second] [])) _
  refine XS.lloadN X.here hx rfl (hb hby d3_52) rfl ?_
  show Steps p.tables e below (T.setTop (mkF m 53 #[.val (.long v0), .second, .val (.long (((((v0 * ((2 : Int64) - (v0 * v0))) * ((2 : Int64) - (v0 * (v0 * ((2 : Int64) - (v0 * v0)))))) * ((2 : Int64) - (v0 * ((v0 * ((2 : Int64) - (v0 * v0))) * ((2 : Int64) - (v0 * (v0 * ((2 : Int64) - (v0 * v0))))))))) * ((2 : Int64) - (v0 * (((v0 * ((2 : Int64) - (v0 * v0))) * ((2 : Int64) - (v0 * (v0 * ((2 : Int64) - (v0 * v0)))))) * ((2 : Int64) - (v0 * ((v0 * ((2 : Int64) - (v0 * v0))) * ((2 : Int64) - (v0 * (v0 * ((2 : Int64) - (v0 * v0)))))))))))) * ((2 : Int64) - (v0 * ((((v0 * ((2 : Int64) - (v0 * v0))) * ((2 : Int64) - (v0 * (v0 * ((2 : Int64) - (v0 * v0)))))) * ((2 : Int64) - (v0 * ((v0 * ((2 : Int64) - (v0 * v0))) * ((2 : Int64) - (v0 * (v0 * ((2 : Int64) - (v0 * v0))))))))) * ((2 : Int64) - (v0 * (((v0 * ((2 : Int64) - (v0 * v0))) * ((2 : Int64) - (v0 * (v0 * ((2 : Int64) - (v0 * v0)))))) * ((2 : Int64) - (v0 * ((v0 * ((2 : Int64) - (v0 * v0))) * ((2 : Int64) - (v0 * (v0 * ((2 : Int64) - (v0 * v0)))))))))))))))), .second] [(.long (((((v0 * ((2 : Int64) - (v0 * v0))) * ((2 : Int64) - (v0 * (v0 * ((2 : Int64) - (v0 * v0)))))) * ((2 : Int64) - (v0 * ((v0 * ((2 : Int64) - (v0 * v0))) * ((2 : Int64) - (v0 * (v0 * ((2 : Int64) - (v0 * v0))))))))) * ((2 : Int64) - (v0 * (((v0 * ((2 : Int64) - (v0 * v0))) * ((2 : Int64) - (v0 * (v0 * ((2 : Int64) - (v0 * v0)))))) * ((2 : Int64) - (v0 * ((v0 * ((2 : Int64) - (v0 * v0))) * ((2 : Int64) - (v0 * (v0 * ((2 : Int64) - (v0 * v0)))))))))))) * ((2 : Int64) - (v0 * ((((v0 * ((2 : Int64) - (v0 * v0))) * ((2 : Int64) - (v0 * (v0 * ((2 : Int64) - (v0 * v0)))))) * ((2 : Int64) - (v0 * ((v0 * ((2 : Int64) - (v0 * v0))) * ((2 : Int64) - (v0 * (v0 * ((2 : Int64) - (v0 * v0))))))))) * ((2 : Int64) - (v0 * (((v0 * ((2 : Int64) - (v0 * v0))) * ((2 : Int64) - (v0 * (v0 * ((2 : Int64) - (v0 * v0)))))) * ((2 : Int64) - (v0 * ((v0 * ((2 : Int64) - (v0 * v0))) * ((2 : Int64) - (v0 * (v0 * ((2 : Int64) - (v0 * v0))))))))))))))))])) _
  rw [show (F3_0 v0) = (((((v0 * ((2 : Int64) - (v0 * v0))) * ((2 : Int64) - (v0 * (v0 * ((2 : Int64) - (v0 * v0)))))) * ((2 : Int64) - (v0 * ((v0 * ((2 : Int64) - (v0 * v0))) * ((2 : Int64) - (v0 * (v0 * ((2 : Int64) - (v0 * v0))))))))) * ((2 : Int64) - (v0 * (((v0 * ((2 : Int64) - (v0 * v0))) * ((2 : Int64) - (v0 * (v0 * ((2 : Int64) - (v0 * v0)))))) * ((2 : Int64) - (v0 * ((v0 * ((2 : Int64) - (v0 * v0))) * ((2 : Int64) - (v0 * (v0 * ((2 : Int64) - (v0 * v0)))))))))))) * ((2 : Int64) - (v0 * ((((v0 * ((2 : Int64) - (v0 * v0))) * ((2 : Int64) - (v0 * (v0 * ((2 : Int64) - (v0 * v0)))))) * ((2 : Int64) - (v0 * ((v0 * ((2 : Int64) - (v0 * v0))) * ((2 : Int64) - (v0 * (v0 * ((2 : Int64) - (v0 * v0))))))))) * ((2 : Int64) - (v0 * (((v0 * ((2 : Int64) - (v0 * v0))) * ((2 : Int64) - (v0 * (v0 * ((2 : Int64) - (v0 * v0)))))) * ((2 : Int64) - (v0 * ((v0 * ((2 : Int64) - (v0 * v0))) * ((2 : Int64) - (v0 * (v0 * ((2 : Int64) - (v0 * v0))))))))))))))) from rfl] at hr
  exact X.lreturnOut hx hret (hb hby d3_53) hr
theorem pn_3 : plainName "com/example/defacto/defacto/index/ChunkTermsHashPinLaw" = true := by first | (simp [plainName, overriddenIn]; done) | decide +kernel
theorem ef_3 (m : MethodId) (q0 : Int64) : entryFrame m #[(.long q0)] 4 = mkF m 0 #[.val (.long q0), .second, .unset, .unset] [] := by first | (simp [entryFrame, mkF, argsToLocals, Value.category]; done) | rfl
def Q_rm3 (Z : State) (q0 : Int64) (h0 : Heap) (n0 : Nat) (v : Option Value) (h : Heap) (L : List Loc) : Prop := (v = some (.long (F3_0 q0)) ∧ Fr n0 L ∧ h = h0)
set_option maxRecDepth 65536 in
set_option maxHeartbeats 40000000 in
theorem rm3 (l : Launch) (Z : State) (a0 : Array Value) (hw : ∀ d ∈ tables_1, d.before a0 Z = true) (ws : List Jvm.Cond) (q0 : Int64) (h0 : Heap) (n0 : Nat) (Z0 : n0 ≤ h0.size) :
    MetFree l (⟨"com/example/defacto/defacto/index/ChunkTermsHashPinLaw", "inverse", "(J)J"⟩ : MethodName) (head1 (Jvm.Cond.code (⟨"com/example/defacto/defacto/index/ChunkTermsHashPinLaw", "inverse", "(J)J"⟩ : MethodName) method_3_code 4 (some .long) :: ws) ({ frames := 0, cells := 0, slots := 0, locals := 0 } : Room)) (fun a U => a = #[(.long q0)] ∧ Z.Warmed39 U.vm ∧ U.heap = h0) (fun _ _ _ _ _ => True) (fun _ U o U' => ∃ v L, o = .returned v ∧ Q_rm3 Z q0 h0 n0 v U'.heap L ∧ FrameEnd U o U' L ({ frames := 0, cells := 0, slots := 0, locals := 0 } : Room).cells ({ frames := 0, cells := 0, slots := 0, locals := 0 } : Room).slots) := by
  refine MetFree.of_bodySF (plainFor_of_name pn_3) hisR ?_
  intro p e s m args below meth c s₁ Bd hml0 hP hK
  obtain ⟨rfl, hZ, hh⟩ := hP
  have hx := Bd.exec
  have hby := Bd.bytes
  have hml : c.maxLocals = 4 := hml0
  have hown : s.vm.findClass "com/example/defacto/defacto/index/ChunkTermsHashPinLaw" = some m.cls := findClass_of_methodNamed Bd.named
  have hnm := (name_of_methodNamed Bd.named Bd.method).1
  have X0 : Stand p l e ({ frames := 0, cells := 0, slots := 0, locals := 0 } : Room) s m #[(.long q0)] below meth c s₁ [] 0 0 := Stand.of_body Bd
  have e0 : s₁.heap = h0 := by rw [← hh, Bd.state]; rfl
  have N0 := Fr.nil n0
  have pre0 : ∀ t, Steps p.tables e below (s₁.setTop (mkF m 0 #[.val (.long q0), .second, .unset, .unset] [])) t → Steps p.tables e below (s₁.setTop (entryFrame m #[(.long q0)] 4)) t := fun t k => castTop (ef_3 m q0) k
  obtain ⟨fs, hr, hrun, hended, hW, hsame⟩ := X0.leave (v := some (.long (F3_0 q0))) (fun h => by rw [Bd.returns] at h; cases h)
  refine ⟨_, _, pre0 _ ?_, hrun, hended, _, _, rfl, ⟨rfl, N0, e0⟩, ⟨_, rfl⟩, hW, hsame.mono (by decide) (by decide)⟩
  exact b3_0 X0 hx hZ hw hby hown q0 Bd.returns hr
theorem d2_0 : decode method_4_code 0 = .ok (.lload_n 0, 1) := by decide +kernel
theorem d2_1 : decode method_4_code 1 = .ok (.lload_n 0, 1) := by decide +kernel
theorem d2_2 : decode method_4_code 2 = .ok (.bipush 33, 2) := by decide +kernel
theorem d2_4 : decode method_4_code 4 = .ok (.lushr, 1) := by decide +kernel
theorem d2_5 : decode method_4_code 5 = .ok (.lxor, 1) := by decide +kernel
theorem d2_6 : decode method_4_code 6 = .ok (.lstore_n 2, 1) := by decide +kernel
theorem d2_7 : decode method_4_code 7 = .ok (.lload_n 2, 1) := by decide +kernel
theorem d2_8 : decode method_4_code 8 = .ok (.ldc2_w 25, 3) := by decide +kernel
theorem d2_11 : decode method_4_code 11 = .ok (.invokestatic 27, 3) := by decide +kernel
theorem d2_14 : decode method_4_code 14 = .ok (.lmul, 1) := by decide +kernel
theorem d2_15 : decode method_4_code 15 = .ok (.lstore_n 2, 1) := by decide +kernel
theorem d2_16 : decode method_4_code 16 = .ok (.lload_n 2, 1) := by decide +kernel
theorem d2_17 : decode method_4_code 17 = .ok (.lload_n 2, 1) := by decide +kernel
theorem d2_18 : decode method_4_code 18 = .ok (.bipush 33, 2) := by decide +kernel
theorem d2_20 : decode method_4_code 20 = .ok (.lushr, 1) := by decide +kernel
theorem d2_21 : decode method_4_code 21 = .ok (.lxor, 1) := by decide +kernel
theorem d2_22 : decode method_4_code 22 = .ok (.lstore_n 2, 1) := by decide +kernel
theorem d2_23 : decode method_4_code 23 = .ok (.lload_n 2, 1) := by decide +kernel
theorem d2_24 : decode method_4_code 24 = .ok (.ldc2_w 30, 3) := by decide +kernel
theorem d2_27 : decode method_4_code 27 = .ok (.invokestatic 27, 3) := by decide +kernel
theorem d2_30 : decode method_4_code 30 = .ok (.lmul, 1) := by decide +kernel
theorem d2_31 : decode method_4_code 31 = .ok (.lstore_n 2, 1) := by decide +kernel
theorem d2_32 : decode method_4_code 32 = .ok (.lload_n 2, 1) := by decide +kernel
theorem d2_33 : decode method_4_code 33 = .ok (.lload_n 2, 1) := by decide +kernel
theorem d2_34 : decode method_4_code 34 = .ok (.bipush 33, 2) := by decide +kernel
theorem d2_36 : decode method_4_code 36 = .ok (.lushr, 1) := by decide +kernel
theorem d2_37 : decode method_4_code 37 = .ok (.lxor, 1) := by decide +kernel
theorem d2_38 : decode method_4_code 38 = .ok (.lreturn, 1) := by decide +kernel
def F2_0 (q0 : Int64) : Int64 := (xs33 ((xs33 ((xs33 q0) * (F3_0 (-4265267296055464877 : Int64)))) * (F3_0 (-49064778989728563 : Int64))))
theorem pn_2 : plainName "com/example/defacto/defacto/index/ChunkTermsHashPinLaw" = true := by first | (simp [plainName, overriddenIn]; done) | decide +kernel
theorem ef_2 (m : MethodId) (q0 : Int64) : entryFrame m #[(.long q0)] 4 = mkF m 0 #[.val (.long q0), .second, .unset, .unset] [] := by first | (simp [entryFrame, mkF, argsToLocals, Value.category]; done) | rfl
def Q_rm2 (Z : State) (q0 : Int64) (h0 : Heap) (n0 : Nat) (v : Option Value) (h : Heap) (L : List Loc) : Prop := (v = some (.long (F2_0 q0)) ∧ Fr n0 L ∧ h = h0)
set_option maxRecDepth 65536 in
set_option maxHeartbeats 40000000 in
theorem rm2 (l : Launch) (Z : State) (a0 : Array Value) (hw : ∀ d ∈ tables_1, d.before a0 Z = true) (ws : List Jvm.Cond) (q0 : Int64) (h0 : Heap) (n0 : Nat) (Z0 : n0 ≤ h0.size) :
    MetFree l (⟨"com/example/defacto/defacto/index/ChunkTermsHashPinLaw", "unmix", "(J)J"⟩ : MethodName) (head1 (Jvm.Cond.code (⟨"com/example/defacto/defacto/index/ChunkTermsHashPinLaw", "unmix", "(J)J"⟩ : MethodName) method_4_code 4 (some .long) :: ws) ({ frames := 1, cells := 0, slots := 0, locals := 17 } : Room)) (fun a U => a = #[(.long q0)] ∧ Z.Warmed39 U.vm ∧ U.heap = h0) (fun _ _ _ _ _ => True) (fun _ U o U' => ∃ v L, o = .returned v ∧ Q_rm2 Z q0 h0 n0 v U'.heap L ∧ FrameEnd U o U' L ({ frames := 1, cells := 0, slots := 0, locals := 17 } : Room).cells ({ frames := 1, cells := 0, slots := 0, locals := 17 } : Room).slots) := by
  refine MetFree.of_bodySF (plainFor_of_name pn_2) hisR ?_
  intro p e s m args below meth c s₁ Bd hml0 hP hK
  obtain ⟨rfl, hZ, hh⟩ := hP
  have hx := Bd.exec
  have hby := Bd.bytes
  have hml : c.maxLocals = 4 := hml0
  have hown : s.vm.findClass "com/example/defacto/defacto/index/ChunkTermsHashPinLaw" = some m.cls := findClass_of_methodNamed Bd.named
  have hnm := (name_of_methodNamed Bd.named Bd.method).1
  have X0 : Stand p l e ({ frames := 1, cells := 0, slots := 0, locals := 17 } : Room) s m #[(.long q0)] below meth c s₁ [] 0 0 := Stand.of_body Bd
  have e0 : s₁.heap = h0 := by rw [← hh, Bd.state]; rfl
  have N0 := Fr.nil n0
  have pre0 : ∀ t, Steps p.tables e below (s₁.setTop (mkF m 0 #[.val (.long q0), .second, .unset, .unset] [])) t → Steps p.tables e below (s₁.setTop (entryFrame m #[(.long q0)] 4)) t := fun t k => castTop (ef_2 m q0) k
  obtain ⟨_, _, ⟨T1, L1, k1, n1⟩, -, X1, ⟨Lc1, hQ1, l1, y1, z1⟩, st1⟩ := Jvm.LawKit.callS X0 hx (y := (⟨"com/example/defacto/defacto/index/ChunkTermsHashPinLaw", "inverse", "(J)J"⟩ : MethodName)) hown (mvT hZ (hw _ (List.mem_of_getElem? (i := 13) rfl))) (mvT hZ (hw _ (List.mem_of_getElem? (i := 14) rfl))) (mvT hZ (hw _ (List.mem_of_getElem? (i := 10) rfl))) (mvT hZ (hw _ (List.mem_of_getElem? (i := 15) rfl))) (by decide) (backOf (W := 2) (rm3 l Z a0 hw [] (-4265267296055464877 : Int64) h0 n0 Z0) hZ (hw _ (List.mem_of_getElem? (i := 15) rfl)) (hw _ (List.mem_of_getElem? (i := 10) rfl)) (by decide) (by decide)) (g := (mkF m 11 #[.val (.long q0), .second, .val (.long (xs33 q0)), .second] [(.long (-4265267296055464877 : Int64)), (.long (xs33 q0))])) rfl (by rw [hml]; rfl) (argsL := [(.long (-4265267296055464877 : Int64))]) (rest := [(.long (xs33 q0))]) (lenOf pd0 rfl) rfl (by show 2 * 0 + _ ≤ _; exact Nat.le_of_eq rfl) (hb hby d2_11) (fun _ _ => ⟨rfl, e0, (by decide : 0 + 0 ≤ _), (by decide : 0 + 0 ≤ _)⟩)
  dsimp only [Pt.U, Pt.locs, Pt.cells, Pt.slots] at X1 l1 y1 z1 st1 hQ1
  subst l1 y1 z1
  obtain ⟨rfl, N1q, e1⟩ := hQ1
  have N1 := Fr.app N0 N1q
  obtain ⟨_, _, ⟨T2, L2, k2, n2⟩, -, X2, ⟨Lc2, hQ2, l2, y2, z2⟩, st2⟩ := Jvm.LawKit.callS X1 hx (y := (⟨"com/example/defacto/defacto/index/ChunkTermsHashPinLaw", "inverse", "(J)J"⟩ : MethodName)) hown (mvT hZ (hw _ (List.mem_of_getElem? (i := 13) rfl))) (mvT hZ (hw _ (List.mem_of_getElem? (i := 14) rfl))) (mvT hZ (hw _ (List.mem_of_getElem? (i := 10) rfl))) (mvT hZ (hw _ (List.mem_of_getElem? (i := 15) rfl))) (by decide) (backOf (W := 2) (rm3 l Z a0 hw [] (-49064778989728563 : Int64) h0 n0 Z0) hZ (hw _ (List.mem_of_getElem? (i := 15) rfl)) (hw _ (List.mem_of_getElem? (i := 10) rfl)) (by decide) (by decide)) (g := (mkF m 27 #[.val (.long q0), .second, .val (.long (xs33 ((xs33 q0) * (F3_0 (-4265267296055464877 : Int64))))), .second] [(.long (-49064778989728563 : Int64)), (.long (xs33 ((xs33 q0) * (F3_0 (-4265267296055464877 : Int64)))))])) rfl (by rw [hml]; rfl) (argsL := [(.long (-49064778989728563 : Int64))]) (rest := [(.long (xs33 ((xs33 q0) * (F3_0 (-4265267296055464877 : Int64)))))]) (lenOf pd0 rfl) rfl (by show 2 * 0 + _ ≤ _; exact Nat.le_of_eq rfl) (hb hby d2_27) (fun _ _ => ⟨rfl, e1, (by decide : 0 + 0 ≤ _), (by decide : 0 + 0 ≤ _)⟩)
  dsimp only [Pt.U, Pt.locs, Pt.cells, Pt.slots] at X2 l2 y2 z2 st2 hQ2
  subst l2 y2 z2
  obtain ⟨rfl, N2q, e2⟩ := hQ2
  have N2 := Fr.app N1 N2q
  obtain ⟨fs, hr, hrun, hended, hW, hsame⟩ := X2.leave (v := some (.long (xs33 ((xs33 ((xs33 q0) * (F3_0 (-4265267296055464877 : Int64)))) * (F3_0 (-49064778989728563 : Int64)))))) (fun h => by rw [Bd.returns] at h; cases h)
  refine ⟨_, _, pre0 _ ?_, hrun, hended, _, _, rfl, ⟨rfl, N2, e2⟩, ⟨_, rfl⟩, hW, hsame.mono (by decide) (by decide)⟩
  show Steps p.tables e below (s₁.setTop (mkF m 0 #[.val (.long q0), .second, .unset, .unset] [])) _
  refine XS.lloadN X0.here hx rfl (hb hby d2_0) rfl ?_
  show Steps p.tables e below (s₁.setTop (mkF m 1 #[.val (.long q0), .second, .unset, .unset] [(.long q0)])) _
  refine XS.lloadN X0.here hx rfl (hb hby d2_1) rfl ?_
  show Steps p.tables e below (s₁.setTop (mkF m 2 #[.val (.long q0), .second, .unset, .unset] [(.long q0), (.long q0)])) _
  refine XS.bipush X0.here hx rfl (hb hby d2_2) ?_
  show Steps p.tables e below (s₁.setTop (mkF m 4 #[.val (.long q0), .second, .unset, .unset] [(.int (33 : Int32)), (.long q0), (.long q0)])) _
  refine XS.lushr X0.here hx rfl (hb hby d2_4) rfl ?_
  show Steps p.tables e below (s₁.setTop (mkF m 5 #[.val (.long q0), .second, .unset, .unset] [(.long ((q0.toUInt64 >>> ((33 : Int32) &&& 0x3f).toInt64.toUInt64).toInt64)), (.long q0)])) _
  refine XS.lxor X0.here hx rfl (hb hby d2_5) rfl ?_
  show Steps p.tables e below (s₁.setTop (mkF m 6 #[.val (.long q0), .second, .unset, .unset] [(.long (xs33 q0))])) _
  refine XS.lstoreN X0.here hx rfl (hb hby d2_6) rfl (l' := #[.val (.long q0), .second, .val (.long (xs33 q0)), .second]) rfl ?_
  show Steps p.tables e below (s₁.setTop (mkF m 7 #[.val (.long q0), .second, .val (.long (xs33 q0)), .second] [])) _
  refine XS.lloadN X0.here hx rfl (hb hby d2_7) rfl ?_
  show Steps p.tables e below (s₁.setTop (mkF m 8 #[.val (.long q0), .second, .val (.long (xs33 q0)), .second] [(.long (xs33 q0))])) _
  refine X0.ldc2Long hx hown (mvT hZ (hw _ (List.mem_of_getElem? (i := 12) rfl))) (g := (mkF m 8 #[.val (.long q0), .second, .val (.long (xs33 q0)), .second] [(.long (xs33 q0))])) rfl (hb hby d2_8) _ ?_
  show Steps p.tables e below (s₁.setTop (mkF m 11 #[.val (.long q0), .second, .val (.long (xs33 q0)), .second] [(.long (-4265267296055464877 : Int64)), (.long (xs33 q0))])) _
  refine st1 _ ?_
  show Steps p.tables e below (T1.setTop (mkF m 14 #[.val (.long q0), .second, .val (.long (xs33 q0)), .second] [(.long (F3_0 (-4265267296055464877 : Int64))), (.long (xs33 q0))])) _
  refine XS.lmul X1.here hx rfl (hb hby d2_14) rfl ?_
  show Steps p.tables e below (T1.setTop (mkF m 15 #[.val (.long q0), .second, .val (.long (xs33 q0)), .second] [(.long ((xs33 q0) * (F3_0 (-4265267296055464877 : Int64))))])) _
  refine XS.lstoreN X1.here hx rfl (hb hby d2_15) rfl (l' := #[.val (.long q0), .second, .val (.long ((xs33 q0) * (F3_0 (-4265267296055464877 : Int64)))), .second]) rfl ?_
  show Steps p.tables e below (T1.setTop (mkF m 16 #[.val (.long q0), .second, .val (.long ((xs33 q0) * (F3_0 (-4265267296055464877 : Int64)))), .second] [])) _
  refine XS.lloadN X1.here hx rfl (hb hby d2_16) rfl ?_
  show Steps p.tables e below (T1.setTop (mkF m 17 #[.val (.long q0), .second, .val (.long ((xs33 q0) * (F3_0 (-4265267296055464877 : Int64)))), .second] [(.long ((xs33 q0) * (F3_0 (-4265267296055464877 : Int64))))])) _
  refine XS.lloadN X1.here hx rfl (hb hby d2_17) rfl ?_
  show Steps p.tables e below (T1.setTop (mkF m 18 #[.val (.long q0), .second, .val (.long ((xs33 q0) * (F3_0 (-4265267296055464877 : Int64)))), .second] [(.long ((xs33 q0) * (F3_0 (-4265267296055464877 : Int64)))), (.long ((xs33 q0) * (F3_0 (-4265267296055464877 : Int64))))])) _
  refine XS.bipush X1.here hx rfl (hb hby d2_18) ?_
  show Steps p.tables e below (T1.setTop (mkF m 20 #[.val (.long q0), .second, .val (.long ((xs33 q0) * (F3_0 (-4265267296055464877 : Int64)))), .second] [(.int (33 : Int32)), (.long ((xs33 q0) * (F3_0 (-4265267296055464877 : Int64)))), (.long ((xs33 q0) * (F3_0 (-4265267296055464877 : Int64))))])) _
  refine XS.lushr X1.here hx rfl (hb hby d2_20) rfl ?_
  show Steps p.tables e below (T1.setTop (mkF m 21 #[.val (.long q0), .second, .val (.long ((xs33 q0) * (F3_0 (-4265267296055464877 : Int64)))), .second] [(.long ((((xs33 q0) * (F3_0 (-4265267296055464877 : Int64))).toUInt64 >>> ((33 : Int32) &&& 0x3f).toInt64.toUInt64).toInt64)), (.long ((xs33 q0) * (F3_0 (-4265267296055464877 : Int64))))])) _
  refine XS.lxor X1.here hx rfl (hb hby d2_21) rfl ?_
  show Steps p.tables e below (T1.setTop (mkF m 22 #[.val (.long q0), .second, .val (.long ((xs33 q0) * (F3_0 (-4265267296055464877 : Int64)))), .second] [(.long (xs33 ((xs33 q0) * (F3_0 (-4265267296055464877 : Int64)))))])) _
  refine XS.lstoreN X1.here hx rfl (hb hby d2_22) rfl (l' := #[.val (.long q0), .second, .val (.long (xs33 ((xs33 q0) * (F3_0 (-4265267296055464877 : Int64))))), .second]) rfl ?_
  show Steps p.tables e below (T1.setTop (mkF m 23 #[.val (.long q0), .second, .val (.long (xs33 ((xs33 q0) * (F3_0 (-4265267296055464877 : Int64))))), .second] [])) _
  refine XS.lloadN X1.here hx rfl (hb hby d2_23) rfl ?_
  show Steps p.tables e below (T1.setTop (mkF m 24 #[.val (.long q0), .second, .val (.long (xs33 ((xs33 q0) * (F3_0 (-4265267296055464877 : Int64))))), .second] [(.long (xs33 ((xs33 q0) * (F3_0 (-4265267296055464877 : Int64)))))])) _
  refine X1.ldc2Long hx hown (mvT hZ (hw _ (List.mem_of_getElem? (i := 17) rfl))) (g := (mkF m 24 #[.val (.long q0), .second, .val (.long (xs33 ((xs33 q0) * (F3_0 (-4265267296055464877 : Int64))))), .second] [(.long (xs33 ((xs33 q0) * (F3_0 (-4265267296055464877 : Int64)))))])) rfl (hb hby d2_24) _ ?_
  show Steps p.tables e below (T1.setTop (mkF m 27 #[.val (.long q0), .second, .val (.long (xs33 ((xs33 q0) * (F3_0 (-4265267296055464877 : Int64))))), .second] [(.long (-49064778989728563 : Int64)), (.long (xs33 ((xs33 q0) * (F3_0 (-4265267296055464877 : Int64)))))])) _
  refine st2 _ ?_
  show Steps p.tables e below (T2.setTop (mkF m 30 #[.val (.long q0), .second, .val (.long (xs33 ((xs33 q0) * (F3_0 (-4265267296055464877 : Int64))))), .second] [(.long (F3_0 (-49064778989728563 : Int64))), (.long (xs33 ((xs33 q0) * (F3_0 (-4265267296055464877 : Int64)))))])) _
  refine XS.lmul X2.here hx rfl (hb hby d2_30) rfl ?_
  show Steps p.tables e below (T2.setTop (mkF m 31 #[.val (.long q0), .second, .val (.long (xs33 ((xs33 q0) * (F3_0 (-4265267296055464877 : Int64))))), .second] [(.long ((xs33 ((xs33 q0) * (F3_0 (-4265267296055464877 : Int64)))) * (F3_0 (-49064778989728563 : Int64))))])) _
  refine XS.lstoreN X2.here hx rfl (hb hby d2_31) rfl (l' := #[.val (.long q0), .second, .val (.long ((xs33 ((xs33 q0) * (F3_0 (-4265267296055464877 : Int64)))) * (F3_0 (-49064778989728563 : Int64)))), .second]) rfl ?_
  show Steps p.tables e below (T2.setTop (mkF m 32 #[.val (.long q0), .second, .val (.long ((xs33 ((xs33 q0) * (F3_0 (-4265267296055464877 : Int64)))) * (F3_0 (-49064778989728563 : Int64)))), .second] [])) _
  refine XS.lloadN X2.here hx rfl (hb hby d2_32) rfl ?_
  show Steps p.tables e below (T2.setTop (mkF m 33 #[.val (.long q0), .second, .val (.long ((xs33 ((xs33 q0) * (F3_0 (-4265267296055464877 : Int64)))) * (F3_0 (-49064778989728563 : Int64)))), .second] [(.long ((xs33 ((xs33 q0) * (F3_0 (-4265267296055464877 : Int64)))) * (F3_0 (-49064778989728563 : Int64))))])) _
  refine XS.lloadN X2.here hx rfl (hb hby d2_33) rfl ?_
  show Steps p.tables e below (T2.setTop (mkF m 34 #[.val (.long q0), .second, .val (.long ((xs33 ((xs33 q0) * (F3_0 (-4265267296055464877 : Int64)))) * (F3_0 (-49064778989728563 : Int64)))), .second] [(.long ((xs33 ((xs33 q0) * (F3_0 (-4265267296055464877 : Int64)))) * (F3_0 (-49064778989728563 : Int64)))), (.long ((xs33 ((xs33 q0) * (F3_0 (-4265267296055464877 : Int64)))) * (F3_0 (-49064778989728563 : Int64))))])) _
  refine XS.bipush X2.here hx rfl (hb hby d2_34) ?_
  show Steps p.tables e below (T2.setTop (mkF m 36 #[.val (.long q0), .second, .val (.long ((xs33 ((xs33 q0) * (F3_0 (-4265267296055464877 : Int64)))) * (F3_0 (-49064778989728563 : Int64)))), .second] [(.int (33 : Int32)), (.long ((xs33 ((xs33 q0) * (F3_0 (-4265267296055464877 : Int64)))) * (F3_0 (-49064778989728563 : Int64)))), (.long ((xs33 ((xs33 q0) * (F3_0 (-4265267296055464877 : Int64)))) * (F3_0 (-49064778989728563 : Int64))))])) _
  refine XS.lushr X2.here hx rfl (hb hby d2_36) rfl ?_
  show Steps p.tables e below (T2.setTop (mkF m 37 #[.val (.long q0), .second, .val (.long ((xs33 ((xs33 q0) * (F3_0 (-4265267296055464877 : Int64)))) * (F3_0 (-49064778989728563 : Int64)))), .second] [(.long ((((xs33 ((xs33 q0) * (F3_0 (-4265267296055464877 : Int64)))) * (F3_0 (-49064778989728563 : Int64))).toUInt64 >>> ((33 : Int32) &&& 0x3f).toInt64.toUInt64).toInt64)), (.long ((xs33 ((xs33 q0) * (F3_0 (-4265267296055464877 : Int64)))) * (F3_0 (-49064778989728563 : Int64))))])) _
  refine XS.lxor X2.here hx rfl (hb hby d2_37) rfl ?_
  show Steps p.tables e below (T2.setTop (mkF m 38 #[.val (.long q0), .second, .val (.long ((xs33 ((xs33 q0) * (F3_0 (-4265267296055464877 : Int64)))) * (F3_0 (-49064778989728563 : Int64)))), .second] [(.long (xs33 ((xs33 ((xs33 q0) * (F3_0 (-4265267296055464877 : Int64)))) * (F3_0 (-49064778989728563 : Int64)))))])) _
  exact X2.lreturnOut hx Bd.returns (hb hby d2_38) hr
theorem d1_0 : decode prog_28_method_2_code 0 = .ok (.ldc2_w 64, 3) := by decide +kernel
theorem d1_3 : decode prog_28_method_2_code 3 = .ok (.lstore_n 2, 1) := by decide +kernel
theorem d1_4 : decode prog_28_method_2_code 4 = .ok (.iconst 0, 1) := by decide +kernel
theorem d1_5 : decode prog_28_method_2_code 5 = .ok (.istore 4, 2) := by decide +kernel
theorem d1_7 : decode prog_28_method_2_code 7 = .ok (.iload 4, 2) := by decide +kernel
theorem d1_9 : decode prog_28_method_2_code 9 = .ok (.iload_n 1, 1) := by decide +kernel
theorem d1_10 : decode prog_28_method_2_code 10 = .ok (.if_icmp .ge 25, 3) := by decide +kernel
theorem d1_13 : decode prog_28_method_2_code 13 = .ok (.lload_n 2, 1) := by decide +kernel
theorem d1_14 : decode prog_28_method_2_code 14 = .ok (.aload_n 0, 1) := by decide +kernel
theorem d1_15 : decode prog_28_method_2_code 15 = .ok (.iload 4, 2) := by decide +kernel
theorem d1_17 : decode prog_28_method_2_code 17 = .ok (.baload, 1) := by decide +kernel
theorem d1_18 : decode prog_28_method_2_code 18 = .ok (.sipush 255, 3) := by decide +kernel
theorem d1_21 : decode prog_28_method_2_code 21 = .ok (.iand, 1) := by decide +kernel
theorem d1_22 : decode prog_28_method_2_code 22 = .ok (.i2l, 1) := by decide +kernel
theorem d1_23 : decode prog_28_method_2_code 23 = .ok (.lxor, 1) := by decide +kernel
theorem d1_24 : decode prog_28_method_2_code 24 = .ok (.ldc2_w 66, 3) := by decide +kernel
theorem d1_27 : decode prog_28_method_2_code 27 = .ok (.lmul, 1) := by decide +kernel
theorem d1_28 : decode prog_28_method_2_code 28 = .ok (.lstore_n 2, 1) := by decide +kernel
theorem d1_29 : decode prog_28_method_2_code 29 = .ok (.iinc 4 1, 3) := by decide +kernel
theorem d1_32 : decode prog_28_method_2_code 32 = .ok (.goto (-25), 3) := by decide +kernel
theorem d1_35 : decode prog_28_method_2_code 35 = .ok (.lload_n 2, 1) := by decide +kernel
theorem d1_36 : decode prog_28_method_2_code 36 = .ok (.lload_n 2, 1) := by decide +kernel
theorem d1_37 : decode prog_28_method_2_code 37 = .ok (.bipush 33, 2) := by decide +kernel
theorem d1_39 : decode prog_28_method_2_code 39 = .ok (.lushr, 1) := by decide +kernel
theorem d1_40 : decode prog_28_method_2_code 40 = .ok (.lxor, 1) := by decide +kernel
theorem d1_41 : decode prog_28_method_2_code 41 = .ok (.ldc2_w 68, 3) := by decide +kernel
theorem d1_44 : decode prog_28_method_2_code 44 = .ok (.lmul, 1) := by decide +kernel
theorem d1_45 : decode prog_28_method_2_code 45 = .ok (.lstore_n 2, 1) := by decide +kernel
theorem d1_46 : decode prog_28_method_2_code 46 = .ok (.lload_n 2, 1) := by decide +kernel
theorem d1_47 : decode prog_28_method_2_code 47 = .ok (.lload_n 2, 1) := by decide +kernel
theorem d1_48 : decode prog_28_method_2_code 48 = .ok (.bipush 33, 2) := by decide +kernel
theorem d1_50 : decode prog_28_method_2_code 50 = .ok (.lushr, 1) := by decide +kernel
theorem d1_51 : decode prog_28_method_2_code 51 = .ok (.lxor, 1) := by decide +kernel
theorem d1_52 : decode prog_28_method_2_code 52 = .ok (.ldc2_w 70, 3) := by decide +kernel
theorem d1_55 : decode prog_28_method_2_code 55 = .ok (.lmul, 1) := by decide +kernel
theorem d1_56 : decode prog_28_method_2_code 56 = .ok (.lstore_n 2, 1) := by decide +kernel
theorem d1_57 : decode prog_28_method_2_code 57 = .ok (.lload_n 2, 1) := by decide +kernel
theorem d1_58 : decode prog_28_method_2_code 58 = .ok (.lload_n 2, 1) := by decide +kernel
theorem d1_59 : decode prog_28_method_2_code 59 = .ok (.bipush 33, 2) := by decide +kernel
theorem d1_61 : decode prog_28_method_2_code 61 = .ok (.lushr, 1) := by decide +kernel
theorem d1_62 : decode prog_28_method_2_code 62 = .ok (.lxor, 1) := by decide +kernel
theorem d1_63 : decode prog_28_method_2_code 63 = .ok (.lreturn, 1) := by decide +kernel
theorem own_turn {p : Program} {l : Launch} {e : Env} {R : Room} {s : State} {m : MethodId} {args : Array Value} {below : List Frame} {meth : Method} {c : Code} {T : State} {locs : List Loc} {cells slots : Nat} {Z : State} {a0 : Array Value} (X : Stand p l e R s m args below meth c T locs cells slots) (hx : p.tables.exec = Jvm.exec) (hZ : Z.Warmed39 s.vm) (hw : ∀ d ∈ tables_1, d.before a0 Z = true) (hby : c.code = prog_28_method_2_code) (hown : s.vm.findClass "com/example/defacto/defacto/index/ChunkTerms" = some m.cls) {hp : Heap} {v0 : Addr} {vs : List Int32} (e0 : T.heap = hp) (V : ArrL .byte Z hp v0 vs) (n : Int32) (h : Int64) (i : Int32) (hlt : i < n) (hj : ¬ i < 0 ∧ i.toNatClampNeg < vs.length) (target : State)
    (kt : Steps p.tables e below (T.setTop (mkF m 7 #[.val (.ref v0), .val (.int n), .val (.long (hst h (vs.getD i.toNatClampNeg 0))), .second, .val (.int (i + (1 : Int32)))] [])) target) : Steps p.tables e below (T.setTop (mkF m 7 #[.val (.ref v0), .val (.int n), .val (.long h), .second, .val (.int i)] [])) target := by
  show Steps p.tables e below (T.setTop (mkF m 7 #[.val (.ref v0), .val (.int n), .val (.long h), .second, .val (.int i)] [])) _
  refine XS.iload X.here hx rfl (hb hby d1_7) rfl ?_
  show Steps p.tables e below (T.setTop (mkF m 9 #[.val (.ref v0), .val (.int n), .val (.long h), .second, .val (.int i)] [(.int i)])) _
  refine XS.iloadN X.here hx rfl (hb hby d1_9) rfl ?_
  show Steps p.tables e below (T.setTop (mkF m 10 #[.val (.ref v0), .val (.int n), .val (.long h), .second, .val (.int i)] [(.int n), (.int i)])) _
  refine XS.icmpNo X.here hx rfl (hb hby d1_10) rfl (tlt hlt).2.1 ?_
  show Steps p.tables e below (T.setTop (mkF m 13 #[.val (.ref v0), .val (.int n), .val (.long h), .second, .val (.int i)] [])) _
  refine XS.lloadN X.here hx rfl (hb hby d1_13) rfl ?_
  show Steps p.tables e below (T.setTop (mkF m 14 #[.val (.ref v0), .val (.int n), .val (.long h), .second, .val (.int i)] [(.long h)])) _
  refine XS.aloadN X.here hx rfl (hb hby d1_14) rfl rfl ?_
  show Steps p.tables e below (T.setTop (mkF m 15 #[.val (.ref v0), .val (.int n), .val (.long h), .second, .val (.int i)] [(.ref v0), (.long h)])) _
  refine XS.iload X.here hx rfl (hb hby d1_15) rfl ?_
  show Steps p.tables e below (T.setTop (mkF m 17 #[.val (.ref v0), .val (.int n), .val (.long h), .second, .val (.int i)] [(.int i), (.ref v0), (.long h)])) _
  refine own_al_ldB X hx hZ e0 V (g := (mkF m 17 #[.val (.ref v0), .val (.int n), .val (.long h), .second, .val (.int i)] [(.int i), (.ref v0), (.long h)])) hj rfl rfl (hb hby d1_17) _ ?_
  show Steps p.tables e below (T.setTop (mkF m 18 #[.val (.ref v0), .val (.int n), .val (.long h), .second, .val (.int i)] [(.int (vs.getD i.toNatClampNeg 0)), (.long h)])) _
  refine XS.sipush X.here hx rfl (hb hby d1_18) ?_
  show Steps p.tables e below (T.setTop (mkF m 21 #[.val (.ref v0), .val (.int n), .val (.long h), .second, .val (.int i)] [(.int (255 : Int32)), (.int (vs.getD i.toNatClampNeg 0)), (.long h)])) _
  refine XS.iand X.here hx rfl (hb hby d1_21) rfl ?_
  show Steps p.tables e below (T.setTop (mkF m 22 #[.val (.ref v0), .val (.int n), .val (.long h), .second, .val (.int i)] [(.int ((vs.getD i.toNatClampNeg 0) &&& (255 : Int32))), (.long h)])) _
  refine XS.i2l X.here hx rfl (hb hby d1_22) rfl ?_
  show Steps p.tables e below (T.setTop (mkF m 23 #[.val (.ref v0), .val (.int n), .val (.long h), .second, .val (.int i)] [(.long (((vs.getD i.toNatClampNeg 0) &&& (255 : Int32)).toInt64)), (.long h)])) _
  refine XS.lxor X.here hx rfl (hb hby d1_23) rfl ?_
  show Steps p.tables e below (T.setTop (mkF m 24 #[.val (.ref v0), .val (.int n), .val (.long h), .second, .val (.int i)] [(.long (h ^^^ (((vs.getD i.toNatClampNeg 0) &&& (255 : Int32)).toInt64)))])) _
  refine X.ldc2Long hx hown (mvT hZ (hw _ (List.mem_of_getElem? (i := 18) rfl))) (g := (mkF m 24 #[.val (.ref v0), .val (.int n), .val (.long h), .second, .val (.int i)] [(.long (h ^^^ (((vs.getD i.toNatClampNeg 0) &&& (255 : Int32)).toInt64)))])) rfl (hb hby d1_24) _ ?_
  show Steps p.tables e below (T.setTop (mkF m 27 #[.val (.ref v0), .val (.int n), .val (.long h), .second, .val (.int i)] [(.long (1099511628211 : Int64)), (.long (h ^^^ (((vs.getD i.toNatClampNeg 0) &&& (255 : Int32)).toInt64)))])) _
  refine XS.lmul X.here hx rfl (hb hby d1_27) rfl ?_
  show Steps p.tables e below (T.setTop (mkF m 28 #[.val (.ref v0), .val (.int n), .val (.long h), .second, .val (.int i)] [(.long (hst h (vs.getD i.toNatClampNeg 0)))])) _
  refine XS.lstoreN X.here hx rfl (hb hby d1_28) rfl (l' := #[.val (.ref v0), .val (.int n), .val (.long (hst h (vs.getD i.toNatClampNeg 0))), .second, .val (.int i)]) rfl ?_
  show Steps p.tables e below (T.setTop (mkF m 29 #[.val (.ref v0), .val (.int n), .val (.long (hst h (vs.getD i.toNatClampNeg 0))), .second, .val (.int i)] [])) _
  refine XS.iinc X.here hx rfl (hb hby d1_29) rfl (l' := #[.val (.ref v0), .val (.int n), .val (.long (hst h (vs.getD i.toNatClampNeg 0))), .second, .val (.int (i + (1 : Int32)))]) rfl ?_
  show Steps p.tables e below (T.setTop (mkF m 32 #[.val (.ref v0), .val (.int n), .val (.long (hst h (vs.getD i.toNatClampNeg 0))), .second, .val (.int (i + (1 : Int32)))] [])) _
  refine XS.goto X.here hx rfl (pc0 := 32) (pc' := 7) rfl (hb hby d1_32) (by decide) (by decide) ?_
  exact kt
theorem own_loop {p : Program} {l : Launch} {e : Env} {R : Room} {s : State} {m : MethodId} {args : Array Value} {below : List Frame} {meth : Method} {c : Code} {T : State} {locs : List Loc} {cells slots : Nat} {Z : State} {a0 : Array Value} (X : Stand p l e R s m args below meth c T locs cells slots) (hx : p.tables.exec = Jvm.exec) (hZ : Z.Warmed39 s.vm) (hw : ∀ d ∈ tables_1, d.before a0 Z = true) (hby : c.code = prog_28_method_2_code) (hown : s.vm.findClass "com/example/defacto/defacto/index/ChunkTerms" = some m.cls) {hp : Heap} {v0 : Addr} {vs : List Int32} (e0 : T.heap = hp) (V : ArrL .byte Z hp v0 vs) (n : Int32) (hn : n.toInt ≤ vs.length) (hv : (vs.length : Int) < 2147483647) : ∀ (k : Nat) (i : Int32), 0 ≤ i.toInt → i.toInt + k = n.toInt → ∀ target,
    Steps p.tables e below (T.setTop (mkF m 35 #[.val (.ref v0), .val (.int n), .val (.long (hs vs n.toNatClampNeg)), .second, .val (.int n)] [])) target → Steps p.tables e below (T.setTop (mkF m 7 #[.val (.ref v0), .val (.int n), .val (.long (hs vs i.toNatClampNeg)), .second, .val (.int i)] [])) target := by
  intro k
  induction k with
  | zero =>
    intro i h0 hk target kt
    obtain rfl : i = n := by rw [← Int32.toInt_inj]; omega
    show Steps p.tables e below (T.setTop (mkF m 7 #[.val (.ref v0), .val (.int i), .val (.long (hs vs i.toNatClampNeg)), .second, .val (.int i)] [])) _
    refine XS.iload X.here hx rfl (hb hby d1_7) rfl ?_
    show Steps p.tables e below (T.setTop (mkF m 9 #[.val (.ref v0), .val (.int i), .val (.long (hs vs i.toNatClampNeg)), .second, .val (.int i)] [(.int i)])) _
    refine XS.iloadN X.here hx rfl (hb hby d1_9) rfl ?_
    show Steps p.tables e below (T.setTop (mkF m 10 #[.val (.ref v0), .val (.int i), .val (.long (hs vs i.toNatClampNeg)), .second, .val (.int i)] [(.int i), (.int i)])) _
    refine XS.icmpYes X.here hx rfl (pc0 := 10) (pc' := 35) rfl (hb hby d1_10) rfl (flt (by rw [Int32.lt_iff_toInt_lt]; omega)).2.1 (by decide) (by decide) ?_
    exact kt
  | succ k ih =>
    intro i h0 hk target kt
    have r := rng32 n
    have c := c_iadd i 1
    have r2 := rng32 (i + 1)
    have e1 : (1 : Int32).toInt = 1 := rfl
    have ei : (i + 1).toInt = i.toInt + 1 := by omega
    have en : (i + 1).toNatClampNeg = i.toNatClampNeg + 1 := by show (i + 1).toInt.toNat = i.toInt.toNat + 1; omega
    refine own_turn X hx hZ hw hby hown e0 V n (hs vs i.toNatClampNeg) i (by rw [Int32.lt_iff_toInt_lt]; omega) ⟨by rw [Int32.lt_iff_toInt_lt]; show ¬ i.toInt < 0; omega, by show i.toInt.toNat < _; omega⟩ _ ?_
    have q := ih (i + 1) (by omega) (by omega) target kt
    rw [en] at q
    exact q
def mix (x : Int64) : Int64 := (xs33 ((xs33 ((xs33 x) * (-49064778989728563 : Int64))) * (-4265267296055464877 : Int64)))
theorem pn_1 : plainName "com/example/defacto/defacto/index/ChunkTerms" = true := by first | (simp [plainName, overriddenIn]; done) | decide +kernel
theorem ef_1 (m : MethodId) (r0 : Addr) (p1 : Int32) : entryFrame m #[(.ref r0), (.int p1)] 5 = mkF m 0 #[.val (.ref r0), .val (.int p1), .unset, .unset, .unset] [] := by first | (simp [entryFrame, mkF, argsToLocals, Value.category]; done) | rfl
def Q_rm1 (Z : State) (r0 : Addr) (p1 : Int32) (vs : List Int32) (h0 : Heap) (n0 : Nat) (v : Option Value) (h : Heap) (L : List Loc) : Prop := (v = some (.long (mix (hs vs p1.toNatClampNeg))) ∧ Fr n0 L ∧ h = h0)
set_option maxRecDepth 65536 in
set_option maxHeartbeats 40000000 in
theorem rm1 (l : Launch) (Z : State) (a0 : Array Value) (hw : ∀ d ∈ tables_1, d.before a0 Z = true) (ws : List Jvm.Cond) (r0 : Addr) (p1 : Int32) (vs : List Int32) (h0 : Heap) (n0 : Nat) (Z0 : n0 ≤ h0.size) (V0 : ArrL .byte Z h0 r0 vs) (h1 : 0 ≤ p1.toInt) (hn : p1.toInt ≤ vs.length) (hv : (vs.length : Int) < 2147483647) :
    MetFree l (⟨"com/example/defacto/defacto/index/ChunkTerms", "hash", "([BI)J"⟩ : MethodName) (head1 (Jvm.Cond.code (⟨"com/example/defacto/defacto/index/ChunkTerms", "hash", "([BI)J"⟩ : MethodName) prog_28_method_2_code 5 (some .long) :: ws) ({ frames := 0, cells := 0, slots := 0, locals := 0 } : Room)) (fun a U => a = #[(.ref r0), (.int p1)] ∧ Z.Warmed39 U.vm ∧ U.heap = h0) (fun _ _ _ _ _ => True) (fun _ U o U' => ∃ v L, o = .returned v ∧ Q_rm1 Z r0 p1 vs h0 n0 v U'.heap L ∧ FrameEnd U o U' L ({ frames := 0, cells := 0, slots := 0, locals := 0 } : Room).cells ({ frames := 0, cells := 0, slots := 0, locals := 0 } : Room).slots) := by
  refine MetFree.of_bodySF (plainFor_of_name pn_1) hisR ?_
  intro p e s m args below meth c s₁ Bd hml0 hP hK
  obtain ⟨rfl, hZ, hh⟩ := hP
  have hx := Bd.exec
  have hby := Bd.bytes
  have hml : c.maxLocals = 5 := hml0
  have hown : s.vm.findClass "com/example/defacto/defacto/index/ChunkTerms" = some m.cls := findClass_of_methodNamed Bd.named
  have hnm := (name_of_methodNamed Bd.named Bd.method).1
  have X0 : Stand p l e ({ frames := 0, cells := 0, slots := 0, locals := 0 } : Room) s m #[(.ref r0), (.int p1)] below meth c s₁ [] 0 0 := Stand.of_body Bd
  have e0 : s₁.heap = h0 := by rw [← hh, Bd.state]; rfl
  have N0 := Fr.nil n0
  have pre0 : ∀ t, Steps p.tables e below (s₁.setTop (mkF m 0 #[.val (.ref r0), .val (.int p1), .unset, .unset, .unset] [])) t → Steps p.tables e below (s₁.setTop (entryFrame m #[(.ref r0), (.int p1)] 5)) t := fun t k => castTop (ef_1 m r0 p1) k
  obtain ⟨fs, hr, hrun, hended, hW, hsame⟩ := X0.leave (v := some (.long (xs33 ((xs33 ((xs33 (hs vs p1.toNatClampNeg)) * (-49064778989728563 : Int64))) * (-4265267296055464877 : Int64))))) (fun h => by rw [Bd.returns] at h; cases h)
  refine ⟨_, _, pre0 _ ?_, hrun, hended, _, _, rfl, ⟨rfl, N0, e0⟩, ⟨_, rfl⟩, hW, hsame.mono (by decide) (by decide)⟩
  show Steps p.tables e below (s₁.setTop (mkF m 0 #[.val (.ref r0), .val (.int p1), .unset, .unset, .unset] [])) _
  refine X0.ldc2Long hx hown (mvT hZ (hw _ (List.mem_of_getElem? (i := 5) rfl))) (g := (mkF m 0 #[.val (.ref r0), .val (.int p1), .unset, .unset, .unset] [])) rfl (hb hby d1_0) _ ?_
  show Steps p.tables e below (s₁.setTop (mkF m 3 #[.val (.ref r0), .val (.int p1), .unset, .unset, .unset] [(.long (-3750763034362895579 : Int64))])) _
  refine XS.lstoreN X0.here hx rfl (hb hby d1_3) rfl (l' := #[.val (.ref r0), .val (.int p1), .val (.long (-3750763034362895579 : Int64)), .second, .unset]) rfl ?_
  show Steps p.tables e below (s₁.setTop (mkF m 4 #[.val (.ref r0), .val (.int p1), .val (.long (-3750763034362895579 : Int64)), .second, .unset] [])) _
  refine XS.iconst X0.here hx rfl (hb hby d1_4) ?_
  show Steps p.tables e below (s₁.setTop (mkF m 5 #[.val (.ref r0), .val (.int p1), .val (.long (-3750763034362895579 : Int64)), .second, .unset] [(.int (0 : Int32))])) _
  refine XS.istore X0.here hx rfl (hb hby d1_5) rfl (l' := #[.val (.ref r0), .val (.int p1), .val (.long (-3750763034362895579 : Int64)), .second, .val (.int (0 : Int32))]) rfl ?_
  show Steps p.tables e below (s₁.setTop (mkF m 7 #[.val (.ref r0), .val (.int p1), .val (.long (-3750763034362895579 : Int64)), .second, .val (.int (0 : Int32))] [])) _
  refine own_loop X0 hx hZ hw hby hown e0 V0 p1 hn hv p1.toInt.toNat 0 (by decide) (by show (0 : Int) + _ = _; omega) _ ?_
  show Steps p.tables e below (s₁.setTop (mkF m 35 #[.val (.ref r0), .val (.int p1), .val (.long (hs vs p1.toNatClampNeg)), .second, .val (.int p1)] [])) _
  refine XS.lloadN X0.here hx rfl (hb hby d1_35) rfl ?_
  show Steps p.tables e below (s₁.setTop (mkF m 36 #[.val (.ref r0), .val (.int p1), .val (.long (hs vs p1.toNatClampNeg)), .second, .val (.int p1)] [(.long (hs vs p1.toNatClampNeg))])) _
  refine XS.lloadN X0.here hx rfl (hb hby d1_36) rfl ?_
  show Steps p.tables e below (s₁.setTop (mkF m 37 #[.val (.ref r0), .val (.int p1), .val (.long (hs vs p1.toNatClampNeg)), .second, .val (.int p1)] [(.long (hs vs p1.toNatClampNeg)), (.long (hs vs p1.toNatClampNeg))])) _
  refine XS.bipush X0.here hx rfl (hb hby d1_37) ?_
  show Steps p.tables e below (s₁.setTop (mkF m 39 #[.val (.ref r0), .val (.int p1), .val (.long (hs vs p1.toNatClampNeg)), .second, .val (.int p1)] [(.int (33 : Int32)), (.long (hs vs p1.toNatClampNeg)), (.long (hs vs p1.toNatClampNeg))])) _
  refine XS.lushr X0.here hx rfl (hb hby d1_39) rfl ?_
  show Steps p.tables e below (s₁.setTop (mkF m 40 #[.val (.ref r0), .val (.int p1), .val (.long (hs vs p1.toNatClampNeg)), .second, .val (.int p1)] [(.long (((hs vs p1.toNatClampNeg).toUInt64 >>> ((33 : Int32) &&& 0x3f).toInt64.toUInt64).toInt64)), (.long (hs vs p1.toNatClampNeg))])) _
  refine XS.lxor X0.here hx rfl (hb hby d1_40) rfl ?_
  show Steps p.tables e below (s₁.setTop (mkF m 41 #[.val (.ref r0), .val (.int p1), .val (.long (hs vs p1.toNatClampNeg)), .second, .val (.int p1)] [(.long (xs33 (hs vs p1.toNatClampNeg)))])) _
  refine X0.ldc2Long hx hown (mvT hZ (hw _ (List.mem_of_getElem? (i := 6) rfl))) (g := (mkF m 41 #[.val (.ref r0), .val (.int p1), .val (.long (hs vs p1.toNatClampNeg)), .second, .val (.int p1)] [(.long (xs33 (hs vs p1.toNatClampNeg)))])) rfl (hb hby d1_41) _ ?_
  show Steps p.tables e below (s₁.setTop (mkF m 44 #[.val (.ref r0), .val (.int p1), .val (.long (hs vs p1.toNatClampNeg)), .second, .val (.int p1)] [(.long (-49064778989728563 : Int64)), (.long (xs33 (hs vs p1.toNatClampNeg)))])) _
  refine XS.lmul X0.here hx rfl (hb hby d1_44) rfl ?_
  show Steps p.tables e below (s₁.setTop (mkF m 45 #[.val (.ref r0), .val (.int p1), .val (.long (hs vs p1.toNatClampNeg)), .second, .val (.int p1)] [(.long ((xs33 (hs vs p1.toNatClampNeg)) * (-49064778989728563 : Int64)))])) _
  refine XS.lstoreN X0.here hx rfl (hb hby d1_45) rfl (l' := #[.val (.ref r0), .val (.int p1), .val (.long ((xs33 (hs vs p1.toNatClampNeg)) * (-49064778989728563 : Int64))), .second, .val (.int p1)]) rfl ?_
  show Steps p.tables e below (s₁.setTop (mkF m 46 #[.val (.ref r0), .val (.int p1), .val (.long ((xs33 (hs vs p1.toNatClampNeg)) * (-49064778989728563 : Int64))), .second, .val (.int p1)] [])) _
  refine XS.lloadN X0.here hx rfl (hb hby d1_46) rfl ?_
  show Steps p.tables e below (s₁.setTop (mkF m 47 #[.val (.ref r0), .val (.int p1), .val (.long ((xs33 (hs vs p1.toNatClampNeg)) * (-49064778989728563 : Int64))), .second, .val (.int p1)] [(.long ((xs33 (hs vs p1.toNatClampNeg)) * (-49064778989728563 : Int64)))])) _
  refine XS.lloadN X0.here hx rfl (hb hby d1_47) rfl ?_
  show Steps p.tables e below (s₁.setTop (mkF m 48 #[.val (.ref r0), .val (.int p1), .val (.long ((xs33 (hs vs p1.toNatClampNeg)) * (-49064778989728563 : Int64))), .second, .val (.int p1)] [(.long ((xs33 (hs vs p1.toNatClampNeg)) * (-49064778989728563 : Int64))), (.long ((xs33 (hs vs p1.toNatClampNeg)) * (-49064778989728563 : Int64)))])) _
  refine XS.bipush X0.here hx rfl (hb hby d1_48) ?_
  show Steps p.tables e below (s₁.setTop (mkF m 50 #[.val (.ref r0), .val (.int p1), .val (.long ((xs33 (hs vs p1.toNatClampNeg)) * (-49064778989728563 : Int64))), .second, .val (.int p1)] [(.int (33 : Int32)), (.long ((xs33 (hs vs p1.toNatClampNeg)) * (-49064778989728563 : Int64))), (.long ((xs33 (hs vs p1.toNatClampNeg)) * (-49064778989728563 : Int64)))])) _
  refine XS.lushr X0.here hx rfl (hb hby d1_50) rfl ?_
  show Steps p.tables e below (s₁.setTop (mkF m 51 #[.val (.ref r0), .val (.int p1), .val (.long ((xs33 (hs vs p1.toNatClampNeg)) * (-49064778989728563 : Int64))), .second, .val (.int p1)] [(.long ((((xs33 (hs vs p1.toNatClampNeg)) * (-49064778989728563 : Int64)).toUInt64 >>> ((33 : Int32) &&& 0x3f).toInt64.toUInt64).toInt64)), (.long ((xs33 (hs vs p1.toNatClampNeg)) * (-49064778989728563 : Int64)))])) _
  refine XS.lxor X0.here hx rfl (hb hby d1_51) rfl ?_
  show Steps p.tables e below (s₁.setTop (mkF m 52 #[.val (.ref r0), .val (.int p1), .val (.long ((xs33 (hs vs p1.toNatClampNeg)) * (-49064778989728563 : Int64))), .second, .val (.int p1)] [(.long (xs33 ((xs33 (hs vs p1.toNatClampNeg)) * (-49064778989728563 : Int64))))])) _
  refine X0.ldc2Long hx hown (mvT hZ (hw _ (List.mem_of_getElem? (i := 7) rfl))) (g := (mkF m 52 #[.val (.ref r0), .val (.int p1), .val (.long ((xs33 (hs vs p1.toNatClampNeg)) * (-49064778989728563 : Int64))), .second, .val (.int p1)] [(.long (xs33 ((xs33 (hs vs p1.toNatClampNeg)) * (-49064778989728563 : Int64))))])) rfl (hb hby d1_52) _ ?_
  show Steps p.tables e below (s₁.setTop (mkF m 55 #[.val (.ref r0), .val (.int p1), .val (.long ((xs33 (hs vs p1.toNatClampNeg)) * (-49064778989728563 : Int64))), .second, .val (.int p1)] [(.long (-4265267296055464877 : Int64)), (.long (xs33 ((xs33 (hs vs p1.toNatClampNeg)) * (-49064778989728563 : Int64))))])) _
  refine XS.lmul X0.here hx rfl (hb hby d1_55) rfl ?_
  show Steps p.tables e below (s₁.setTop (mkF m 56 #[.val (.ref r0), .val (.int p1), .val (.long ((xs33 (hs vs p1.toNatClampNeg)) * (-49064778989728563 : Int64))), .second, .val (.int p1)] [(.long ((xs33 ((xs33 (hs vs p1.toNatClampNeg)) * (-49064778989728563 : Int64))) * (-4265267296055464877 : Int64)))])) _
  refine XS.lstoreN X0.here hx rfl (hb hby d1_56) rfl (l' := #[.val (.ref r0), .val (.int p1), .val (.long ((xs33 ((xs33 (hs vs p1.toNatClampNeg)) * (-49064778989728563 : Int64))) * (-4265267296055464877 : Int64))), .second, .val (.int p1)]) rfl ?_
  show Steps p.tables e below (s₁.setTop (mkF m 57 #[.val (.ref r0), .val (.int p1), .val (.long ((xs33 ((xs33 (hs vs p1.toNatClampNeg)) * (-49064778989728563 : Int64))) * (-4265267296055464877 : Int64))), .second, .val (.int p1)] [])) _
  refine XS.lloadN X0.here hx rfl (hb hby d1_57) rfl ?_
  show Steps p.tables e below (s₁.setTop (mkF m 58 #[.val (.ref r0), .val (.int p1), .val (.long ((xs33 ((xs33 (hs vs p1.toNatClampNeg)) * (-49064778989728563 : Int64))) * (-4265267296055464877 : Int64))), .second, .val (.int p1)] [(.long ((xs33 ((xs33 (hs vs p1.toNatClampNeg)) * (-49064778989728563 : Int64))) * (-4265267296055464877 : Int64)))])) _
  refine XS.lloadN X0.here hx rfl (hb hby d1_58) rfl ?_
  show Steps p.tables e below (s₁.setTop (mkF m 59 #[.val (.ref r0), .val (.int p1), .val (.long ((xs33 ((xs33 (hs vs p1.toNatClampNeg)) * (-49064778989728563 : Int64))) * (-4265267296055464877 : Int64))), .second, .val (.int p1)] [(.long ((xs33 ((xs33 (hs vs p1.toNatClampNeg)) * (-49064778989728563 : Int64))) * (-4265267296055464877 : Int64))), (.long ((xs33 ((xs33 (hs vs p1.toNatClampNeg)) * (-49064778989728563 : Int64))) * (-4265267296055464877 : Int64)))])) _
  refine XS.bipush X0.here hx rfl (hb hby d1_59) ?_
  show Steps p.tables e below (s₁.setTop (mkF m 61 #[.val (.ref r0), .val (.int p1), .val (.long ((xs33 ((xs33 (hs vs p1.toNatClampNeg)) * (-49064778989728563 : Int64))) * (-4265267296055464877 : Int64))), .second, .val (.int p1)] [(.int (33 : Int32)), (.long ((xs33 ((xs33 (hs vs p1.toNatClampNeg)) * (-49064778989728563 : Int64))) * (-4265267296055464877 : Int64))), (.long ((xs33 ((xs33 (hs vs p1.toNatClampNeg)) * (-49064778989728563 : Int64))) * (-4265267296055464877 : Int64)))])) _
  refine XS.lushr X0.here hx rfl (hb hby d1_61) rfl ?_
  show Steps p.tables e below (s₁.setTop (mkF m 62 #[.val (.ref r0), .val (.int p1), .val (.long ((xs33 ((xs33 (hs vs p1.toNatClampNeg)) * (-49064778989728563 : Int64))) * (-4265267296055464877 : Int64))), .second, .val (.int p1)] [(.long ((((xs33 ((xs33 (hs vs p1.toNatClampNeg)) * (-49064778989728563 : Int64))) * (-4265267296055464877 : Int64)).toUInt64 >>> ((33 : Int32) &&& 0x3f).toInt64.toUInt64).toInt64)), (.long ((xs33 ((xs33 (hs vs p1.toNatClampNeg)) * (-49064778989728563 : Int64))) * (-4265267296055464877 : Int64)))])) _
  refine XS.lxor X0.here hx rfl (hb hby d1_62) rfl ?_
  show Steps p.tables e below (s₁.setTop (mkF m 63 #[.val (.ref r0), .val (.int p1), .val (.long ((xs33 ((xs33 (hs vs p1.toNatClampNeg)) * (-49064778989728563 : Int64))) * (-4265267296055464877 : Int64))), .second, .val (.int p1)] [(.long (xs33 ((xs33 ((xs33 (hs vs p1.toNatClampNeg)) * (-49064778989728563 : Int64))) * (-4265267296055464877 : Int64))))])) _
  exact X0.lreturnOut hx Bd.returns (hb hby d1_63) hr
theorem own_bits (x : BitVec 64) : (x ^^^ (x >>> 33)) ^^^ ((x ^^^ (x >>> 33)) >>> 33) = x := by
  have h : x >>> 33 >>> 33 = 0#64 := by
    rw [← BitVec.shiftRight_add]; exact BitVec.ushiftRight_eq_zero (by decide)
  rw [BitVec.ushiftRight_xor_distrib, h, BitVec.xor_zero, BitVec.xor_assoc, BitVec.xor_self, BitVec.xor_zero]
theorem own_xsb (x : Int64) : (xs33 x).toBitVec = x.toBitVec ^^^ (x.toBitVec >>> 33) := by
  show x.toBitVec ^^^ (x.toBitVec >>> (((33 : Int32) &&& 0x3f).toInt64.toUInt64.toBitVec % 64)) = _
  rw [show ((33 : Int32) &&& 0x3f).toInt64.toUInt64.toBitVec % 64 = 33#64 from by decide]
  rfl
theorem own_xs (x : Int64) : xs33 (xs33 x) = x := by
  rw [← Int64.toBitVec_inj, own_xsb, own_xsb]; exact own_bits _
theorem own_inv1 : (-49064778989728563 : Int64) * F3_0 (-49064778989728563 : Int64) = 1 := by decide +kernel
theorem own_inv2 : (-4265267296055464877 : Int64) * F3_0 (-4265267296055464877 : Int64) = 1 := by decide +kernel
theorem own_un (x : Int64) : F2_0 (mix x) = x := by
  show xs33 ((xs33 ((xs33 (xs33 ((xs33 ((xs33 x) * (-49064778989728563 : Int64))) * (-4265267296055464877 : Int64)))) * (F3_0 (-4265267296055464877 : Int64)))) * (F3_0 (-49064778989728563 : Int64))) = x
  rw [own_xs, Int64.mul_assoc (xs33 (xs33 x * _)), own_inv2, Int64.mul_one, own_xs, Int64.mul_assoc, own_inv1, Int64.mul_one, own_xs]
theorem own_empty {vs : List Int32} : F2_0 (mix (hs vs (0 : Int32).toNatClampNeg)) = (-3750763034362895579 : Int64) := by
  rw [own_un]; rfl
theorem own_r7 (p1 : Int32) : 0 ≤ (p1 &&& (7 : Int32)).toInt ∧ (p1 &&& (7 : Int32)).toInt < 8 := by
  rw [c_mask p1 7 3 (by decide) (by decide)]
  exact ⟨Int.emod_nonneg _ (by decide), Int.emod_lt_of_pos _ (by decide)⟩
theorem own_r8 (p1 : Int32) : ((p1 &&& (7 : Int32)) + (1 : Int32)).toInt = (p1 &&& (7 : Int32)).toInt + 1 := by
  have a := own_r7 p1
  have c := c_iadd (p1 &&& 7) 1
  have r := rng32 ((p1 &&& 7) + 1)
  have e1 : (1 : Int32).toInt = 1 := rfl
  omega
theorem own_n0 (p1 : Int32) {vs : List Int32} (hl : vs.length = 8) : (0 ≤ (p1 &&& (7 : Int32)).toInt ∧ (p1 &&& (7 : Int32)).toInt ≤ vs.length) ∧ (0 ≤ ((p1 &&& (7 : Int32)) + (1 : Int32)).toInt ∧ ((p1 &&& (7 : Int32)) + (1 : Int32)).toInt ≤ vs.length) := by
  have a := own_r7 p1
  rw [own_r8, hl]; omega
theorem own_bn (p1 : Int32) {vs : List Int32} (hl : vs.length = 8) : ¬ (p1 &&& (7 : Int32)) < 0 ∧ (p1 &&& (7 : Int32)).toNatClampNeg < vs.length := by
  have a := own_r7 p1
  rw [hl]
  refine ⟨by rw [Int32.lt_iff_toInt_lt]; show ¬ _ < (0 : Int); omega, ?_⟩
  show (p1 &&& (7 : Int32)).toInt.toNat < 8
  omega
theorem own_after (vs : List Int32) (p1 : Int32) : F2_0 (mix (hs vs ((p1 &&& (7 : Int32)) + (1 : Int32)).toNatClampNeg)) = ((F2_0 (mix (hs vs (p1 &&& (7 : Int32)).toNatClampNeg)) ^^^ (((vs.getD (p1 &&& (7 : Int32)).toNatClampNeg 0) &&& (255 : Int32)).toInt64)) * (1099511628211 : Int64)) := by
  have a := own_r7 p1
  have e : ((p1 &&& (7 : Int32)) + (1 : Int32)).toNatClampNeg = (p1 &&& (7 : Int32)).toNatClampNeg + 1 := by
    show ((p1 &&& (7 : Int32)) + (1 : Int32)).toInt.toNat = (p1 &&& (7 : Int32)).toInt.toNat + 1
    rw [own_r8]; omega
  rw [own_un, own_un, e]; rfl

theorem pn_0 : plainName "com/example/defacto/defacto/index/ChunkTermsHashPinLaw" = true := by first | (simp [plainName, overriddenIn]; done) | decide +kernel
theorem ef_0 (m : MethodId) (q0 : Int64) (p1 : Int32) : entryFrame m #[(.long q0), (.int p1)] maxLocals = mkF m 0 #[.val (.long q0), .second, .val (.int p1), .unset, .unset, .unset, .unset, .unset, .unset, .unset, .unset, .unset, .unset] [] := by first | (simp [entryFrame, mkF, argsToLocals, Value.category, maxLocals]; done) | rfl
def Q_rm0 (Z : State) (q0 : Int64) (p1 : Int32) (h0 : Heap) (n0 : Nat) (v : Option Value) (h : Heap) (L : List Loc) : Prop := (v = some (.int (1 : Int32)) ∧ Fr n0 L)
set_option maxRecDepth 65536 in
set_option maxHeartbeats 40000000 in
theorem rm0 (l : Launch) (Z : State) (a0 : Array Value) (hw : ∀ d ∈ tables_1, d.before a0 Z = true) (ws : List Jvm.Cond) (q0 : Int64) (p1 : Int32) (h0 : Heap) (n0 : Nat) (Z0 : n0 ≤ h0.size) :
    MetFree l x (head1 (Jvm.Cond.code x code maxLocals ret :: ws) room_1) (fun a U => a = #[(.long q0), (.int p1)] ∧ Z.Warmed39 U.vm ∧ U.heap = h0) (fun _ _ _ _ _ => True) (fun _ U o U' => ∃ v L, o = .returned v ∧ Q_rm0 Z q0 p1 h0 n0 v U'.heap L ∧ FrameEnd U o U' L room_1.cells room_1.slots) := by
  refine MetFree.of_bodySF (plainFor_of_name pn_0) hisR ?_
  intro p e s m args below meth c s₁ Bd hml0 hP hK
  obtain ⟨rfl, hZ, hh⟩ := hP
  have hx := Bd.exec
  have hby := Bd.bytes
  have hml : c.maxLocals = 13 := hml0
  have hown : s.vm.findClass "com/example/defacto/defacto/index/ChunkTermsHashPinLaw" = some m.cls := findClass_of_methodNamed Bd.named
  have hnm := (name_of_methodNamed Bd.named Bd.method).1
  have X0 : Stand p l e room_1 s m #[(.long q0), (.int p1)] below meth c s₁ [] 0 0 := Stand.of_body Bd
  have e0 : s₁.heap = h0 := by rw [← hh, Bd.state]; rfl
  have N0 := Fr.nil n0
  have pre0 : ∀ t, Steps p.tables e below (s₁.setTop (mkF m 0 #[.val (.long q0), .second, .val (.int p1), .unset, .unset, .unset, .unset, .unset, .unset, .unset, .unset, .unset, .unset] [])) t → Steps p.tables e below (s₁.setTop (entryFrame m #[(.long q0), (.int p1)] maxLocals)) t := fun t k => castTop (ef_0 m q0 p1) k
  obtain ⟨T1, h1, k1, X1, e1, E1, A1, st1⟩ := newP X0 hx hZ (hw _ (List.mem_of_getElem? (i := 0) rfl)) e0 (g := (mkF m 2 #[.val (.long q0), .second, .val (.int p1), .unset, .unset, .unset, .unset, .unset, .unset, .unset, .unset, .unset, .unset] [(.int (8 : Int32))])) rfl (hb hby at_2) rfl (by decide) (cap := 8) (by decide) (by decide) (by decide) (by decide)
  obtain ⟨b1, g1⟩ : ∃ z, z = Array.size h0 := ⟨_, rfl⟩
  rw [← g1] at A1 st1
  have G1 : n0 ≤ b1 := Nat.le_trans Z0 (Nat.le_of_eq g1.symm)
  have Z1 : n0 ≤ Array.size h1 := Nat.le_trans Z0 E1.1
  have V1_b1 : ArrL .byte Z h1 b1 [(0 : Int32), (0 : Int32), (0 : Int32), (0 : Int32), (0 : Int32), (0 : Int32), (0 : Int32), (0 : Int32)] := ArrL.new (n := 8) (Arv.new A1 (by decide)) (by decide)
  obtain ⟨T2, h2, X2, e2, W2, U2, st2⟩ := own_al_stB X1 hx hZ e1 V1_b1 (g := (mkF m 10 #[.val (.long q0), .second, .val (.int p1), .val (.ref b1), .unset, .unset, .unset, .unset, .unset, .unset, .unset, .unset, .unset] [(.int ((q0.toInt32).toInt8.toInt32)), (.int (0 : Int32)), (.ref b1)])) (by decide) (Nat.le_of_ble_eq_true rfl) rfl rfl (hb hby at_10)
  have N2 := Fr.snoc X2 N0 G1
  have Z2 : n0 ≤ Array.size h2 := Nat.le_trans Z1 (Keep.of_wr W2).1
  have V2_b1 : ArrL .byte Z h2 b1 [(nar .byte ((q0.toInt32).toInt8.toInt32)), (0 : Int32), (0 : Int32), (0 : Int32), (0 : Int32), (0 : Int32), (0 : Int32), (0 : Int32)] := U2
  obtain ⟨T3, h3, X3, e3, W3, U3, st3⟩ := own_al_stB X2 hx hZ e2 V2_b1 (g := (mkF m 19 #[.val (.long q0), .second, .val (.int p1), .val (.ref b1), .unset, .unset, .unset, .unset, .unset, .unset, .unset, .unset, .unset] [(.int ((((q0.toUInt64 >>> ((8 : Int32) &&& 0x3f).toInt64.toUInt64).toInt64).toInt32).toInt8.toInt32)), (.int (1 : Int32)), (.ref b1)])) (by decide) (Nat.le_of_ble_eq_true rfl) rfl rfl (hb hby at_19)
  have N3 := Fr.snoc X3 N2 G1
  have Z3 : n0 ≤ Array.size h3 := Nat.le_trans Z2 (Keep.of_wr W3).1
  have V3_b1 : ArrL .byte Z h3 b1 [(nar .byte ((q0.toInt32).toInt8.toInt32)), (nar .byte ((((q0.toUInt64 >>> ((8 : Int32) &&& 0x3f).toInt64.toUInt64).toInt64).toInt32).toInt8.toInt32)), (0 : Int32), (0 : Int32), (0 : Int32), (0 : Int32), (0 : Int32), (0 : Int32)] := U3
  obtain ⟨T4, h4, X4, e4, W4, U4, st4⟩ := own_al_stB X3 hx hZ e3 V3_b1 (g := (mkF m 28 #[.val (.long q0), .second, .val (.int p1), .val (.ref b1), .unset, .unset, .unset, .unset, .unset, .unset, .unset, .unset, .unset] [(.int ((((q0.toUInt64 >>> ((16 : Int32) &&& 0x3f).toInt64.toUInt64).toInt64).toInt32).toInt8.toInt32)), (.int (2 : Int32)), (.ref b1)])) (by decide) (Nat.le_of_ble_eq_true rfl) rfl rfl (hb hby at_28)
  have N4 := Fr.snoc X4 N3 G1
  have Z4 : n0 ≤ Array.size h4 := Nat.le_trans Z3 (Keep.of_wr W4).1
  have V4_b1 : ArrL .byte Z h4 b1 [(nar .byte ((q0.toInt32).toInt8.toInt32)), (nar .byte ((((q0.toUInt64 >>> ((8 : Int32) &&& 0x3f).toInt64.toUInt64).toInt64).toInt32).toInt8.toInt32)), (nar .byte ((((q0.toUInt64 >>> ((16 : Int32) &&& 0x3f).toInt64.toUInt64).toInt64).toInt32).toInt8.toInt32)), (0 : Int32), (0 : Int32), (0 : Int32), (0 : Int32), (0 : Int32)] := U4
  obtain ⟨T5, h5, X5, e5, W5, U5, st5⟩ := own_al_stB X4 hx hZ e4 V4_b1 (g := (mkF m 37 #[.val (.long q0), .second, .val (.int p1), .val (.ref b1), .unset, .unset, .unset, .unset, .unset, .unset, .unset, .unset, .unset] [(.int ((((q0.toUInt64 >>> ((24 : Int32) &&& 0x3f).toInt64.toUInt64).toInt64).toInt32).toInt8.toInt32)), (.int (3 : Int32)), (.ref b1)])) (by decide) (Nat.le_of_ble_eq_true rfl) rfl rfl (hb hby at_37)
  have N5 := Fr.snoc X5 N4 G1
  have Z5 : n0 ≤ Array.size h5 := Nat.le_trans Z4 (Keep.of_wr W5).1
  have V5_b1 : ArrL .byte Z h5 b1 [(nar .byte ((q0.toInt32).toInt8.toInt32)), (nar .byte ((((q0.toUInt64 >>> ((8 : Int32) &&& 0x3f).toInt64.toUInt64).toInt64).toInt32).toInt8.toInt32)), (nar .byte ((((q0.toUInt64 >>> ((16 : Int32) &&& 0x3f).toInt64.toUInt64).toInt64).toInt32).toInt8.toInt32)), (nar .byte ((((q0.toUInt64 >>> ((24 : Int32) &&& 0x3f).toInt64.toUInt64).toInt64).toInt32).toInt8.toInt32)), (0 : Int32), (0 : Int32), (0 : Int32), (0 : Int32)] := U5
  obtain ⟨T6, h6, X6, e6, W6, U6, st6⟩ := own_al_stB X5 hx hZ e5 V5_b1 (g := (mkF m 46 #[.val (.long q0), .second, .val (.int p1), .val (.ref b1), .unset, .unset, .unset, .unset, .unset, .unset, .unset, .unset, .unset] [(.int ((((q0.toUInt64 >>> ((32 : Int32) &&& 0x3f).toInt64.toUInt64).toInt64).toInt32).toInt8.toInt32)), (.int (4 : Int32)), (.ref b1)])) (by decide) (Nat.le_of_ble_eq_true rfl) rfl rfl (hb hby at_46)
  have N6 := Fr.snoc X6 N5 G1
  have Z6 : n0 ≤ Array.size h6 := Nat.le_trans Z5 (Keep.of_wr W6).1
  have V6_b1 : ArrL .byte Z h6 b1 [(nar .byte ((q0.toInt32).toInt8.toInt32)), (nar .byte ((((q0.toUInt64 >>> ((8 : Int32) &&& 0x3f).toInt64.toUInt64).toInt64).toInt32).toInt8.toInt32)), (nar .byte ((((q0.toUInt64 >>> ((16 : Int32) &&& 0x3f).toInt64.toUInt64).toInt64).toInt32).toInt8.toInt32)), (nar .byte ((((q0.toUInt64 >>> ((24 : Int32) &&& 0x3f).toInt64.toUInt64).toInt64).toInt32).toInt8.toInt32)), (nar .byte ((((q0.toUInt64 >>> ((32 : Int32) &&& 0x3f).toInt64.toUInt64).toInt64).toInt32).toInt8.toInt32)), (0 : Int32), (0 : Int32), (0 : Int32)] := U6
  obtain ⟨T7, h7, X7, e7, W7, U7, st7⟩ := own_al_stB X6 hx hZ e6 V6_b1 (g := (mkF m 55 #[.val (.long q0), .second, .val (.int p1), .val (.ref b1), .unset, .unset, .unset, .unset, .unset, .unset, .unset, .unset, .unset] [(.int ((((q0.toUInt64 >>> ((40 : Int32) &&& 0x3f).toInt64.toUInt64).toInt64).toInt32).toInt8.toInt32)), (.int (5 : Int32)), (.ref b1)])) (by decide) (Nat.le_of_ble_eq_true rfl) rfl rfl (hb hby at_55)
  have N7 := Fr.snoc X7 N6 G1
  have Z7 : n0 ≤ Array.size h7 := Nat.le_trans Z6 (Keep.of_wr W7).1
  have V7_b1 : ArrL .byte Z h7 b1 [(nar .byte ((q0.toInt32).toInt8.toInt32)), (nar .byte ((((q0.toUInt64 >>> ((8 : Int32) &&& 0x3f).toInt64.toUInt64).toInt64).toInt32).toInt8.toInt32)), (nar .byte ((((q0.toUInt64 >>> ((16 : Int32) &&& 0x3f).toInt64.toUInt64).toInt64).toInt32).toInt8.toInt32)), (nar .byte ((((q0.toUInt64 >>> ((24 : Int32) &&& 0x3f).toInt64.toUInt64).toInt64).toInt32).toInt8.toInt32)), (nar .byte ((((q0.toUInt64 >>> ((32 : Int32) &&& 0x3f).toInt64.toUInt64).toInt64).toInt32).toInt8.toInt32)), (nar .byte ((((q0.toUInt64 >>> ((40 : Int32) &&& 0x3f).toInt64.toUInt64).toInt64).toInt32).toInt8.toInt32)), (0 : Int32), (0 : Int32)] := U7
  obtain ⟨T8, h8, X8, e8, W8, U8, st8⟩ := own_al_stB X7 hx hZ e7 V7_b1 (g := (mkF m 65 #[.val (.long q0), .second, .val (.int p1), .val (.ref b1), .unset, .unset, .unset, .unset, .unset, .unset, .unset, .unset, .unset] [(.int ((((q0.toUInt64 >>> ((48 : Int32) &&& 0x3f).toInt64.toUInt64).toInt64).toInt32).toInt8.toInt32)), (.int (6 : Int32)), (.ref b1)])) (by decide) (Nat.le_of_ble_eq_true rfl) rfl rfl (hb hby at_65)
  have N8 := Fr.snoc X8 N7 G1
  have Z8 : n0 ≤ Array.size h8 := Nat.le_trans Z7 (Keep.of_wr W8).1
  have V8_b1 : ArrL .byte Z h8 b1 [(nar .byte ((q0.toInt32).toInt8.toInt32)), (nar .byte ((((q0.toUInt64 >>> ((8 : Int32) &&& 0x3f).toInt64.toUInt64).toInt64).toInt32).toInt8.toInt32)), (nar .byte ((((q0.toUInt64 >>> ((16 : Int32) &&& 0x3f).toInt64.toUInt64).toInt64).toInt32).toInt8.toInt32)), (nar .byte ((((q0.toUInt64 >>> ((24 : Int32) &&& 0x3f).toInt64.toUInt64).toInt64).toInt32).toInt8.toInt32)), (nar .byte ((((q0.toUInt64 >>> ((32 : Int32) &&& 0x3f).toInt64.toUInt64).toInt64).toInt32).toInt8.toInt32)), (nar .byte ((((q0.toUInt64 >>> ((40 : Int32) &&& 0x3f).toInt64.toUInt64).toInt64).toInt32).toInt8.toInt32)), (nar .byte ((((q0.toUInt64 >>> ((48 : Int32) &&& 0x3f).toInt64.toUInt64).toInt64).toInt32).toInt8.toInt32)), (0 : Int32)] := U8
  obtain ⟨T9, h9, X9, e9, W9, U9, st9⟩ := own_al_stB X8 hx hZ e8 V8_b1 (g := (mkF m 75 #[.val (.long q0), .second, .val (.int p1), .val (.ref b1), .unset, .unset, .unset, .unset, .unset, .unset, .unset, .unset, .unset] [(.int ((((q0.toUInt64 >>> ((56 : Int32) &&& 0x3f).toInt64.toUInt64).toInt64).toInt32).toInt8.toInt32)), (.int (7 : Int32)), (.ref b1)])) (by decide) (Nat.le_of_ble_eq_true rfl) rfl rfl (hb hby at_75)
  have N9 := Fr.snoc X9 N8 G1
  have Z9 : n0 ≤ Array.size h9 := Nat.le_trans Z8 (Keep.of_wr W9).1
  have V9_b1 : ArrL .byte Z h9 b1 [(nar .byte ((q0.toInt32).toInt8.toInt32)), (nar .byte ((((q0.toUInt64 >>> ((8 : Int32) &&& 0x3f).toInt64.toUInt64).toInt64).toInt32).toInt8.toInt32)), (nar .byte ((((q0.toUInt64 >>> ((16 : Int32) &&& 0x3f).toInt64.toUInt64).toInt64).toInt32).toInt8.toInt32)), (nar .byte ((((q0.toUInt64 >>> ((24 : Int32) &&& 0x3f).toInt64.toUInt64).toInt64).toInt32).toInt8.toInt32)), (nar .byte ((((q0.toUInt64 >>> ((32 : Int32) &&& 0x3f).toInt64.toUInt64).toInt64).toInt32).toInt8.toInt32)), (nar .byte ((((q0.toUInt64 >>> ((40 : Int32) &&& 0x3f).toInt64.toUInt64).toInt64).toInt32).toInt8.toInt32)), (nar .byte ((((q0.toUInt64 >>> ((48 : Int32) &&& 0x3f).toInt64.toUInt64).toInt64).toInt32).toInt8.toInt32)), (nar .byte ((((q0.toUInt64 >>> ((56 : Int32) &&& 0x3f).toInt64.toUInt64).toInt64).toInt32).toInt8.toInt32))] := U9
  obtain ⟨vs, hvs⟩ : ∃ vs : List Int32, vs = [(nar .byte ((q0.toInt32).toInt8.toInt32)), (nar .byte ((((q0.toUInt64 >>> ((8 : Int32) &&& 0x3f).toInt64.toUInt64).toInt64).toInt32).toInt8.toInt32)), (nar .byte ((((q0.toUInt64 >>> ((16 : Int32) &&& 0x3f).toInt64.toUInt64).toInt64).toInt32).toInt8.toInt32)), (nar .byte ((((q0.toUInt64 >>> ((24 : Int32) &&& 0x3f).toInt64.toUInt64).toInt64).toInt32).toInt8.toInt32)), (nar .byte ((((q0.toUInt64 >>> ((32 : Int32) &&& 0x3f).toInt64.toUInt64).toInt64).toInt32).toInt8.toInt32)), (nar .byte ((((q0.toUInt64 >>> ((40 : Int32) &&& 0x3f).toInt64.toUInt64).toInt64).toInt32).toInt8.toInt32)), (nar .byte ((((q0.toUInt64 >>> ((48 : Int32) &&& 0x3f).toInt64.toUInt64).toInt64).toInt32).toInt8.toInt32)), (nar .byte ((((q0.toUInt64 >>> ((56 : Int32) &&& 0x3f).toInt64.toUInt64).toInt64).toInt32).toInt8.toInt32))] := ⟨_, rfl⟩
  rw [← hvs] at V9_b1
  have hl : vs.length = 8 := by rw [hvs]; rfl
  obtain ⟨_, _, ⟨T10, L10, k10, n10⟩, -, X10, ⟨Lc10, hQ10, l10, y10, z10⟩, st10⟩ := Jvm.LawKit.callS X9 hx (y := (⟨"com/example/defacto/defacto/index/ChunkTerms", "hash", "([BI)J"⟩ : MethodName)) hown (mvT hZ (hw _ (List.mem_of_getElem? (i := 1) rfl))) (mvT hZ (hw _ (List.mem_of_getElem? (i := 2) rfl))) (mvT hZ (hw _ (List.mem_of_getElem? (i := 3) rfl))) (mvT hZ (hw _ (List.mem_of_getElem? (i := 4) rfl))) (by decide) (backOf (W := 0) (rm1 l Z a0 hw [] b1 (0 : Int32) vs h9 n0 Z9 V9_b1 (by decide) (by rw [hl]; decide) (by rw [hl]; decide)) hZ (hw _ (List.mem_of_getElem? (i := 4) rfl)) (hw _ (List.mem_of_getElem? (i := 3) rfl)) (by decide) (by decide)) (g := (mkF m 84 #[.val (.long q0), .second, .val (.int p1), .val (.ref b1), .val (.int (p1 &&& (7 : Int32))), .unset, .unset, .unset, .unset, .unset, .unset, .unset, .unset] [(.int (0 : Int32)), (.ref b1)])) rfl (by rw [hml]; rfl) (argsL := [(.ref b1), (.int (0 : Int32))]) (rest := []) (lenOf pd1 rfl) rfl (by show 2 * 0 + _ ≤ _; exact Nat.le_of_eq rfl) (hb hby at_84) (fun _ _ => ⟨rfl, e9, (by decide : 1 + 0 ≤ _), (by decide : 8 + 0 ≤ _)⟩)
  dsimp only [Pt.U, Pt.locs, Pt.cells, Pt.slots] at X10 l10 y10 z10 st10 hQ10
  subst l10 y10 z10
  obtain ⟨rfl, N10q, e10⟩ := hQ10
  have N10 := Fr.app N9 N10q
  obtain ⟨_, _, ⟨T11, L11, k11, n11⟩, -, X11, ⟨Lc11, hQ11, l11, y11, z11⟩, st11⟩ := Jvm.LawKit.callS X10 hx (y := (⟨"com/example/defacto/defacto/index/ChunkTermsHashPinLaw", "unmix", "(J)J"⟩ : MethodName)) hown (mvT hZ (hw _ (List.mem_of_getElem? (i := 8) rfl))) (mvT hZ (hw _ (List.mem_of_getElem? (i := 9) rfl))) (mvT hZ (hw _ (List.mem_of_getElem? (i := 10) rfl))) (mvT hZ (hw _ (List.mem_of_getElem? (i := 11) rfl))) (by decide) (backOf (W := 0) (rm2 l Z a0 hw [] (mix (hs vs (0 : Int32).toNatClampNeg)) h9 n0 Z9) hZ (hw _ (List.mem_of_getElem? (i := 11) rfl)) (hw _ (List.mem_of_getElem? (i := 10) rfl)) (by decide) (by decide)) (g := (mkF m 87 #[.val (.long q0), .second, .val (.int p1), .val (.ref b1), .val (.int (p1 &&& (7 : Int32))), .unset, .unset, .unset, .unset, .unset, .unset, .unset, .unset] [(.long (mix (hs vs (0 : Int32).toNatClampNeg)))])) rfl (by rw [hml]; rfl) (argsL := [(.long (mix (hs vs (0 : Int32).toNatClampNeg)))]) (rest := []) (lenOf pd0 rfl) rfl (by show 2 * 0 + _ ≤ _; exact Nat.le_of_eq rfl) (hb hby at_87) (fun _ _ => ⟨rfl, e10, (by decide : 1 + 0 ≤ _), (by decide : 8 + 0 ≤ _)⟩)
  dsimp only [Pt.U, Pt.locs, Pt.cells, Pt.slots] at X11 l11 y11 z11 st11 hQ11
  subst l11 y11 z11
  obtain ⟨rfl, N11q, e11⟩ := hQ11
  have N11 := Fr.app N10 N11q
  obtain ⟨_, _, ⟨T12, L12, k12, n12⟩, -, X12, ⟨Lc12, hQ12, l12, y12, z12⟩, st12⟩ := Jvm.LawKit.callS X11 hx (y := (⟨"com/example/defacto/defacto/index/ChunkTerms", "hash", "([BI)J"⟩ : MethodName)) hown (mvT hZ (hw _ (List.mem_of_getElem? (i := 1) rfl))) (mvT hZ (hw _ (List.mem_of_getElem? (i := 2) rfl))) (mvT hZ (hw _ (List.mem_of_getElem? (i := 3) rfl))) (mvT hZ (hw _ (List.mem_of_getElem? (i := 4) rfl))) (by decide) (backOf (W := 0) (rm1 l Z a0 hw [] b1 (p1 &&& (7 : Int32)) vs h9 n0 Z9 V9_b1 (own_n0 p1 hl).1.1 (own_n0 p1 hl).1.2 (by rw [hl]; decide)) hZ (hw _ (List.mem_of_getElem? (i := 4) rfl)) (hw _ (List.mem_of_getElem? (i := 3) rfl)) (by decide) (by decide)) (g := (mkF m 95 #[.val (.long q0), .second, .val (.int p1), .val (.ref b1), .val (.int (p1 &&& (7 : Int32))), .val (.long (F2_0 (mix (hs vs (0 : Int32).toNatClampNeg)))), .second, .unset, .unset, .unset, .unset, .unset, .unset] [(.int (p1 &&& (7 : Int32))), (.ref b1)])) rfl (by rw [hml]; rfl) (argsL := [(.ref b1), (.int (p1 &&& (7 : Int32)))]) (rest := []) (lenOf pd1 rfl) rfl (by show 2 * 0 + _ ≤ _; exact Nat.le_of_eq rfl) (hb hby at_95) (fun _ _ => ⟨rfl, e11, (by decide : 1 + 0 ≤ _), (by decide : 8 + 0 ≤ _)⟩)
  dsimp only [Pt.U, Pt.locs, Pt.cells, Pt.slots] at X12 l12 y12 z12 st12 hQ12
  subst l12 y12 z12
  obtain ⟨rfl, N12q, e12⟩ := hQ12
  have N12 := Fr.app N11 N12q
  obtain ⟨_, _, ⟨T13, L13, k13, n13⟩, -, X13, ⟨Lc13, hQ13, l13, y13, z13⟩, st13⟩ := Jvm.LawKit.callS X12 hx (y := (⟨"com/example/defacto/defacto/index/ChunkTermsHashPinLaw", "unmix", "(J)J"⟩ : MethodName)) hown (mvT hZ (hw _ (List.mem_of_getElem? (i := 8) rfl))) (mvT hZ (hw _ (List.mem_of_getElem? (i := 9) rfl))) (mvT hZ (hw _ (List.mem_of_getElem? (i := 10) rfl))) (mvT hZ (hw _ (List.mem_of_getElem? (i := 11) rfl))) (by decide) (backOf (W := 0) (rm2 l Z a0 hw [] (mix (hs vs (p1 &&& (7 : Int32)).toNatClampNeg)) h9 n0 Z9) hZ (hw _ (List.mem_of_getElem? (i := 11) rfl)) (hw _ (List.mem_of_getElem? (i := 10) rfl)) (by decide) (by decide)) (g := (mkF m 98 #[.val (.long q0), .second, .val (.int p1), .val (.ref b1), .val (.int (p1 &&& (7 : Int32))), .val (.long (F2_0 (mix (hs vs (0 : Int32).toNatClampNeg)))), .second, .unset, .unset, .unset, .unset, .unset, .unset] [(.long (mix (hs vs (p1 &&& (7 : Int32)).toNatClampNeg)))])) rfl (by rw [hml]; rfl) (argsL := [(.long (mix (hs vs (p1 &&& (7 : Int32)).toNatClampNeg)))]) (rest := []) (lenOf pd0 rfl) rfl (by show 2 * 0 + _ ≤ _; exact Nat.le_of_eq rfl) (hb hby at_98) (fun _ _ => ⟨rfl, e12, (by decide : 1 + 0 ≤ _), (by decide : 8 + 0 ≤ _)⟩)
  dsimp only [Pt.U, Pt.locs, Pt.cells, Pt.slots] at X13 l13 y13 z13 st13 hQ13
  subst l13 y13 z13
  obtain ⟨rfl, N13q, e13⟩ := hQ13
  have N13 := Fr.app N12 N13q
  obtain ⟨_, _, ⟨T14, L14, k14, n14⟩, -, X14, ⟨Lc14, hQ14, l14, y14, z14⟩, st14⟩ := Jvm.LawKit.callS X13 hx (y := (⟨"com/example/defacto/defacto/index/ChunkTerms", "hash", "([BI)J"⟩ : MethodName)) hown (mvT hZ (hw _ (List.mem_of_getElem? (i := 1) rfl))) (mvT hZ (hw _ (List.mem_of_getElem? (i := 2) rfl))) (mvT hZ (hw _ (List.mem_of_getElem? (i := 3) rfl))) (mvT hZ (hw _ (List.mem_of_getElem? (i := 4) rfl))) (by decide) (backOf (W := 0) (rm1 l Z a0 hw [] b1 ((p1 &&& (7 : Int32)) + (1 : Int32)) vs h9 n0 Z9 V9_b1 (own_n0 p1 hl).2.1 (own_n0 p1 hl).2.2 (by rw [hl]; decide)) hZ (hw _ (List.mem_of_getElem? (i := 4) rfl)) (hw _ (List.mem_of_getElem? (i := 3) rfl)) (by decide) (by decide)) (g := (mkF m 108 #[.val (.long q0), .second, .val (.int p1), .val (.ref b1), .val (.int (p1 &&& (7 : Int32))), .val (.long (F2_0 (mix (hs vs (0 : Int32).toNatClampNeg)))), .second, .val (.long (F2_0 (mix (hs vs (p1 &&& (7 : Int32)).toNatClampNeg)))), .second, .unset, .unset, .unset, .unset] [(.int ((p1 &&& (7 : Int32)) + (1 : Int32))), (.ref b1)])) rfl (by rw [hml]; rfl) (argsL := [(.ref b1), (.int ((p1 &&& (7 : Int32)) + (1 : Int32)))]) (rest := []) (lenOf pd1 rfl) rfl (by show 2 * 0 + _ ≤ _; exact Nat.le_of_eq rfl) (hb hby at_108) (fun _ _ => ⟨rfl, e13, (by decide : 1 + 0 ≤ _), (by decide : 8 + 0 ≤ _)⟩)
  dsimp only [Pt.U, Pt.locs, Pt.cells, Pt.slots] at X14 l14 y14 z14 st14 hQ14
  subst l14 y14 z14
  obtain ⟨rfl, N14q, e14⟩ := hQ14
  have N14 := Fr.app N13 N14q
  obtain ⟨_, _, ⟨T15, L15, k15, n15⟩, -, X15, ⟨Lc15, hQ15, l15, y15, z15⟩, st15⟩ := Jvm.LawKit.callS X14 hx (y := (⟨"com/example/defacto/defacto/index/ChunkTermsHashPinLaw", "unmix", "(J)J"⟩ : MethodName)) hown (mvT hZ (hw _ (List.mem_of_getElem? (i := 8) rfl))) (mvT hZ (hw _ (List.mem_of_getElem? (i := 9) rfl))) (mvT hZ (hw _ (List.mem_of_getElem? (i := 10) rfl))) (mvT hZ (hw _ (List.mem_of_getElem? (i := 11) rfl))) (by decide) (backOf (W := 0) (rm2 l Z a0 hw [] (mix (hs vs ((p1 &&& (7 : Int32)) + (1 : Int32)).toNatClampNeg)) h9 n0 Z9) hZ (hw _ (List.mem_of_getElem? (i := 11) rfl)) (hw _ (List.mem_of_getElem? (i := 10) rfl)) (by decide) (by decide)) (g := (mkF m 111 #[.val (.long q0), .second, .val (.int p1), .val (.ref b1), .val (.int (p1 &&& (7 : Int32))), .val (.long (F2_0 (mix (hs vs (0 : Int32).toNatClampNeg)))), .second, .val (.long (F2_0 (mix (hs vs (p1 &&& (7 : Int32)).toNatClampNeg)))), .second, .unset, .unset, .unset, .unset] [(.long (mix (hs vs ((p1 &&& (7 : Int32)) + (1 : Int32)).toNatClampNeg)))])) rfl (by rw [hml]; rfl) (argsL := [(.long (mix (hs vs ((p1 &&& (7 : Int32)) + (1 : Int32)).toNatClampNeg)))]) (rest := []) (lenOf pd0 rfl) rfl (by show 2 * 0 + _ ≤ _; exact Nat.le_of_eq rfl) (hb hby at_111) (fun _ _ => ⟨rfl, e14, (by decide : 1 + 0 ≤ _), (by decide : 8 + 0 ≤ _)⟩)
  dsimp only [Pt.U, Pt.locs, Pt.cells, Pt.slots] at X15 l15 y15 z15 st15 hQ15
  subst l15 y15 z15
  obtain ⟨rfl, N15q, e15⟩ := hQ15
  have N15 := Fr.app N14 N15q
  obtain ⟨fs, hr, hrun, hended, hW, hsame⟩ := X15.leave (v := some (.int (1 : Int32))) (fun h => by rw [Bd.returns] at h; cases h)
  refine ⟨_, _, pre0 _ ?_, hrun, hended, _, _, rfl, ⟨rfl, N15⟩, ⟨_, rfl⟩, hW, hsame.mono (by decide) (by decide)⟩
  show Steps p.tables e below (s₁.setTop (mkF m 0 #[.val (.long q0), .second, .val (.int p1), .unset, .unset, .unset, .unset, .unset, .unset, .unset, .unset, .unset, .unset] [])) _
  refine XS.bipush X0.here hx rfl (hb hby at_0) ?_
  show Steps p.tables e below (s₁.setTop (mkF m 2 #[.val (.long q0), .second, .val (.int p1), .unset, .unset, .unset, .unset, .unset, .unset, .unset, .unset, .unset, .unset] [(.int (8 : Int32))])) _
  refine st1 _ ?_
  show Steps p.tables e below (T1.setTop (mkF m 4 #[.val (.long q0), .second, .val (.int p1), .unset, .unset, .unset, .unset, .unset, .unset, .unset, .unset, .unset, .unset] [(.ref b1)])) _
  refine XS.astoreN X1.here hx rfl (hb hby at_4) rfl rfl (l' := #[.val (.long q0), .second, .val (.int p1), .val (.ref b1), .unset, .unset, .unset, .unset, .unset, .unset, .unset, .unset, .unset]) rfl ?_
  show Steps p.tables e below (T1.setTop (mkF m 5 #[.val (.long q0), .second, .val (.int p1), .val (.ref b1), .unset, .unset, .unset, .unset, .unset, .unset, .unset, .unset, .unset] [])) _
  refine XS.aloadN X1.here hx rfl (hb hby at_5) rfl rfl ?_
  show Steps p.tables e below (T1.setTop (mkF m 6 #[.val (.long q0), .second, .val (.int p1), .val (.ref b1), .unset, .unset, .unset, .unset, .unset, .unset, .unset, .unset, .unset] [(.ref b1)])) _
  refine XS.iconst X1.here hx rfl (hb hby at_6) ?_
  show Steps p.tables e below (T1.setTop (mkF m 7 #[.val (.long q0), .second, .val (.int p1), .val (.ref b1), .unset, .unset, .unset, .unset, .unset, .unset, .unset, .unset, .unset] [(.int (0 : Int32)), (.ref b1)])) _
  refine XS.lloadN X1.here hx rfl (hb hby at_7) rfl ?_
  show Steps p.tables e below (T1.setTop (mkF m 8 #[.val (.long q0), .second, .val (.int p1), .val (.ref b1), .unset, .unset, .unset, .unset, .unset, .unset, .unset, .unset, .unset] [(.long q0), (.int (0 : Int32)), (.ref b1)])) _
  refine XS.l2i X1.here hx rfl (hb hby at_8) rfl ?_
  show Steps p.tables e below (T1.setTop (mkF m 9 #[.val (.long q0), .second, .val (.int p1), .val (.ref b1), .unset, .unset, .unset, .unset, .unset, .unset, .unset, .unset, .unset] [(.int (q0.toInt32)), (.int (0 : Int32)), (.ref b1)])) _
  refine XS.i2b X1.here hx rfl (hb hby at_9) rfl ?_
  show Steps p.tables e below (T1.setTop (mkF m 10 #[.val (.long q0), .second, .val (.int p1), .val (.ref b1), .unset, .unset, .unset, .unset, .unset, .unset, .unset, .unset, .unset] [(.int ((q0.toInt32).toInt8.toInt32)), (.int (0 : Int32)), (.ref b1)])) _
  refine st2 _ ?_
  show Steps p.tables e below (T2.setTop (mkF m 11 #[.val (.long q0), .second, .val (.int p1), .val (.ref b1), .unset, .unset, .unset, .unset, .unset, .unset, .unset, .unset, .unset] [])) _
  refine XS.aloadN X2.here hx rfl (hb hby at_11) rfl rfl ?_
  show Steps p.tables e below (T2.setTop (mkF m 12 #[.val (.long q0), .second, .val (.int p1), .val (.ref b1), .unset, .unset, .unset, .unset, .unset, .unset, .unset, .unset, .unset] [(.ref b1)])) _
  refine XS.iconst X2.here hx rfl (hb hby at_12) ?_
  show Steps p.tables e below (T2.setTop (mkF m 13 #[.val (.long q0), .second, .val (.int p1), .val (.ref b1), .unset, .unset, .unset, .unset, .unset, .unset, .unset, .unset, .unset] [(.int (1 : Int32)), (.ref b1)])) _
  refine XS.lloadN X2.here hx rfl (hb hby at_13) rfl ?_
  show Steps p.tables e below (T2.setTop (mkF m 14 #[.val (.long q0), .second, .val (.int p1), .val (.ref b1), .unset, .unset, .unset, .unset, .unset, .unset, .unset, .unset, .unset] [(.long q0), (.int (1 : Int32)), (.ref b1)])) _
  refine XS.bipush X2.here hx rfl (hb hby at_14) ?_
  show Steps p.tables e below (T2.setTop (mkF m 16 #[.val (.long q0), .second, .val (.int p1), .val (.ref b1), .unset, .unset, .unset, .unset, .unset, .unset, .unset, .unset, .unset] [(.int (8 : Int32)), (.long q0), (.int (1 : Int32)), (.ref b1)])) _
  refine XS.lushr X2.here hx rfl (hb hby at_16) rfl ?_
  show Steps p.tables e below (T2.setTop (mkF m 17 #[.val (.long q0), .second, .val (.int p1), .val (.ref b1), .unset, .unset, .unset, .unset, .unset, .unset, .unset, .unset, .unset] [(.long ((q0.toUInt64 >>> ((8 : Int32) &&& 0x3f).toInt64.toUInt64).toInt64)), (.int (1 : Int32)), (.ref b1)])) _
  refine XS.l2i X2.here hx rfl (hb hby at_17) rfl ?_
  show Steps p.tables e below (T2.setTop (mkF m 18 #[.val (.long q0), .second, .val (.int p1), .val (.ref b1), .unset, .unset, .unset, .unset, .unset, .unset, .unset, .unset, .unset] [(.int (((q0.toUInt64 >>> ((8 : Int32) &&& 0x3f).toInt64.toUInt64).toInt64).toInt32)), (.int (1 : Int32)), (.ref b1)])) _
  refine XS.i2b X2.here hx rfl (hb hby at_18) rfl ?_
  show Steps p.tables e below (T2.setTop (mkF m 19 #[.val (.long q0), .second, .val (.int p1), .val (.ref b1), .unset, .unset, .unset, .unset, .unset, .unset, .unset, .unset, .unset] [(.int ((((q0.toUInt64 >>> ((8 : Int32) &&& 0x3f).toInt64.toUInt64).toInt64).toInt32).toInt8.toInt32)), (.int (1 : Int32)), (.ref b1)])) _
  refine st3 _ ?_
  show Steps p.tables e below (T3.setTop (mkF m 20 #[.val (.long q0), .second, .val (.int p1), .val (.ref b1), .unset, .unset, .unset, .unset, .unset, .unset, .unset, .unset, .unset] [])) _
  refine XS.aloadN X3.here hx rfl (hb hby at_20) rfl rfl ?_
  show Steps p.tables e below (T3.setTop (mkF m 21 #[.val (.long q0), .second, .val (.int p1), .val (.ref b1), .unset, .unset, .unset, .unset, .unset, .unset, .unset, .unset, .unset] [(.ref b1)])) _
  refine XS.iconst X3.here hx rfl (hb hby at_21) ?_
  show Steps p.tables e below (T3.setTop (mkF m 22 #[.val (.long q0), .second, .val (.int p1), .val (.ref b1), .unset, .unset, .unset, .unset, .unset, .unset, .unset, .unset, .unset] [(.int (2 : Int32)), (.ref b1)])) _
  refine XS.lloadN X3.here hx rfl (hb hby at_22) rfl ?_
  show Steps p.tables e below (T3.setTop (mkF m 23 #[.val (.long q0), .second, .val (.int p1), .val (.ref b1), .unset, .unset, .unset, .unset, .unset, .unset, .unset, .unset, .unset] [(.long q0), (.int (2 : Int32)), (.ref b1)])) _
  refine XS.bipush X3.here hx rfl (hb hby at_23) ?_
  show Steps p.tables e below (T3.setTop (mkF m 25 #[.val (.long q0), .second, .val (.int p1), .val (.ref b1), .unset, .unset, .unset, .unset, .unset, .unset, .unset, .unset, .unset] [(.int (16 : Int32)), (.long q0), (.int (2 : Int32)), (.ref b1)])) _
  refine XS.lushr X3.here hx rfl (hb hby at_25) rfl ?_
  show Steps p.tables e below (T3.setTop (mkF m 26 #[.val (.long q0), .second, .val (.int p1), .val (.ref b1), .unset, .unset, .unset, .unset, .unset, .unset, .unset, .unset, .unset] [(.long ((q0.toUInt64 >>> ((16 : Int32) &&& 0x3f).toInt64.toUInt64).toInt64)), (.int (2 : Int32)), (.ref b1)])) _
  refine XS.l2i X3.here hx rfl (hb hby at_26) rfl ?_
  show Steps p.tables e below (T3.setTop (mkF m 27 #[.val (.long q0), .second, .val (.int p1), .val (.ref b1), .unset, .unset, .unset, .unset, .unset, .unset, .unset, .unset, .unset] [(.int (((q0.toUInt64 >>> ((16 : Int32) &&& 0x3f).toInt64.toUInt64).toInt64).toInt32)), (.int (2 : Int32)), (.ref b1)])) _
  refine XS.i2b X3.here hx rfl (hb hby at_27) rfl ?_
  show Steps p.tables e below (T3.setTop (mkF m 28 #[.val (.long q0), .second, .val (.int p1), .val (.ref b1), .unset, .unset, .unset, .unset, .unset, .unset, .unset, .unset, .unset] [(.int ((((q0.toUInt64 >>> ((16 : Int32) &&& 0x3f).toInt64.toUInt64).toInt64).toInt32).toInt8.toInt32)), (.int (2 : Int32)), (.ref b1)])) _
  refine st4 _ ?_
  show Steps p.tables e below (T4.setTop (mkF m 29 #[.val (.long q0), .second, .val (.int p1), .val (.ref b1), .unset, .unset, .unset, .unset, .unset, .unset, .unset, .unset, .unset] [])) _
  refine XS.aloadN X4.here hx rfl (hb hby at_29) rfl rfl ?_
  show Steps p.tables e below (T4.setTop (mkF m 30 #[.val (.long q0), .second, .val (.int p1), .val (.ref b1), .unset, .unset, .unset, .unset, .unset, .unset, .unset, .unset, .unset] [(.ref b1)])) _
  refine XS.iconst X4.here hx rfl (hb hby at_30) ?_
  show Steps p.tables e below (T4.setTop (mkF m 31 #[.val (.long q0), .second, .val (.int p1), .val (.ref b1), .unset, .unset, .unset, .unset, .unset, .unset, .unset, .unset, .unset] [(.int (3 : Int32)), (.ref b1)])) _
  refine XS.lloadN X4.here hx rfl (hb hby at_31) rfl ?_
  show Steps p.tables e below (T4.setTop (mkF m 32 #[.val (.long q0), .second, .val (.int p1), .val (.ref b1), .unset, .unset, .unset, .unset, .unset, .unset, .unset, .unset, .unset] [(.long q0), (.int (3 : Int32)), (.ref b1)])) _
  refine XS.bipush X4.here hx rfl (hb hby at_32) ?_
  show Steps p.tables e below (T4.setTop (mkF m 34 #[.val (.long q0), .second, .val (.int p1), .val (.ref b1), .unset, .unset, .unset, .unset, .unset, .unset, .unset, .unset, .unset] [(.int (24 : Int32)), (.long q0), (.int (3 : Int32)), (.ref b1)])) _
  refine XS.lushr X4.here hx rfl (hb hby at_34) rfl ?_
  show Steps p.tables e below (T4.setTop (mkF m 35 #[.val (.long q0), .second, .val (.int p1), .val (.ref b1), .unset, .unset, .unset, .unset, .unset, .unset, .unset, .unset, .unset] [(.long ((q0.toUInt64 >>> ((24 : Int32) &&& 0x3f).toInt64.toUInt64).toInt64)), (.int (3 : Int32)), (.ref b1)])) _
  refine XS.l2i X4.here hx rfl (hb hby at_35) rfl ?_
  show Steps p.tables e below (T4.setTop (mkF m 36 #[.val (.long q0), .second, .val (.int p1), .val (.ref b1), .unset, .unset, .unset, .unset, .unset, .unset, .unset, .unset, .unset] [(.int (((q0.toUInt64 >>> ((24 : Int32) &&& 0x3f).toInt64.toUInt64).toInt64).toInt32)), (.int (3 : Int32)), (.ref b1)])) _
  refine XS.i2b X4.here hx rfl (hb hby at_36) rfl ?_
  show Steps p.tables e below (T4.setTop (mkF m 37 #[.val (.long q0), .second, .val (.int p1), .val (.ref b1), .unset, .unset, .unset, .unset, .unset, .unset, .unset, .unset, .unset] [(.int ((((q0.toUInt64 >>> ((24 : Int32) &&& 0x3f).toInt64.toUInt64).toInt64).toInt32).toInt8.toInt32)), (.int (3 : Int32)), (.ref b1)])) _
  refine st5 _ ?_
  show Steps p.tables e below (T5.setTop (mkF m 38 #[.val (.long q0), .second, .val (.int p1), .val (.ref b1), .unset, .unset, .unset, .unset, .unset, .unset, .unset, .unset, .unset] [])) _
  refine XS.aloadN X5.here hx rfl (hb hby at_38) rfl rfl ?_
  show Steps p.tables e below (T5.setTop (mkF m 39 #[.val (.long q0), .second, .val (.int p1), .val (.ref b1), .unset, .unset, .unset, .unset, .unset, .unset, .unset, .unset, .unset] [(.ref b1)])) _
  refine XS.iconst X5.here hx rfl (hb hby at_39) ?_
  show Steps p.tables e below (T5.setTop (mkF m 40 #[.val (.long q0), .second, .val (.int p1), .val (.ref b1), .unset, .unset, .unset, .unset, .unset, .unset, .unset, .unset, .unset] [(.int (4 : Int32)), (.ref b1)])) _
  refine XS.lloadN X5.here hx rfl (hb hby at_40) rfl ?_
  show Steps p.tables e below (T5.setTop (mkF m 41 #[.val (.long q0), .second, .val (.int p1), .val (.ref b1), .unset, .unset, .unset, .unset, .unset, .unset, .unset, .unset, .unset] [(.long q0), (.int (4 : Int32)), (.ref b1)])) _
  refine XS.bipush X5.here hx rfl (hb hby at_41) ?_
  show Steps p.tables e below (T5.setTop (mkF m 43 #[.val (.long q0), .second, .val (.int p1), .val (.ref b1), .unset, .unset, .unset, .unset, .unset, .unset, .unset, .unset, .unset] [(.int (32 : Int32)), (.long q0), (.int (4 : Int32)), (.ref b1)])) _
  refine XS.lushr X5.here hx rfl (hb hby at_43) rfl ?_
  show Steps p.tables e below (T5.setTop (mkF m 44 #[.val (.long q0), .second, .val (.int p1), .val (.ref b1), .unset, .unset, .unset, .unset, .unset, .unset, .unset, .unset, .unset] [(.long ((q0.toUInt64 >>> ((32 : Int32) &&& 0x3f).toInt64.toUInt64).toInt64)), (.int (4 : Int32)), (.ref b1)])) _
  refine XS.l2i X5.here hx rfl (hb hby at_44) rfl ?_
  show Steps p.tables e below (T5.setTop (mkF m 45 #[.val (.long q0), .second, .val (.int p1), .val (.ref b1), .unset, .unset, .unset, .unset, .unset, .unset, .unset, .unset, .unset] [(.int (((q0.toUInt64 >>> ((32 : Int32) &&& 0x3f).toInt64.toUInt64).toInt64).toInt32)), (.int (4 : Int32)), (.ref b1)])) _
  refine XS.i2b X5.here hx rfl (hb hby at_45) rfl ?_
  show Steps p.tables e below (T5.setTop (mkF m 46 #[.val (.long q0), .second, .val (.int p1), .val (.ref b1), .unset, .unset, .unset, .unset, .unset, .unset, .unset, .unset, .unset] [(.int ((((q0.toUInt64 >>> ((32 : Int32) &&& 0x3f).toInt64.toUInt64).toInt64).toInt32).toInt8.toInt32)), (.int (4 : Int32)), (.ref b1)])) _
  refine st6 _ ?_
  show Steps p.tables e below (T6.setTop (mkF m 47 #[.val (.long q0), .second, .val (.int p1), .val (.ref b1), .unset, .unset, .unset, .unset, .unset, .unset, .unset, .unset, .unset] [])) _
  refine XS.aloadN X6.here hx rfl (hb hby at_47) rfl rfl ?_
  show Steps p.tables e below (T6.setTop (mkF m 48 #[.val (.long q0), .second, .val (.int p1), .val (.ref b1), .unset, .unset, .unset, .unset, .unset, .unset, .unset, .unset, .unset] [(.ref b1)])) _
  refine XS.iconst X6.here hx rfl (hb hby at_48) ?_
  show Steps p.tables e below (T6.setTop (mkF m 49 #[.val (.long q0), .second, .val (.int p1), .val (.ref b1), .unset, .unset, .unset, .unset, .unset, .unset, .unset, .unset, .unset] [(.int (5 : Int32)), (.ref b1)])) _
  refine XS.lloadN X6.here hx rfl (hb hby at_49) rfl ?_
  show Steps p.tables e below (T6.setTop (mkF m 50 #[.val (.long q0), .second, .val (.int p1), .val (.ref b1), .unset, .unset, .unset, .unset, .unset, .unset, .unset, .unset, .unset] [(.long q0), (.int (5 : Int32)), (.ref b1)])) _
  refine XS.bipush X6.here hx rfl (hb hby at_50) ?_
  show Steps p.tables e below (T6.setTop (mkF m 52 #[.val (.long q0), .second, .val (.int p1), .val (.ref b1), .unset, .unset, .unset, .unset, .unset, .unset, .unset, .unset, .unset] [(.int (40 : Int32)), (.long q0), (.int (5 : Int32)), (.ref b1)])) _
  refine XS.lushr X6.here hx rfl (hb hby at_52) rfl ?_
  show Steps p.tables e below (T6.setTop (mkF m 53 #[.val (.long q0), .second, .val (.int p1), .val (.ref b1), .unset, .unset, .unset, .unset, .unset, .unset, .unset, .unset, .unset] [(.long ((q0.toUInt64 >>> ((40 : Int32) &&& 0x3f).toInt64.toUInt64).toInt64)), (.int (5 : Int32)), (.ref b1)])) _
  refine XS.l2i X6.here hx rfl (hb hby at_53) rfl ?_
  show Steps p.tables e below (T6.setTop (mkF m 54 #[.val (.long q0), .second, .val (.int p1), .val (.ref b1), .unset, .unset, .unset, .unset, .unset, .unset, .unset, .unset, .unset] [(.int (((q0.toUInt64 >>> ((40 : Int32) &&& 0x3f).toInt64.toUInt64).toInt64).toInt32)), (.int (5 : Int32)), (.ref b1)])) _
  refine XS.i2b X6.here hx rfl (hb hby at_54) rfl ?_
  show Steps p.tables e below (T6.setTop (mkF m 55 #[.val (.long q0), .second, .val (.int p1), .val (.ref b1), .unset, .unset, .unset, .unset, .unset, .unset, .unset, .unset, .unset] [(.int ((((q0.toUInt64 >>> ((40 : Int32) &&& 0x3f).toInt64.toUInt64).toInt64).toInt32).toInt8.toInt32)), (.int (5 : Int32)), (.ref b1)])) _
  refine st7 _ ?_
  show Steps p.tables e below (T7.setTop (mkF m 56 #[.val (.long q0), .second, .val (.int p1), .val (.ref b1), .unset, .unset, .unset, .unset, .unset, .unset, .unset, .unset, .unset] [])) _
  refine XS.aloadN X7.here hx rfl (hb hby at_56) rfl rfl ?_
  show Steps p.tables e below (T7.setTop (mkF m 57 #[.val (.long q0), .second, .val (.int p1), .val (.ref b1), .unset, .unset, .unset, .unset, .unset, .unset, .unset, .unset, .unset] [(.ref b1)])) _
  refine XS.bipush X7.here hx rfl (hb hby at_57) ?_
  show Steps p.tables e below (T7.setTop (mkF m 59 #[.val (.long q0), .second, .val (.int p1), .val (.ref b1), .unset, .unset, .unset, .unset, .unset, .unset, .unset, .unset, .unset] [(.int (6 : Int32)), (.ref b1)])) _
  refine XS.lloadN X7.here hx rfl (hb hby at_59) rfl ?_
  show Steps p.tables e below (T7.setTop (mkF m 60 #[.val (.long q0), .second, .val (.int p1), .val (.ref b1), .unset, .unset, .unset, .unset, .unset, .unset, .unset, .unset, .unset] [(.long q0), (.int (6 : Int32)), (.ref b1)])) _
  refine XS.bipush X7.here hx rfl (hb hby at_60) ?_
  show Steps p.tables e below (T7.setTop (mkF m 62 #[.val (.long q0), .second, .val (.int p1), .val (.ref b1), .unset, .unset, .unset, .unset, .unset, .unset, .unset, .unset, .unset] [(.int (48 : Int32)), (.long q0), (.int (6 : Int32)), (.ref b1)])) _
  refine XS.lushr X7.here hx rfl (hb hby at_62) rfl ?_
  show Steps p.tables e below (T7.setTop (mkF m 63 #[.val (.long q0), .second, .val (.int p1), .val (.ref b1), .unset, .unset, .unset, .unset, .unset, .unset, .unset, .unset, .unset] [(.long ((q0.toUInt64 >>> ((48 : Int32) &&& 0x3f).toInt64.toUInt64).toInt64)), (.int (6 : Int32)), (.ref b1)])) _
  refine XS.l2i X7.here hx rfl (hb hby at_63) rfl ?_
  show Steps p.tables e below (T7.setTop (mkF m 64 #[.val (.long q0), .second, .val (.int p1), .val (.ref b1), .unset, .unset, .unset, .unset, .unset, .unset, .unset, .unset, .unset] [(.int (((q0.toUInt64 >>> ((48 : Int32) &&& 0x3f).toInt64.toUInt64).toInt64).toInt32)), (.int (6 : Int32)), (.ref b1)])) _
  refine XS.i2b X7.here hx rfl (hb hby at_64) rfl ?_
  show Steps p.tables e below (T7.setTop (mkF m 65 #[.val (.long q0), .second, .val (.int p1), .val (.ref b1), .unset, .unset, .unset, .unset, .unset, .unset, .unset, .unset, .unset] [(.int ((((q0.toUInt64 >>> ((48 : Int32) &&& 0x3f).toInt64.toUInt64).toInt64).toInt32).toInt8.toInt32)), (.int (6 : Int32)), (.ref b1)])) _
  refine st8 _ ?_
  show Steps p.tables e below (T8.setTop (mkF m 66 #[.val (.long q0), .second, .val (.int p1), .val (.ref b1), .unset, .unset, .unset, .unset, .unset, .unset, .unset, .unset, .unset] [])) _
  refine XS.aloadN X8.here hx rfl (hb hby at_66) rfl rfl ?_
  show Steps p.tables e below (T8.setTop (mkF m 67 #[.val (.long q0), .second, .val (.int p1), .val (.ref b1), .unset, .unset, .unset, .unset, .unset, .unset, .unset, .unset, .unset] [(.ref b1)])) _
  refine XS.bipush X8.here hx rfl (hb hby at_67) ?_
  show Steps p.tables e below (T8.setTop (mkF m 69 #[.val (.long q0), .second, .val (.int p1), .val (.ref b1), .unset, .unset, .unset, .unset, .unset, .unset, .unset, .unset, .unset] [(.int (7 : Int32)), (.ref b1)])) _
  refine XS.lloadN X8.here hx rfl (hb hby at_69) rfl ?_
  show Steps p.tables e below (T8.setTop (mkF m 70 #[.val (.long q0), .second, .val (.int p1), .val (.ref b1), .unset, .unset, .unset, .unset, .unset, .unset, .unset, .unset, .unset] [(.long q0), (.int (7 : Int32)), (.ref b1)])) _
  refine XS.bipush X8.here hx rfl (hb hby at_70) ?_
  show Steps p.tables e below (T8.setTop (mkF m 72 #[.val (.long q0), .second, .val (.int p1), .val (.ref b1), .unset, .unset, .unset, .unset, .unset, .unset, .unset, .unset, .unset] [(.int (56 : Int32)), (.long q0), (.int (7 : Int32)), (.ref b1)])) _
  refine XS.lushr X8.here hx rfl (hb hby at_72) rfl ?_
  show Steps p.tables e below (T8.setTop (mkF m 73 #[.val (.long q0), .second, .val (.int p1), .val (.ref b1), .unset, .unset, .unset, .unset, .unset, .unset, .unset, .unset, .unset] [(.long ((q0.toUInt64 >>> ((56 : Int32) &&& 0x3f).toInt64.toUInt64).toInt64)), (.int (7 : Int32)), (.ref b1)])) _
  refine XS.l2i X8.here hx rfl (hb hby at_73) rfl ?_
  show Steps p.tables e below (T8.setTop (mkF m 74 #[.val (.long q0), .second, .val (.int p1), .val (.ref b1), .unset, .unset, .unset, .unset, .unset, .unset, .unset, .unset, .unset] [(.int (((q0.toUInt64 >>> ((56 : Int32) &&& 0x3f).toInt64.toUInt64).toInt64).toInt32)), (.int (7 : Int32)), (.ref b1)])) _
  refine XS.i2b X8.here hx rfl (hb hby at_74) rfl ?_
  show Steps p.tables e below (T8.setTop (mkF m 75 #[.val (.long q0), .second, .val (.int p1), .val (.ref b1), .unset, .unset, .unset, .unset, .unset, .unset, .unset, .unset, .unset] [(.int ((((q0.toUInt64 >>> ((56 : Int32) &&& 0x3f).toInt64.toUInt64).toInt64).toInt32).toInt8.toInt32)), (.int (7 : Int32)), (.ref b1)])) _
  refine st9 _ ?_
  show Steps p.tables e below (T9.setTop (mkF m 76 #[.val (.long q0), .second, .val (.int p1), .val (.ref b1), .unset, .unset, .unset, .unset, .unset, .unset, .unset, .unset, .unset] [])) _
  refine XS.iloadN X9.here hx rfl (hb hby at_76) rfl ?_
  show Steps p.tables e below (T9.setTop (mkF m 77 #[.val (.long q0), .second, .val (.int p1), .val (.ref b1), .unset, .unset, .unset, .unset, .unset, .unset, .unset, .unset, .unset] [(.int p1)])) _
  refine XS.bipush X9.here hx rfl (hb hby at_77) ?_
  show Steps p.tables e below (T9.setTop (mkF m 79 #[.val (.long q0), .second, .val (.int p1), .val (.ref b1), .unset, .unset, .unset, .unset, .unset, .unset, .unset, .unset, .unset] [(.int (7 : Int32)), (.int p1)])) _
  refine XS.iand X9.here hx rfl (hb hby at_79) rfl ?_
  show Steps p.tables e below (T9.setTop (mkF m 80 #[.val (.long q0), .second, .val (.int p1), .val (.ref b1), .unset, .unset, .unset, .unset, .unset, .unset, .unset, .unset, .unset] [(.int (p1 &&& (7 : Int32)))])) _
  refine XS.istore X9.here hx rfl (hb hby at_80) rfl (l' := #[.val (.long q0), .second, .val (.int p1), .val (.ref b1), .val (.int (p1 &&& (7 : Int32))), .unset, .unset, .unset, .unset, .unset, .unset, .unset, .unset]) rfl ?_
  show Steps p.tables e below (T9.setTop (mkF m 82 #[.val (.long q0), .second, .val (.int p1), .val (.ref b1), .val (.int (p1 &&& (7 : Int32))), .unset, .unset, .unset, .unset, .unset, .unset, .unset, .unset] [])) _
  refine XS.aloadN X9.here hx rfl (hb hby at_82) rfl rfl ?_
  show Steps p.tables e below (T9.setTop (mkF m 83 #[.val (.long q0), .second, .val (.int p1), .val (.ref b1), .val (.int (p1 &&& (7 : Int32))), .unset, .unset, .unset, .unset, .unset, .unset, .unset, .unset] [(.ref b1)])) _
  refine XS.iconst X9.here hx rfl (hb hby at_83) ?_
  show Steps p.tables e below (T9.setTop (mkF m 84 #[.val (.long q0), .second, .val (.int p1), .val (.ref b1), .val (.int (p1 &&& (7 : Int32))), .unset, .unset, .unset, .unset, .unset, .unset, .unset, .unset] [(.int (0 : Int32)), (.ref b1)])) _
  refine st10 _ ?_
  show Steps p.tables e below (T10.setTop (mkF m 87 #[.val (.long q0), .second, .val (.int p1), .val (.ref b1), .val (.int (p1 &&& (7 : Int32))), .unset, .unset, .unset, .unset, .unset, .unset, .unset, .unset] [(.long (mix (hs vs (0 : Int32).toNatClampNeg)))])) _
  refine st11 _ ?_
  show Steps p.tables e below (T11.setTop (mkF m 90 #[.val (.long q0), .second, .val (.int p1), .val (.ref b1), .val (.int (p1 &&& (7 : Int32))), .unset, .unset, .unset, .unset, .unset, .unset, .unset, .unset] [(.long (F2_0 (mix (hs vs (0 : Int32).toNatClampNeg))))])) _
  refine XS.lstore X11.here hx rfl (hb hby at_90) rfl (l' := #[.val (.long q0), .second, .val (.int p1), .val (.ref b1), .val (.int (p1 &&& (7 : Int32))), .val (.long (F2_0 (mix (hs vs (0 : Int32).toNatClampNeg)))), .second, .unset, .unset, .unset, .unset, .unset, .unset]) rfl ?_
  show Steps p.tables e below (T11.setTop (mkF m 92 #[.val (.long q0), .second, .val (.int p1), .val (.ref b1), .val (.int (p1 &&& (7 : Int32))), .val (.long (F2_0 (mix (hs vs (0 : Int32).toNatClampNeg)))), .second, .unset, .unset, .unset, .unset, .unset, .unset] [])) _
  refine XS.aloadN X11.here hx rfl (hb hby at_92) rfl rfl ?_
  show Steps p.tables e below (T11.setTop (mkF m 93 #[.val (.long q0), .second, .val (.int p1), .val (.ref b1), .val (.int (p1 &&& (7 : Int32))), .val (.long (F2_0 (mix (hs vs (0 : Int32).toNatClampNeg)))), .second, .unset, .unset, .unset, .unset, .unset, .unset] [(.ref b1)])) _
  refine XS.iload X11.here hx rfl (hb hby at_93) rfl ?_
  show Steps p.tables e below (T11.setTop (mkF m 95 #[.val (.long q0), .second, .val (.int p1), .val (.ref b1), .val (.int (p1 &&& (7 : Int32))), .val (.long (F2_0 (mix (hs vs (0 : Int32).toNatClampNeg)))), .second, .unset, .unset, .unset, .unset, .unset, .unset] [(.int (p1 &&& (7 : Int32))), (.ref b1)])) _
  refine st12 _ ?_
  show Steps p.tables e below (T12.setTop (mkF m 98 #[.val (.long q0), .second, .val (.int p1), .val (.ref b1), .val (.int (p1 &&& (7 : Int32))), .val (.long (F2_0 (mix (hs vs (0 : Int32).toNatClampNeg)))), .second, .unset, .unset, .unset, .unset, .unset, .unset] [(.long (mix (hs vs (p1 &&& (7 : Int32)).toNatClampNeg)))])) _
  refine st13 _ ?_
  show Steps p.tables e below (T13.setTop (mkF m 101 #[.val (.long q0), .second, .val (.int p1), .val (.ref b1), .val (.int (p1 &&& (7 : Int32))), .val (.long (F2_0 (mix (hs vs (0 : Int32).toNatClampNeg)))), .second, .unset, .unset, .unset, .unset, .unset, .unset] [(.long (F2_0 (mix (hs vs (p1 &&& (7 : Int32)).toNatClampNeg))))])) _
  refine XS.lstore X13.here hx rfl (hb hby at_101) rfl (l' := #[.val (.long q0), .second, .val (.int p1), .val (.ref b1), .val (.int (p1 &&& (7 : Int32))), .val (.long (F2_0 (mix (hs vs (0 : Int32).toNatClampNeg)))), .second, .val (.long (F2_0 (mix (hs vs (p1 &&& (7 : Int32)).toNatClampNeg)))), .second, .unset, .unset, .unset, .unset]) rfl ?_
  show Steps p.tables e below (T13.setTop (mkF m 103 #[.val (.long q0), .second, .val (.int p1), .val (.ref b1), .val (.int (p1 &&& (7 : Int32))), .val (.long (F2_0 (mix (hs vs (0 : Int32).toNatClampNeg)))), .second, .val (.long (F2_0 (mix (hs vs (p1 &&& (7 : Int32)).toNatClampNeg)))), .second, .unset, .unset, .unset, .unset] [])) _
  refine XS.aloadN X13.here hx rfl (hb hby at_103) rfl rfl ?_
  show Steps p.tables e below (T13.setTop (mkF m 104 #[.val (.long q0), .second, .val (.int p1), .val (.ref b1), .val (.int (p1 &&& (7 : Int32))), .val (.long (F2_0 (mix (hs vs (0 : Int32).toNatClampNeg)))), .second, .val (.long (F2_0 (mix (hs vs (p1 &&& (7 : Int32)).toNatClampNeg)))), .second, .unset, .unset, .unset, .unset] [(.ref b1)])) _
  refine XS.iload X13.here hx rfl (hb hby at_104) rfl ?_
  show Steps p.tables e below (T13.setTop (mkF m 106 #[.val (.long q0), .second, .val (.int p1), .val (.ref b1), .val (.int (p1 &&& (7 : Int32))), .val (.long (F2_0 (mix (hs vs (0 : Int32).toNatClampNeg)))), .second, .val (.long (F2_0 (mix (hs vs (p1 &&& (7 : Int32)).toNatClampNeg)))), .second, .unset, .unset, .unset, .unset] [(.int (p1 &&& (7 : Int32))), (.ref b1)])) _
  refine XS.iconst X13.here hx rfl (hb hby at_106) ?_
  show Steps p.tables e below (T13.setTop (mkF m 107 #[.val (.long q0), .second, .val (.int p1), .val (.ref b1), .val (.int (p1 &&& (7 : Int32))), .val (.long (F2_0 (mix (hs vs (0 : Int32).toNatClampNeg)))), .second, .val (.long (F2_0 (mix (hs vs (p1 &&& (7 : Int32)).toNatClampNeg)))), .second, .unset, .unset, .unset, .unset] [(.int (1 : Int32)), (.int (p1 &&& (7 : Int32))), (.ref b1)])) _
  refine XS.iadd X13.here hx rfl (hb hby at_107) rfl ?_
  show Steps p.tables e below (T13.setTop (mkF m 108 #[.val (.long q0), .second, .val (.int p1), .val (.ref b1), .val (.int (p1 &&& (7 : Int32))), .val (.long (F2_0 (mix (hs vs (0 : Int32).toNatClampNeg)))), .second, .val (.long (F2_0 (mix (hs vs (p1 &&& (7 : Int32)).toNatClampNeg)))), .second, .unset, .unset, .unset, .unset] [(.int ((p1 &&& (7 : Int32)) + (1 : Int32))), (.ref b1)])) _
  refine st14 _ ?_
  show Steps p.tables e below (T14.setTop (mkF m 111 #[.val (.long q0), .second, .val (.int p1), .val (.ref b1), .val (.int (p1 &&& (7 : Int32))), .val (.long (F2_0 (mix (hs vs (0 : Int32).toNatClampNeg)))), .second, .val (.long (F2_0 (mix (hs vs (p1 &&& (7 : Int32)).toNatClampNeg)))), .second, .unset, .unset, .unset, .unset] [(.long (mix (hs vs ((p1 &&& (7 : Int32)) + (1 : Int32)).toNatClampNeg)))])) _
  refine st15 _ ?_
  show Steps p.tables e below (T15.setTop (mkF m 114 #[.val (.long q0), .second, .val (.int p1), .val (.ref b1), .val (.int (p1 &&& (7 : Int32))), .val (.long (F2_0 (mix (hs vs (0 : Int32).toNatClampNeg)))), .second, .val (.long (F2_0 (mix (hs vs (p1 &&& (7 : Int32)).toNatClampNeg)))), .second, .unset, .unset, .unset, .unset] [(.long (F2_0 (mix (hs vs ((p1 &&& (7 : Int32)) + (1 : Int32)).toNatClampNeg))))])) _
  refine XS.lstore X15.here hx rfl (hb hby at_114) rfl (l' := #[.val (.long q0), .second, .val (.int p1), .val (.ref b1), .val (.int (p1 &&& (7 : Int32))), .val (.long (F2_0 (mix (hs vs (0 : Int32).toNatClampNeg)))), .second, .val (.long (F2_0 (mix (hs vs (p1 &&& (7 : Int32)).toNatClampNeg)))), .second, .val (.long (F2_0 (mix (hs vs ((p1 &&& (7 : Int32)) + (1 : Int32)).toNatClampNeg)))), .second, .unset, .unset]) rfl ?_
  show Steps p.tables e below (T15.setTop (mkF m 116 #[.val (.long q0), .second, .val (.int p1), .val (.ref b1), .val (.int (p1 &&& (7 : Int32))), .val (.long (F2_0 (mix (hs vs (0 : Int32).toNatClampNeg)))), .second, .val (.long (F2_0 (mix (hs vs (p1 &&& (7 : Int32)).toNatClampNeg)))), .second, .val (.long (F2_0 (mix (hs vs ((p1 &&& (7 : Int32)) + (1 : Int32)).toNatClampNeg)))), .second, .unset, .unset] [])) _
  refine XS.lload X15.here hx rfl (hb hby at_116) rfl ?_
  show Steps p.tables e below (T15.setTop (mkF m 118 #[.val (.long q0), .second, .val (.int p1), .val (.ref b1), .val (.int (p1 &&& (7 : Int32))), .val (.long (F2_0 (mix (hs vs (0 : Int32).toNatClampNeg)))), .second, .val (.long (F2_0 (mix (hs vs (p1 &&& (7 : Int32)).toNatClampNeg)))), .second, .val (.long (F2_0 (mix (hs vs ((p1 &&& (7 : Int32)) + (1 : Int32)).toNatClampNeg)))), .second, .unset, .unset] [(.long (F2_0 (mix (hs vs (p1 &&& (7 : Int32)).toNatClampNeg))))])) _
  refine XS.aloadN X15.here hx rfl (hb hby at_118) rfl rfl ?_
  show Steps p.tables e below (T15.setTop (mkF m 119 #[.val (.long q0), .second, .val (.int p1), .val (.ref b1), .val (.int (p1 &&& (7 : Int32))), .val (.long (F2_0 (mix (hs vs (0 : Int32).toNatClampNeg)))), .second, .val (.long (F2_0 (mix (hs vs (p1 &&& (7 : Int32)).toNatClampNeg)))), .second, .val (.long (F2_0 (mix (hs vs ((p1 &&& (7 : Int32)) + (1 : Int32)).toNatClampNeg)))), .second, .unset, .unset] [(.ref b1), (.long (F2_0 (mix (hs vs (p1 &&& (7 : Int32)).toNatClampNeg))))])) _
  refine XS.iload X15.here hx rfl (hb hby at_119) rfl ?_
  show Steps p.tables e below (T15.setTop (mkF m 121 #[.val (.long q0), .second, .val (.int p1), .val (.ref b1), .val (.int (p1 &&& (7 : Int32))), .val (.long (F2_0 (mix (hs vs (0 : Int32).toNatClampNeg)))), .second, .val (.long (F2_0 (mix (hs vs (p1 &&& (7 : Int32)).toNatClampNeg)))), .second, .val (.long (F2_0 (mix (hs vs ((p1 &&& (7 : Int32)) + (1 : Int32)).toNatClampNeg)))), .second, .unset, .unset] [(.int (p1 &&& (7 : Int32))), (.ref b1), (.long (F2_0 (mix (hs vs (p1 &&& (7 : Int32)).toNatClampNeg))))])) _
  refine own_al_ldB X15 hx hZ e15 V9_b1 (g := (mkF m 121 #[.val (.long q0), .second, .val (.int p1), .val (.ref b1), .val (.int (p1 &&& (7 : Int32))), .val (.long (F2_0 (mix (hs vs (0 : Int32).toNatClampNeg)))), .second, .val (.long (F2_0 (mix (hs vs (p1 &&& (7 : Int32)).toNatClampNeg)))), .second, .val (.long (F2_0 (mix (hs vs ((p1 &&& (7 : Int32)) + (1 : Int32)).toNatClampNeg)))), .second, .unset, .unset] [(.int (p1 &&& (7 : Int32))), (.ref b1), (.long (F2_0 (mix (hs vs (p1 &&& (7 : Int32)).toNatClampNeg))))])) (own_bn p1 hl) rfl rfl (hb hby at_121) _ ?_
  show Steps p.tables e below (T15.setTop (mkF m 122 #[.val (.long q0), .second, .val (.int p1), .val (.ref b1), .val (.int (p1 &&& (7 : Int32))), .val (.long (F2_0 (mix (hs vs (0 : Int32).toNatClampNeg)))), .second, .val (.long (F2_0 (mix (hs vs (p1 &&& (7 : Int32)).toNatClampNeg)))), .second, .val (.long (F2_0 (mix (hs vs ((p1 &&& (7 : Int32)) + (1 : Int32)).toNatClampNeg)))), .second, .unset, .unset] [(.int (vs.getD (p1 &&& (7 : Int32)).toNatClampNeg 0)), (.long (F2_0 (mix (hs vs (p1 &&& (7 : Int32)).toNatClampNeg))))])) _
  refine XS.sipush X15.here hx rfl (hb hby at_122) ?_
  show Steps p.tables e below (T15.setTop (mkF m 125 #[.val (.long q0), .second, .val (.int p1), .val (.ref b1), .val (.int (p1 &&& (7 : Int32))), .val (.long (F2_0 (mix (hs vs (0 : Int32).toNatClampNeg)))), .second, .val (.long (F2_0 (mix (hs vs (p1 &&& (7 : Int32)).toNatClampNeg)))), .second, .val (.long (F2_0 (mix (hs vs ((p1 &&& (7 : Int32)) + (1 : Int32)).toNatClampNeg)))), .second, .unset, .unset] [(.int (255 : Int32)), (.int (vs.getD (p1 &&& (7 : Int32)).toNatClampNeg 0)), (.long (F2_0 (mix (hs vs (p1 &&& (7 : Int32)).toNatClampNeg))))])) _
  refine XS.iand X15.here hx rfl (hb hby at_125) rfl ?_
  show Steps p.tables e below (T15.setTop (mkF m 126 #[.val (.long q0), .second, .val (.int p1), .val (.ref b1), .val (.int (p1 &&& (7 : Int32))), .val (.long (F2_0 (mix (hs vs (0 : Int32).toNatClampNeg)))), .second, .val (.long (F2_0 (mix (hs vs (p1 &&& (7 : Int32)).toNatClampNeg)))), .second, .val (.long (F2_0 (mix (hs vs ((p1 &&& (7 : Int32)) + (1 : Int32)).toNatClampNeg)))), .second, .unset, .unset] [(.int ((vs.getD (p1 &&& (7 : Int32)).toNatClampNeg 0) &&& (255 : Int32))), (.long (F2_0 (mix (hs vs (p1 &&& (7 : Int32)).toNatClampNeg))))])) _
  refine XS.i2l X15.here hx rfl (hb hby at_126) rfl ?_
  show Steps p.tables e below (T15.setTop (mkF m 127 #[.val (.long q0), .second, .val (.int p1), .val (.ref b1), .val (.int (p1 &&& (7 : Int32))), .val (.long (F2_0 (mix (hs vs (0 : Int32).toNatClampNeg)))), .second, .val (.long (F2_0 (mix (hs vs (p1 &&& (7 : Int32)).toNatClampNeg)))), .second, .val (.long (F2_0 (mix (hs vs ((p1 &&& (7 : Int32)) + (1 : Int32)).toNatClampNeg)))), .second, .unset, .unset] [(.long (((vs.getD (p1 &&& (7 : Int32)).toNatClampNeg 0) &&& (255 : Int32)).toInt64)), (.long (F2_0 (mix (hs vs (p1 &&& (7 : Int32)).toNatClampNeg))))])) _
  refine XS.lxor X15.here hx rfl (hb hby at_127) rfl ?_
  show Steps p.tables e below (T15.setTop (mkF m 128 #[.val (.long q0), .second, .val (.int p1), .val (.ref b1), .val (.int (p1 &&& (7 : Int32))), .val (.long (F2_0 (mix (hs vs (0 : Int32).toNatClampNeg)))), .second, .val (.long (F2_0 (mix (hs vs (p1 &&& (7 : Int32)).toNatClampNeg)))), .second, .val (.long (F2_0 (mix (hs vs ((p1 &&& (7 : Int32)) + (1 : Int32)).toNatClampNeg)))), .second, .unset, .unset] [(.long ((F2_0 (mix (hs vs (p1 &&& (7 : Int32)).toNatClampNeg))) ^^^ (((vs.getD (p1 &&& (7 : Int32)).toNatClampNeg 0) &&& (255 : Int32)).toInt64)))])) _
  refine X15.ldc2Long hx hown (mvT hZ (hw _ (List.mem_of_getElem? (i := 19) rfl))) (g := (mkF m 128 #[.val (.long q0), .second, .val (.int p1), .val (.ref b1), .val (.int (p1 &&& (7 : Int32))), .val (.long (F2_0 (mix (hs vs (0 : Int32).toNatClampNeg)))), .second, .val (.long (F2_0 (mix (hs vs (p1 &&& (7 : Int32)).toNatClampNeg)))), .second, .val (.long (F2_0 (mix (hs vs ((p1 &&& (7 : Int32)) + (1 : Int32)).toNatClampNeg)))), .second, .unset, .unset] [(.long ((F2_0 (mix (hs vs (p1 &&& (7 : Int32)).toNatClampNeg))) ^^^ (((vs.getD (p1 &&& (7 : Int32)).toNatClampNeg 0) &&& (255 : Int32)).toInt64)))])) rfl (hb hby at_128) _ ?_
  show Steps p.tables e below (T15.setTop (mkF m 131 #[.val (.long q0), .second, .val (.int p1), .val (.ref b1), .val (.int (p1 &&& (7 : Int32))), .val (.long (F2_0 (mix (hs vs (0 : Int32).toNatClampNeg)))), .second, .val (.long (F2_0 (mix (hs vs (p1 &&& (7 : Int32)).toNatClampNeg)))), .second, .val (.long (F2_0 (mix (hs vs ((p1 &&& (7 : Int32)) + (1 : Int32)).toNatClampNeg)))), .second, .unset, .unset] [(.long (1099511628211 : Int64)), (.long ((F2_0 (mix (hs vs (p1 &&& (7 : Int32)).toNatClampNeg))) ^^^ (((vs.getD (p1 &&& (7 : Int32)).toNatClampNeg 0) &&& (255 : Int32)).toInt64)))])) _
  refine XS.lmul X15.here hx rfl (hb hby at_131) rfl ?_
  show Steps p.tables e below (T15.setTop (mkF m 132 #[.val (.long q0), .second, .val (.int p1), .val (.ref b1), .val (.int (p1 &&& (7 : Int32))), .val (.long (F2_0 (mix (hs vs (0 : Int32).toNatClampNeg)))), .second, .val (.long (F2_0 (mix (hs vs (p1 &&& (7 : Int32)).toNatClampNeg)))), .second, .val (.long (F2_0 (mix (hs vs ((p1 &&& (7 : Int32)) + (1 : Int32)).toNatClampNeg)))), .second, .unset, .unset] [(.long (((F2_0 (mix (hs vs (p1 &&& (7 : Int32)).toNatClampNeg))) ^^^ (((vs.getD (p1 &&& (7 : Int32)).toNatClampNeg 0) &&& (255 : Int32)).toInt64)) * (1099511628211 : Int64)))])) _
  refine XS.lstore X15.here hx rfl (hb hby at_132) rfl (l' := #[.val (.long q0), .second, .val (.int p1), .val (.ref b1), .val (.int (p1 &&& (7 : Int32))), .val (.long (F2_0 (mix (hs vs (0 : Int32).toNatClampNeg)))), .second, .val (.long (F2_0 (mix (hs vs (p1 &&& (7 : Int32)).toNatClampNeg)))), .second, .val (.long (F2_0 (mix (hs vs ((p1 &&& (7 : Int32)) + (1 : Int32)).toNatClampNeg)))), .second, .val (.long (((F2_0 (mix (hs vs (p1 &&& (7 : Int32)).toNatClampNeg))) ^^^ (((vs.getD (p1 &&& (7 : Int32)).toNatClampNeg 0) &&& (255 : Int32)).toInt64)) * (1099511628211 : Int64))), .second]) rfl ?_
  show Steps p.tables e below (T15.setTop (mkF m 134 #[.val (.long q0), .second, .val (.int p1), .val (.ref b1), .val (.int (p1 &&& (7 : Int32))), .val (.long (F2_0 (mix (hs vs (0 : Int32).toNatClampNeg)))), .second, .val (.long (F2_0 (mix (hs vs (p1 &&& (7 : Int32)).toNatClampNeg)))), .second, .val (.long (F2_0 (mix (hs vs ((p1 &&& (7 : Int32)) + (1 : Int32)).toNatClampNeg)))), .second, .val (.long (((F2_0 (mix (hs vs (p1 &&& (7 : Int32)).toNatClampNeg))) ^^^ (((vs.getD (p1 &&& (7 : Int32)).toNatClampNeg 0) &&& (255 : Int32)).toInt64)) * (1099511628211 : Int64))), .second] [])) _
  refine XS.lload X15.here hx rfl (hb hby at_134) rfl ?_
  show Steps p.tables e below (T15.setTop (mkF m 136 #[.val (.long q0), .second, .val (.int p1), .val (.ref b1), .val (.int (p1 &&& (7 : Int32))), .val (.long (F2_0 (mix (hs vs (0 : Int32).toNatClampNeg)))), .second, .val (.long (F2_0 (mix (hs vs (p1 &&& (7 : Int32)).toNatClampNeg)))), .second, .val (.long (F2_0 (mix (hs vs ((p1 &&& (7 : Int32)) + (1 : Int32)).toNatClampNeg)))), .second, .val (.long (((F2_0 (mix (hs vs (p1 &&& (7 : Int32)).toNatClampNeg))) ^^^ (((vs.getD (p1 &&& (7 : Int32)).toNatClampNeg 0) &&& (255 : Int32)).toInt64)) * (1099511628211 : Int64))), .second] [(.long (F2_0 (mix (hs vs (0 : Int32).toNatClampNeg))))])) _
  refine X15.ldc2Long hx hown (mvT hZ (hw _ (List.mem_of_getElem? (i := 20) rfl))) (g := (mkF m 136 #[.val (.long q0), .second, .val (.int p1), .val (.ref b1), .val (.int (p1 &&& (7 : Int32))), .val (.long (F2_0 (mix (hs vs (0 : Int32).toNatClampNeg)))), .second, .val (.long (F2_0 (mix (hs vs (p1 &&& (7 : Int32)).toNatClampNeg)))), .second, .val (.long (F2_0 (mix (hs vs ((p1 &&& (7 : Int32)) + (1 : Int32)).toNatClampNeg)))), .second, .val (.long (((F2_0 (mix (hs vs (p1 &&& (7 : Int32)).toNatClampNeg))) ^^^ (((vs.getD (p1 &&& (7 : Int32)).toNatClampNeg 0) &&& (255 : Int32)).toInt64)) * (1099511628211 : Int64))), .second] [(.long (F2_0 (mix (hs vs (0 : Int32).toNatClampNeg))))])) rfl (hb hby at_136) _ ?_
  show Steps p.tables e below (T15.setTop (mkF m 139 #[.val (.long q0), .second, .val (.int p1), .val (.ref b1), .val (.int (p1 &&& (7 : Int32))), .val (.long (F2_0 (mix (hs vs (0 : Int32).toNatClampNeg)))), .second, .val (.long (F2_0 (mix (hs vs (p1 &&& (7 : Int32)).toNatClampNeg)))), .second, .val (.long (F2_0 (mix (hs vs ((p1 &&& (7 : Int32)) + (1 : Int32)).toNatClampNeg)))), .second, .val (.long (((F2_0 (mix (hs vs (p1 &&& (7 : Int32)).toNatClampNeg))) ^^^ (((vs.getD (p1 &&& (7 : Int32)).toNatClampNeg 0) &&& (255 : Int32)).toInt64)) * (1099511628211 : Int64))), .second] [(.long (-3750763034362895579 : Int64)), (.long (F2_0 (mix (hs vs (0 : Int32).toNatClampNeg))))])) _
  refine XS.lcmp X15.here hx rfl (hb hby at_139) rfl ?_
  show Steps p.tables e below (T15.setTop (mkF m 140 #[.val (.long q0), .second, .val (.int p1), .val (.ref b1), .val (.int (p1 &&& (7 : Int32))), .val (.long (F2_0 (mix (hs vs (0 : Int32).toNatClampNeg)))), .second, .val (.long (F2_0 (mix (hs vs (p1 &&& (7 : Int32)).toNatClampNeg)))), .second, .val (.long (F2_0 (mix (hs vs ((p1 &&& (7 : Int32)) + (1 : Int32)).toNatClampNeg)))), .second, .val (.long (((F2_0 (mix (hs vs (p1 &&& (7 : Int32)).toNatClampNeg))) ^^^ (((vs.getD (p1 &&& (7 : Int32)).toNatClampNeg 0) &&& (255 : Int32)).toInt64)) * (1099511628211 : Int64))), .second] [(.int (lcmpW (F2_0 (mix (hs vs (0 : Int32).toNatClampNeg))) (-3750763034362895579 : Int64)))])) _
  refine XS.ifNo X15.here hx rfl (hb hby at_140) rfl ((if0 _ _).trans (teq ((lw_eq _ _).mpr own_empty)).2) ?_
  show Steps p.tables e below (T15.setTop (mkF m 143 #[.val (.long q0), .second, .val (.int p1), .val (.ref b1), .val (.int (p1 &&& (7 : Int32))), .val (.long (F2_0 (mix (hs vs (0 : Int32).toNatClampNeg)))), .second, .val (.long (F2_0 (mix (hs vs (p1 &&& (7 : Int32)).toNatClampNeg)))), .second, .val (.long (F2_0 (mix (hs vs ((p1 &&& (7 : Int32)) + (1 : Int32)).toNatClampNeg)))), .second, .val (.long (((F2_0 (mix (hs vs (p1 &&& (7 : Int32)).toNatClampNeg))) ^^^ (((vs.getD (p1 &&& (7 : Int32)).toNatClampNeg 0) &&& (255 : Int32)).toInt64)) * (1099511628211 : Int64))), .second] [])) _
  refine XS.lload X15.here hx rfl (hb hby at_143) rfl ?_
  show Steps p.tables e below (T15.setTop (mkF m 145 #[.val (.long q0), .second, .val (.int p1), .val (.ref b1), .val (.int (p1 &&& (7 : Int32))), .val (.long (F2_0 (mix (hs vs (0 : Int32).toNatClampNeg)))), .second, .val (.long (F2_0 (mix (hs vs (p1 &&& (7 : Int32)).toNatClampNeg)))), .second, .val (.long (F2_0 (mix (hs vs ((p1 &&& (7 : Int32)) + (1 : Int32)).toNatClampNeg)))), .second, .val (.long (((F2_0 (mix (hs vs (p1 &&& (7 : Int32)).toNatClampNeg))) ^^^ (((vs.getD (p1 &&& (7 : Int32)).toNatClampNeg 0) &&& (255 : Int32)).toInt64)) * (1099511628211 : Int64))), .second] [(.long (F2_0 (mix (hs vs ((p1 &&& (7 : Int32)) + (1 : Int32)).toNatClampNeg))))])) _
  refine XS.lload X15.here hx rfl (hb hby at_145) rfl ?_
  show Steps p.tables e below (T15.setTop (mkF m 147 #[.val (.long q0), .second, .val (.int p1), .val (.ref b1), .val (.int (p1 &&& (7 : Int32))), .val (.long (F2_0 (mix (hs vs (0 : Int32).toNatClampNeg)))), .second, .val (.long (F2_0 (mix (hs vs (p1 &&& (7 : Int32)).toNatClampNeg)))), .second, .val (.long (F2_0 (mix (hs vs ((p1 &&& (7 : Int32)) + (1 : Int32)).toNatClampNeg)))), .second, .val (.long (((F2_0 (mix (hs vs (p1 &&& (7 : Int32)).toNatClampNeg))) ^^^ (((vs.getD (p1 &&& (7 : Int32)).toNatClampNeg 0) &&& (255 : Int32)).toInt64)) * (1099511628211 : Int64))), .second] [(.long (((F2_0 (mix (hs vs (p1 &&& (7 : Int32)).toNatClampNeg))) ^^^ (((vs.getD (p1 &&& (7 : Int32)).toNatClampNeg 0) &&& (255 : Int32)).toInt64)) * (1099511628211 : Int64))), (.long (F2_0 (mix (hs vs ((p1 &&& (7 : Int32)) + (1 : Int32)).toNatClampNeg))))])) _
  refine XS.lcmp X15.here hx rfl (hb hby at_147) rfl ?_
  show Steps p.tables e below (T15.setTop (mkF m 148 #[.val (.long q0), .second, .val (.int p1), .val (.ref b1), .val (.int (p1 &&& (7 : Int32))), .val (.long (F2_0 (mix (hs vs (0 : Int32).toNatClampNeg)))), .second, .val (.long (F2_0 (mix (hs vs (p1 &&& (7 : Int32)).toNatClampNeg)))), .second, .val (.long (F2_0 (mix (hs vs ((p1 &&& (7 : Int32)) + (1 : Int32)).toNatClampNeg)))), .second, .val (.long (((F2_0 (mix (hs vs (p1 &&& (7 : Int32)).toNatClampNeg))) ^^^ (((vs.getD (p1 &&& (7 : Int32)).toNatClampNeg 0) &&& (255 : Int32)).toInt64)) * (1099511628211 : Int64))), .second] [(.int (lcmpW (F2_0 (mix (hs vs ((p1 &&& (7 : Int32)) + (1 : Int32)).toNatClampNeg))) (((F2_0 (mix (hs vs (p1 &&& (7 : Int32)).toNatClampNeg))) ^^^ (((vs.getD (p1 &&& (7 : Int32)).toNatClampNeg 0) &&& (255 : Int32)).toInt64)) * (1099511628211 : Int64))))])) _
  refine XS.ifNo X15.here hx rfl (hb hby at_148) rfl ((if0 _ _).trans (teq ((lw_eq _ _).mpr (own_after vs p1))).2) ?_
  show Steps p.tables e below (T15.setTop (mkF m 151 #[.val (.long q0), .second, .val (.int p1), .val (.ref b1), .val (.int (p1 &&& (7 : Int32))), .val (.long (F2_0 (mix (hs vs (0 : Int32).toNatClampNeg)))), .second, .val (.long (F2_0 (mix (hs vs (p1 &&& (7 : Int32)).toNatClampNeg)))), .second, .val (.long (F2_0 (mix (hs vs ((p1 &&& (7 : Int32)) + (1 : Int32)).toNatClampNeg)))), .second, .val (.long (((F2_0 (mix (hs vs (p1 &&& (7 : Int32)).toNatClampNeg))) ^^^ (((vs.getD (p1 &&& (7 : Int32)).toNatClampNeg 0) &&& (255 : Int32)).toInt64)) * (1099511628211 : Int64))), .second] [])) _
  refine XS.iconst X15.here hx rfl (hb hby at_151) ?_
  show Steps p.tables e below (T15.setTop (mkF m 152 #[.val (.long q0), .second, .val (.int p1), .val (.ref b1), .val (.int (p1 &&& (7 : Int32))), .val (.long (F2_0 (mix (hs vs (0 : Int32).toNatClampNeg)))), .second, .val (.long (F2_0 (mix (hs vs (p1 &&& (7 : Int32)).toNatClampNeg)))), .second, .val (.long (F2_0 (mix (hs vs ((p1 &&& (7 : Int32)) + (1 : Int32)).toNatClampNeg)))), .second, .val (.long (((F2_0 (mix (hs vs (p1 &&& (7 : Int32)).toNatClampNeg))) ^^^ (((vs.getD (p1 &&& (7 : Int32)).toNatClampNeg 0) &&& (255 : Int32)).toInt64)) * (1099511628211 : Int64))), .second] [(.int (1 : Int32))])) _
  refine XS.goto X15.here hx rfl (pc0 := 152) (pc' := 156) rfl (hb hby at_152) (by decide) (by decide) ?_
  show Steps p.tables e below (T15.setTop (mkF m 156 #[.val (.long q0), .second, .val (.int p1), .val (.ref b1), .val (.int (p1 &&& (7 : Int32))), .val (.long (F2_0 (mix (hs vs (0 : Int32).toNatClampNeg)))), .second, .val (.long (F2_0 (mix (hs vs (p1 &&& (7 : Int32)).toNatClampNeg)))), .second, .val (.long (F2_0 (mix (hs vs ((p1 &&& (7 : Int32)) + (1 : Int32)).toNatClampNeg)))), .second, .val (.long (((F2_0 (mix (hs vs (p1 &&& (7 : Int32)).toNatClampNeg))) ^^^ (((vs.getD (p1 &&& (7 : Int32)).toNatClampNeg 0) &&& (255 : Int32)).toInt64)) * (1099511628211 : Int64))), .second] [(.int (1 : Int32))])) _
  exact retN X15 hx (t := .boolean) Bd.returns (by simp) (hb hby at_156) hr
set_option maxRecDepth 65536 in
set_option maxHeartbeats 40000000 in
theorem comes_1 {Post : Tables → Env → Array Value → State → Outcome → State → Prop} (hpost : ∀ tb e args s v u, (limb_1_1.after args s (.returned v) u = true ∧ limb_1_2.after args s (.returned v) u = true ∧ True) → FrameEnd s (.returned v) u (Jvm.fieldLocs frame_1_writes args s ++ Jvm.arrayLocs frame_1_arrays args s ++ Jvm.staticLocs frame_1_statics s) 16 128 → Post tb e args s (.returned v) u) :
    ArmFor flags0 classFile x code maxLocals ret World_1 tables_1 room_1 Calls_1 rest_1 Pre_1 Post := by
  intro l hfl _ _ p e ha hc hk s m args below hf hA hF happ hP
  obtain ⟨hcalls, hrest, hpre⟩ := hP
  obtain ⟨-, -, -, hnamed, -, -, -, hat⟩ := (Spec.applies_iff hf).mp happ
  obtain ⟨hg, hn⟩ := and_e (Cond.before_iff.mp (show (Jvm.Cond.and given_1 narrow_1).before args s = true from hpre))
  obtain ⟨gc, g0⟩ := and_e hg
  obtain ⟨k0, g1⟩ := and_e g0
  have k1 := g1
  obtain ⟨w0, w1, rfl⟩ : ∃ w0 w1 : Value, args = #[w0, w1] := by
    have hs : args.size = 2 := by simpa [Cond.value, given_1] using gc
    obtain ⟨L⟩ := args
    match L, hs with
    | [w0, w1], _ => exact ⟨w0, w1, rfl⟩
  have hw := fun d (hd : d ∈ tables_1) => atoms_spec (ws := Jvm.Cond.code x code maxLocals ret :: tables_1) hat d (List.mem_cons_of_mem _ hd)
  obtain ⟨i0, ei0⟩ := isL_v k0
  obtain rfl : w0 = (.long i0) := Option.some.inj ei0
  obtain ⟨i1, ei1⟩ := is_v k1
  obtain rfl : w1 = (.int i1) := Option.some.inj ei1
  obtain ⟨n, o, h1, h2, h3, _, L, rfl, ⟨rfl, N⟩, hq⟩ := rm0 l s _ hw tables_1 i0 i1 s.heap s.heap.size (Nat.le_refl _) p e ha hc hk s m _ below hf ((Spec.applies_iff_loose hf).mp happ).1 ⟨rfl, State.Warmed39.refl s, rfl⟩ trivial
  refine ⟨n, _, h1, h2, h3, hpost _ _ _ _ _ _ ⟨Cond.after_iff.mpr rfl, Cond.after_iff.mpr (eq_i res_at (Term.int_eval (1)) rfl), trivial⟩ ⟨hq.1, hq.2.1, (hq.2.2.sift fun y hy => Or.inr (N y hy)).mono (by decide) (by decide)⟩⟩
theorem main_1_1 : Claimed_1_1 := comes_1 fun _ _ _ _ _ _ h hF => ⟨h.1, hF⟩
theorem main_1_2 : Claimed_1_2 := comes_1 fun _ _ _ _ _ _ h hF => ⟨h.2.1, hF⟩
end Jvm.Pilot.@@N@@
namespace Jvm.Pilot.@@N@@
open Jvm Jvm.ClassFile Sem Op Lib Jvm.Free Jvm.Stand Jvm.Pilot.@@N@@.Jvm.D
/-! MADE BY PROGRAM (witnessworld.py) out of the Statement's table words and the real class files: 9 classes; the members and pool entries that the words name. The judged class is class 1, her method 1. -/
namespace start1
open Jvm.ClassFile
def u (s : String) : CpInfo := .utf8 (stringToUtf16 s)
/-- a pool by its gaps: so many unusable entries, then the entry; so many at the end -/
def gap : Nat → List CpInfo → List CpInfo
  | 0, r => r
  | n + 1, r => .unusable :: gap n r
def poolList (es : List (Nat × CpInfo)) (last : Nat) : List CpInfo := es.foldr (fun e r => gap e.1 (e.2 :: r)) (gap last [])
def pool (es : List (Nat × CpInfo)) (last : Nat) : Array CpInfo := ⟨poolList es last⟩
def fileOf (pool : Array CpInfo) (this : Nat) (attrs : Array Attribute := #[]) (ms : Array MethodInfo := #[]) (fl : Nat := 33) (sup : Nat := 0) (ifs : Array Nat := #[]) (fds : Array FieldInfo := #[]) : ClassFile where
  minorVersion := 0
  majorVersion := 65
  constantPool := pool
  accessFlags := fl
  thisClass := this
  superClass := sup
  interfaces := ifs
  fields := fds
  methods := ms
  attributes := attrs
def plain (name : String) (sup : Option ClassId) : Class where
  name := name
  kind := .ordinary
  loader := none
  accessFlags := 33
  super := sup
  interfaces := #[]
  cf := none
  fields := #[]
  methods := #[]
  instanceTypes := #[]
  staticTypes := #[]
  resolved := #[]
  callSites := []
  init := .initialized
  statics := none
  mirror := none

def pool0 : Array CpInfo := pool [(5, u "<init>"), (0, u "()V"), (1, .class_ 10), (1, u "java/lang/Object")] 113

def k0m0 : Method := { name := "<init>", desc := "()V", sig := { parameters := [], returnType := none }, accessFlags := 1, code := none }
/-- java/lang/Object -/
def k0 : Class := { plain "java/lang/Object" none with
  accessFlags := 33
  interfaces := #[]
  cf := some (fileOf pool0 8 #[] #[{ accessFlags := 1, nameIndex := 5, descriptorIndex := 6, attributes := #[] }] 33 0 #[] #[])
  fields := #[]
  methods := #[k0m0]
  instanceTypes := #[]
  staticTypes := #[]
  resolved := Array.replicate 124 none
  statics := none }

def pool1 : Array CpInfo := pool [(2, .class_ 4), (1, u "java/lang/Object"), (0, u "<init>"), (0, u "()V"), (0, .methodref 8 9), (0, .class_ 10), (0, .nameAndType 11 12), (0, u "com/example/defacto/defacto/index/ChunkTerms"), (0, u "hash"), (0, u "([BI)J"), (0, .methodref 14 15), (0, .class_ 16), (0, .nameAndType 17 18), (0, u "com/example/defacto/defacto/index/ChunkTermsHashPinLaw"), (0, u "unmix"), (0, u "(J)J"), (0, .long 1099511628211), (1, .long 14695981039346656037), (1, .long 2), (1, .long 14181476777654086739), (1, .methodref 14 28), (0, .nameAndType 29 18), (0, u "inverse"), (0, .long 18397679294719823053), (3, u "law"), (0, u "(JI)Z")] 5

def k1m0 : Method := { name := "<init>", desc := "()V", sig := { parameters := [], returnType := none }, accessFlags := 1, code := none }
def k1c1 : Code := { maxStack := 5, maxLocals := 13, code := code, exceptionTable := #[], attributes := #[] }
def k1m1 : Method := { name := "law", desc := "(JI)Z", sig := { parameters := [.long, .int], returnType := some .boolean }, accessFlags := 9, code := some k1c1 }
def k1c2 : Code := { maxStack := 8, maxLocals := 4, code := method_3_code, exceptionTable := #[], attributes := #[] }
def k1m2 : Method := { name := "inverse", desc := "(J)J", sig := { parameters := [.long], returnType := some .long }, accessFlags := 10, code := some k1c2 }
def k1c3 : Code := { maxStack := 5, maxLocals := 4, code := method_4_code, exceptionTable := #[], attributes := #[] }
def k1m3 : Method := { name := "unmix", desc := "(J)J", sig := { parameters := [.long], returnType := some .long }, accessFlags := 10, code := some k1c3 }
/-- com/example/defacto/defacto/index/ChunkTermsHashPinLaw -/
def k1 : Class := { plain "com/example/defacto/defacto/index/ChunkTermsHashPinLaw" (some 0) with
  accessFlags := 49
  interfaces := #[]
  cf := some (fileOf pool1 14 #[] #[{ accessFlags := 1, nameIndex := 5, descriptorIndex := 6, attributes := #[] }, { accessFlags := 9, nameIndex := 34, descriptorIndex := 35, attributes := #[] }, { accessFlags := 10, nameIndex := 29, descriptorIndex := 18, attributes := #[] }, { accessFlags := 10, nameIndex := 17, descriptorIndex := 18, attributes := #[] }] 49 2 #[] #[])
  fields := #[]
  methods := #[k1m0, k1m1, k1m2, k1m3]
  instanceTypes := #[]
  staticTypes := #[]
  resolved := Array.replicate 41 none
  statics := none }

def pool2 : Array CpInfo := pool [(2, .class_ 4), (1, u "java/lang/Object"), (3, .class_ 10), (1, u "com/example/defacto/defacto/index/ChunkTerms"), (0, u "keys"), (0, u "[B"), (2, u "starts"), (0, u "[I"), (2, u "hashes"), (0, u "[J"), (2, u "firsts"), (2, u "names"), (2, u "keyed"), (0, u "[Z"), (2, u "slots"), (21, u "mostTerms"), (0, u "I"), (6, u "mostKeyBytes"), (0, .long 14695981039346656037), (1, .long 1099511628211), (1, .long 18397679294719823053), (1, .long 14181476777654086739), (3, u "count"), (2, u "keyBytes"), (41, .class_ 120), (0, u "com/example/defacto/defacto/index/ChunkTerms$Records"), (12, u "TERM_BYTES"), (5, u "hash"), (0, u "([BI)J")] 26

def k2c0 : Code := { maxStack := 5, maxLocals := 5, code := prog_28_method_2_code, exceptionTable := #[], attributes := #[] }
def k2m0 : Method := { name := "hash", desc := "([BI)J", sig := { parameters := [(.array .byte), .int], returnType := some .long }, accessFlags := 8, code := some k2c0 }
/-- com/example/defacto/defacto/index/ChunkTerms -/
def k2 : Class := { plain "com/example/defacto/defacto/index/ChunkTerms" (some 0) with
  accessFlags := 32
  interfaces := #[]
  cf := some (fileOf pool2 8 #[.nestMembers #[119]] #[{ accessFlags := 8, nameIndex := 139, descriptorIndex := 140, attributes := #[] }] 32 2 #[] #[{ accessFlags := 26, nameIndex := 133, descriptorIndex := 56, attributes := #[] }, { accessFlags := 18, nameIndex := 55, descriptorIndex := 56, attributes := #[] }, { accessFlags := 18, nameIndex := 63, descriptorIndex := 56, attributes := #[] }, { accessFlags := 2, nameIndex := 11, descriptorIndex := 12, attributes := #[] }, { accessFlags := 2, nameIndex := 77, descriptorIndex := 56, attributes := #[] }, { accessFlags := 2, nameIndex := 15, descriptorIndex := 16, attributes := #[] }, { accessFlags := 2, nameIndex := 19, descriptorIndex := 20, attributes := #[] }, { accessFlags := 2, nameIndex := 23, descriptorIndex := 20, attributes := #[] }, { accessFlags := 2, nameIndex := 26, descriptorIndex := 20, attributes := #[] }, { accessFlags := 2, nameIndex := 29, descriptorIndex := 30, attributes := #[] }, { accessFlags := 2, nameIndex := 74, descriptorIndex := 56, attributes := #[] }, { accessFlags := 2, nameIndex := 33, descriptorIndex := 16, attributes := #[] }])
  fields := #[{ name := "TERM_BYTES", type := .int, accessFlags := 26, slot := 0, constantValue := 0 }, { name := "mostTerms", type := .int, accessFlags := 18, slot := 0, constantValue := 0 }, { name := "mostKeyBytes", type := .int, accessFlags := 18, slot := 1, constantValue := 0 }, { name := "keys", type := (.array .byte), accessFlags := 2, slot := 2, constantValue := 0 }, { name := "keyBytes", type := .int, accessFlags := 2, slot := 3, constantValue := 0 }, { name := "starts", type := (.array .int), accessFlags := 2, slot := 4, constantValue := 0 }, { name := "hashes", type := (.array .long), accessFlags := 2, slot := 5, constantValue := 0 }, { name := "firsts", type := (.array .long), accessFlags := 2, slot := 6, constantValue := 0 }, { name := "names", type := (.array .long), accessFlags := 2, slot := 7, constantValue := 0 }, { name := "keyed", type := (.array .boolean), accessFlags := 2, slot := 8, constantValue := 0 }, { name := "count", type := .int, accessFlags := 2, slot := 9, constantValue := 0 }, { name := "slots", type := (.array .int), accessFlags := 2, slot := 10, constantValue := 0 }]
  methods := #[k2m0]
  instanceTypes := #[.int, .int, (.array .byte), .int, (.array .int), (.array .long), (.array .long), (.array .long), (.array .boolean), .int, (.array .int)]
  staticTypes := #[.int]
  resolved := Array.replicate 167 none
  statics := none }

def pool3 : Array CpInfo := pool [(1, u "java/lang/Cloneable"), (0, .class_ 1), (0, u "java/lang/Object"), (0, .class_ 3)] 3

/-- java/lang/Cloneable -/
def k3 : Class := { plain "java/lang/Cloneable" (some 0) with
  accessFlags := 1537
  interfaces := #[]
  cf := some (fileOf pool3 2 #[] #[] 1537 4 #[] #[])
  fields := #[]
  methods := #[]
  instanceTypes := #[]
  staticTypes := #[]
  resolved := Array.replicate 8 none
  statics := none }

def pool4 : Array CpInfo := pool [(1, u "java/io/Serializable"), (0, .class_ 1), (0, u "java/lang/Object"), (0, .class_ 3)] 3

/-- java/io/Serializable -/
def k4 : Class := { plain "java/io/Serializable" (some 0) with
  accessFlags := 1537
  interfaces := #[]
  cf := some (fileOf pool4 2 #[] #[] 1537 4 #[] #[])
  fields := #[]
  methods := #[]
  instanceTypes := #[]
  staticTypes := #[]
  resolved := Array.replicate 8 none
  statics := none }

/-- the primitive byte -/
def k5 : Class := { plain "byte" none with kind := .primitive 'B', accessFlags := 0x411 }
/-- [B -/
def k6 : Class := { plain "[B" (some 0) with kind := .array 5 .byte, interfaces := #[3, 4], accessFlags := 1041 }

/-- the primitive int -/
def k7 : Class := { plain "int" none with kind := .primitive 'I', accessFlags := 0x411 }
/-- [I -/
def k8 : Class := { plain "[I" (some 0) with kind := .array 7 .int, interfaces := #[3, 4], accessFlags := 1041 }

def heap : Heap := #[]
def classes : Array Class := #[k0, k1, k2, k3, k4, k5, k6, k7, k8]
def interned : List (Array UInt16 × Addr) := []
def slotsUsed : Nat := 0
def theMethod : MethodId := ⟨1, 1⟩
def args0 : Array Value := #[.long 5, .int 5]
def aboutOver (below : List Frame) : State where
  vm := { classes := classes, interned := interned.toArray }
  heap := heap
  slotsUsed := slotsUsed
  threads := #[{ frames := .invoking theMethod args0 :: below }]
def below0 : List Frame := [.native { method := ⟨0, 0⟩, args := #[] }]
def about1 : State := aboutOver below0
def p0 : Program := .bare "" "" ""
def e0 : Env := launch0.env 0 0 0
theorem w_frames : about1.frames = Frame.invoking theMethod args0 :: below0 := rfl
set_option maxRecDepth 65536 in
theorem w_args : argsFit about1.vm theMethod args0 = true := by decide +kernel
set_option maxRecDepth 65536 in
theorem w_heap : heapFits about1 = true := by decide +kernel
set_option maxRecDepth 65536 in
theorem w_runnable : about1.curStatus? = some .runnable := by decide +kernel
set_option maxRecDepth 65536 in
theorem w_alone : about1.alone = true := by decide +kernel
set_option maxRecDepth 65536 in
theorem w_named : about1.methodNamed? x = some theMethod := by decide +kernel
set_option maxRecDepth 65536 in
theorem w_hears : about1.hears theMethod below0 = true := by decide +kernel
set_option maxRecDepth 65536 in
theorem w_ripe : about1.ripe theMethod args0 below0 = true := by decide +kernel
theorem w_running : about1.status = .running := rfl
set_option maxRecDepth 65536 in
theorem w_room : about1.hasRoom e0.platform room_1 = true :=
  launch0.hasRoom_least _ room_1 (by decide +kernel) (by decide +kernel) (by decide +kernel) (by decide +kernel) (by decide +kernel) (by decide +kernel)
theorem allAtoms_all (ts : List Jvm.Cond) (a : Array Jvm.Value) (st : Jvm.State) : (allAtoms ts).before a st = ts.all (fun c => c.before a st) := by
  induction ts with
  | nil => rfl
  | cons c t ih =>
    show (Jvm.Cond.and c (allAtoms t)).before a st = _
    rw [Jvm.Cond.before_and, ih, List.all_cons]
def words1 : List Jvm.Cond := Jvm.Cond.code x code maxLocals ret :: tables_1
/-- a 'code' word, met by the world's own term for the bytes: nothing is compared byte by byte -/
theorem code_word {y : MethodName} {bytes : ByteArray} {mx : Nat} {rt : Option FieldType} {a : Array Value} {s : State} {m : MethodId} {meth : Method} {c : Code} (h1 : s.methodNamed? y = some m) (h2 : s.vm.method? m = some meth) (h3 : meth.code = some c) (h4 : c.code = bytes)
    (h5 : (c.maxLocals == mx && c.exceptionTable.isEmpty && decide (c.maxStack ≤ mostOperands) && decide (meth.sig.returnType = rt) && !meth.locks && decide (parseMethodDescriptor y.desc = some meth.sig)) = true) : (Jvm.Cond.code y bytes mx rt).before a s = true := by
  simp only [Bool.and_eq_true, beq_iff_eq, Bool.not_eq_true', decide_eq_true_eq] at h5
  obtain ⟨⟨⟨⟨⟨g1, g2⟩, g3⟩, g4⟩, g5⟩, g6⟩ := h5
  simp [Cond.before, Cond.holds, Cond.value, h1, h2, h3, h4, g1, g2, g3, g4, g5, g6]
def isCode : Jvm.Cond → Bool
  | .code _ _ _ _ => true
  | _ => false
theorem all_split {L : List Jvm.Cond} {P : Jvm.Cond → Bool} (h1 : L.all (fun c => isCode c || P c) = true) (h2 : ∀ c ∈ L.filter isCode, P c = true) : L.all P = true := by
  refine List.all_eq_true.mpr fun c hc => ?_
  have h := List.all_eq_true.mp h1 c hc
  rcases Bool.eq_false_or_eq_true (isCode c) with hi | hi
  · exact h2 c (List.mem_filter.mpr ⟨hc, hi⟩)
  · simpa [hi] using h
set_option maxRecDepth 65536 in
theorem w_c0 : (Jvm.Cond.code x code maxLocals ret).before args0 about1 = true := code_word (m := ⟨1, 1⟩) (meth := k1m1) (c := k1c1) (by decide +kernel) rfl rfl rfl (by decide +kernel)
set_option maxRecDepth 65536 in
theorem w_c1 : (Jvm.Cond.code ({ cls := "com/example/defacto/defacto/index/ChunkTerms", name := "hash", desc := "([BI)J" } : Jvm.MethodName) prog_28_method_2_code (5 : Nat) (Option.some Jvm.ClassFile.FieldType.long)).before args0 about1 = true := code_word (m := ⟨2, 0⟩) (meth := k2m0) (c := k2c0) (by decide +kernel) rfl rfl rfl (by decide +kernel)
set_option maxRecDepth 65536 in
theorem w_c2 : (Jvm.Cond.code ({ cls := "com/example/defacto/defacto/index/ChunkTermsHashPinLaw", name := "unmix", desc := "(J)J" } : Jvm.MethodName) method_4_code (4 : Nat) (Option.some Jvm.ClassFile.FieldType.long)).before args0 about1 = true := code_word (m := ⟨1, 3⟩) (meth := k1m3) (c := k1c3) (by decide +kernel) rfl rfl rfl (by decide +kernel)
set_option maxRecDepth 65536 in
theorem w_c3 : (Jvm.Cond.code ({ cls := "com/example/defacto/defacto/index/ChunkTermsHashPinLaw", name := "inverse", desc := "(J)J" } : Jvm.MethodName) method_3_code (4 : Nat) (Option.some Jvm.ClassFile.FieldType.long)).before args0 about1 = true := code_word (m := ⟨1, 2⟩) (meth := k1m2) (c := k1c2) (by decide +kernel) rfl rfl rfl (by decide +kernel)
def codes1 : List Jvm.Cond := [Jvm.Cond.code x code maxLocals ret, Jvm.Cond.code ({ cls := "com/example/defacto/defacto/index/ChunkTerms", name := "hash", desc := "([BI)J" } : Jvm.MethodName) prog_28_method_2_code (5 : Nat) (Option.some Jvm.ClassFile.FieldType.long), Jvm.Cond.code ({ cls := "com/example/defacto/defacto/index/ChunkTermsHashPinLaw", name := "unmix", desc := "(J)J" } : Jvm.MethodName) method_4_code (4 : Nat) (Option.some Jvm.ClassFile.FieldType.long), Jvm.Cond.code ({ cls := "com/example/defacto/defacto/index/ChunkTermsHashPinLaw", name := "inverse", desc := "(J)J" } : Jvm.MethodName) method_3_code (4 : Nat) (Option.some Jvm.ClassFile.FieldType.long)]
set_option maxRecDepth 65536 in
theorem codes_eq : words1.filter isCode = codes1 := rfl
theorem w_codes : ∀ c ∈ words1.filter isCode, c.before args0 about1 = true := by
  rw [codes_eq]
  intro c hc
  simp only [codes1, List.mem_cons, List.not_mem_nil, or_false] at hc
  rcases hc with rfl | rfl | rfl | rfl
  · exact w_c0
  · exact w_c1
  · exact w_c2
  · exact w_c3
set_option maxRecDepth 65536 in
theorem w_t1 : words1.all (fun c => isCode c || c.before args0 about1) = true := by decide +kernel
theorem w_tables : (allAtoms (Jvm.Cond.code x code maxLocals ret :: tables_1)).before args0 about1 = true := by
  rw [allAtoms_all]
  show words1.all (fun c => c.before args0 about1) = true
  refine all_split ?_ w_codes
  rw [w_t1]
set_option maxRecDepth 65536 in
theorem w_case : (Jvm.Cond.and given_1 narrow_1).before args0 about1 = true := by decide +kernel
theorem w_applies : (headSpec (Jvm.Cond.code x code maxLocals ret :: tables_1) room_1).applies x e0.platform about1 = true :=
  (Spec.applies_iff w_frames).mpr ⟨w_running, w_runnable, w_alone, w_named, w_hears, w_ripe, w_room, w_tables⟩
theorem atStart : AtStart classFile x code maxLocals ret World_1 tables_1 room_1 Calls_1 rest_1 Pre_1 launch0 p0 e0 about1 theMethod args0 below0 :=
  ⟨lists_1, trivial, launch0.admits_env _ _ _, launch0.least_env, fairChoices_fair.cas, fairChoices_fair.clock, w_frames, w_args, w_heap, w_applies, trivial, trivial, w_case⟩
end start1
theorem witness_1 : WitnessClaimed_1 := ⟨start1.p0, start1.e0, start1.about1, start1.theMethod, start1.args0, start1.below0, start1.atStart⟩
end Jvm.Pilot.@@N@@
