import JvmDerived
import JvmDerived.Pilot.@@N@@Statement
import JvmDerived.Pilot.@@N@@Code
set_option linter.unusedVariables false
set_option linter.unusedSimpArgs false
namespace Jvm.RoadKit
open Sem ClassFile Op Lib Jvm.Stand Jvm.Free Jvm.LawKit
section New
variable {p : Program} {l : Launch} {e : Env} {R : Room} {s : State} {m : MethodId} {args : Array Value} {below : List Frame} {meth : Method} {c : Code} {T : State} {locs : List Loc} {cells slots : Nat}
theorem retI (X : Stand p l e R s m args below meth c T locs cells slots) (hx : p.tables.exec = Jvm.exec) {pc : Nat} {Ls : Array Slot} {z : Int32} {rest : List Value} (hret : meth.sig.returnType = some .int) (hd : decode c.code pc = .ok (.ireturn, 1)) {fs : List Frame}
    (hl : ∀ (f : JFrame) (acts : List Action), f.method = m → f.locked = none → f.entered = [] → (doReturn e (T.setTop f) acts (some (.int z))).1 = T.setFrames fs) : Steps p.tables e below (T.setTop (mkF m pc Ls (.int z :: rest))) (T.setFrames fs) := by
  have hm' : T.vm.method? m = some meth := X.method'
  have hn : narrow .int (.int z) = .int z := rfl
  show Steps p.tables e below (T.setTop { method := m, pc := pc, locals := Ls, stack := _ :: rest, locked := none }) _
  jvm_step X.here [X.here.top, hx, hd, hm', hret, hn]
  first | (intro acts; rw [hl _ acts rfl rfl rfl]) | rw [hl _ _ rfl rfl rfl]
  exact Steps.refl _
end New
end Jvm.RoadKit
namespace Jvm.Pilot.@@N@@
open Jvm Jvm.ClassFile Sem Op Lib Jvm.Free Jvm.Stand Jvm.LawKit Jvm.RoadKit Bundle Jvm.Pilot.@@N@@.Jvm.D
theorem pd0 : parseMethodDescriptor "(IILjava/util/function/BiFunction;)I" = some ⟨[.int, .int, (.object "java/util/function/BiFunction")], some .int⟩ := by decide +kernel
theorem pd1 : parseMethodDescriptor "(II)V" = some ⟨[.int, .int], none⟩ := by decide +kernel
theorem pd2 : parseMethodDescriptor "()Z" = some ⟨[], some .boolean⟩ := by decide +kernel
theorem pd3 : parseMethodDescriptor "([BI)C" = some ⟨[(.array .byte), .int], some .char⟩ := by decide +kernel
theorem pd4 : parseMethodDescriptor "(I)C" = some ⟨[.int], some .char⟩ := by decide +kernel
theorem pd5 : parseMethodDescriptor "(I)I" = some ⟨[.int], some .int⟩ := by decide +kernel
def ArrL (ty : FieldType) (Z : State) (h : Heap) (a : Addr) (vs : List Int32) : Prop := ∃ c : Cell, Arr Z h a c ty ∧ c.slots.size = vs.length ∧ ∀ i, i < vs.length → c.slots[i]? = some (.int (vs.getD i 0))
section OwnArrL
variable {p : Program} {l : Launch} {e : Env} {R : Room} {s : State} {m : MethodId} {args : Array Value} {below : List Frame} {meth : Method} {c : Code} {T : State} {locs : List Loc} {cells slots : Nat} {Z : State} {h h' : Heap} {a : Addr} {ty : FieldType} {vs : List Int32}
theorem ArrL.lt (V : ArrL ty Z h a vs) : a < h.size := by obtain ⟨c, A, -⟩ := V; exact A.lt
theorem ArrL.ext (V : ArrL ty Z h a vs) (E : Ext h h') : ArrL ty Z h' a vs := by obtain ⟨c, A, r⟩ := V; exact ⟨c, A.ext E, r⟩
theorem ArrL.other {b : Addr} {sl : Nat} {v : Value} (V : ArrL ty Z h a vs) (W : Wr h h' b sl v) (q : a ≠ b) : ArrL ty Z h' a vs := by obtain ⟨c, A, r⟩ := V; exact ⟨c, A.other W q, r⟩
theorem ArrL.keep {ws : List Addr} (V : ArrL ty Z h a vs) (K : Keep h h' ws) (q : a ∉ ws) : ArrL ty Z h' a vs := by obtain ⟨c, A, r⟩ := V; exact ⟨c, ⟨K.2.1 a c A.1 q, A.2⟩, r⟩
theorem ArrL.new {k : ClassId} {z : Int32} {n : Nat} (V : Arv Z h a k ty z [] (.int 0)) (hz : z.toNatClampNeg = n) : ArrL ty Z h a (List.replicate n 0) := by
  obtain ⟨c, A, -, S, -, H, -⟩ := V
  refine ⟨c, A, by rw [S, hz, List.length_replicate], fun i hi => ?_⟩
  rw [List.length_replicate] at hi
  rw [H i (by rw [S, hz]; exact hi)]
  simp [hi]
theorem ArrL.set {cl : Cell} {j : Nat} {v : Int32} (A : Arr Z h a cl ty) (S : cl.slots.size = vs.length) (H : ∀ i, i < vs.length → cl.slots[i]? = some (.int (vs.getD i 0))) (hj : j < vs.length) (W : Wr h h' a j (.int v)) : ArrL ty Z h' a (vs.set j v) := by
  refine ⟨_, A.same W, by rw [sz_set, List.length_set]; exact S, fun k hk => ?_⟩
  rw [List.length_set] at hk
  by_cases u : j = k
  · subst u; simp [Cell.setSlot, S, hk]
  · have q := H k hk
    simp only [Cell.setSlot]
    rw [Array.getElem?_setIfInBounds_ne u, q]
    simp [List.getD_eq_getElem?_getD, List.getElem?_set_ne u]
theorem own_al_in {cl : Cell} {n : Nat} {j : Int32} (S : cl.slots.size = n) (hj : ¬ j < 0) (hj2 : j.toNatClampNeg < n) : ¬ (j < 0 ∨ cl.slots.size ≤ j.toNatClampNeg) := by
  rw [S]; rintro (q | q)
  · exact hj q
  · omega
theorem own_al_stI (X : Stand p l e R s m args below meth c T locs cells slots) (hx : p.tables.exec = Jvm.exec) (hZ : Z.Warmed39 s.vm) (eT : T.heap = h) (V : ArrL .int Z h a vs) {i v : Int32} {g : JFrame} {rest : List Value} (hi : ¬ i < 0) (hi2 : i.toNatClampNeg < vs.length)
    (hg : g.method = m) (hs : g.stack = .int v :: .int i :: .ref a :: rest) (hd : decode c.code g.pc = .ok (.iastore, 1)) :
    ∃ T' h', Stand p l e R s m args below meth c T' (locs ++ [⟨a, i.toNatClampNeg⟩]) cells slots ∧ T'.heap = h' ∧ Wr h h' a i.toNatClampNeg (.int v) ∧ ArrL .int Z h' a (vs.set i.toNatClampNeg v) ∧ ∀ target, Steps p.tables e below (T'.setTop { g with pc := g.pc + 1, stack := rest }) target → Steps p.tables e below (T.setTop g) target := by
  obtain ⟨cl, A, S, H⟩ := V
  obtain ⟨T', h', X', e', W, st⟩ := stI X hx hZ eT A (own_al_in S hi hi2) hg hs hd
  exact ⟨T', h', X', e', W, ArrL.set A S H hi2 W, st⟩
theorem own_al_stB (X : Stand p l e R s m args below meth c T locs cells slots) (hx : p.tables.exec = Jvm.exec) (hZ : Z.Warmed39 s.vm) (eT : T.heap = h) (V : ArrL .byte Z h a vs) {i v : Int32} {g : JFrame} {rest : List Value} (hi : ¬ i < 0) (hi2 : i.toNatClampNeg < vs.length)
    (hg : g.method = m) (hs : g.stack = .int v :: .int i :: .ref a :: rest) (hd : decode c.code g.pc = .ok (.bastore, 1)) :
    ∃ T' h', Stand p l e R s m args below meth c T' (locs ++ [⟨a, i.toNatClampNeg⟩]) cells slots ∧ T'.heap = h' ∧ Wr h h' a i.toNatClampNeg (.int (nar .byte v)) ∧ ArrL .byte Z h' a (vs.set i.toNatClampNeg (nar .byte v)) ∧ ∀ target, Steps p.tables e below (T'.setTop { g with pc := g.pc + 1, stack := rest }) target → Steps p.tables e below (T.setTop g) target := by
  obtain ⟨cl, A, S, H⟩ := V
  obtain ⟨T', h', X', e', W, st⟩ := stB X hx hZ eT A (own_al_in S hi hi2) hg hs hd
  exact ⟨T', h', X', e', W, ArrL.set A S H hi2 W, st⟩
theorem own_al_ldI (X : Stand p l e R s m args below meth c T locs cells slots) (hx : p.tables.exec = Jvm.exec) (hZ : Z.Warmed39 s.vm) (eT : T.heap = h) (V : ArrL .int Z h a vs) {j : Int32} {g : JFrame} {rest : List Value} (hj : ¬ j < 0 ∧ j.toNatClampNeg < vs.length)
    (hg : g.method = m) (hs : g.stack = .int j :: .ref a :: rest) (hd : decode c.code g.pc = .ok (.iaload, 1)) (target : State) (k : Steps p.tables e below (T.setTop { g with pc := g.pc + 1, stack := .int (vs.getD j.toNatClampNeg 0) :: rest }) target) : Steps p.tables e below (T.setTop g) target := by
  obtain ⟨cl, A, S, H⟩ := V
  exact X.iaload hx (by rw [eT]; exact A.1) (State.isArrayOf_alike hZ.alike A.2.1) A.2.2 (own_al_in S hj.1 hj.2) (H _ hj.2) hg hs hd target k
theorem own_al_ldB (X : Stand p l e R s m args below meth c T locs cells slots) (hx : p.tables.exec = Jvm.exec) (hZ : Z.Warmed39 s.vm) (eT : T.heap = h) (V : ArrL .byte Z h a vs) {j : Int32} {g : JFrame} {rest : List Value} (hj : ¬ j < 0 ∧ j.toNatClampNeg < vs.length)
    (hg : g.method = m) (hs : g.stack = .int j :: .ref a :: rest) (hd : decode c.code g.pc = .ok (.baload, 1)) (target : State) (k : Steps p.tables e below (T.setTop { g with pc := g.pc + 1, stack := .int (vs.getD j.toNatClampNeg 0) :: rest }) target) : Steps p.tables e below (T.setTop g) target := by
  obtain ⟨cl, A, S, H⟩ := V
  exact X.baloadBytes hx (by rw [eT]; exact A.1) (State.isArrayOf_alike hZ.alike A.2.1) A.2.2 (own_al_in S hj.1 hj.2) (H _ hj.2) hg hs hd target k
theorem own_al_len (X : Stand p l e R s m args below meth c T locs cells slots) (hx : p.tables.exec = Jvm.exec) (hZ : Z.Warmed39 s.vm) (eT : T.heap = h) (V : ArrL ty Z h a vs) {g : JFrame} {rest : List Value} {z : Int32} (hz : vs.length.toInt32 = z)
    (hg : g.method = m) (hs : g.stack = .ref a :: rest) (hd : decode c.code g.pc = .ok (.arraylength, 1)) (target : State) (k : Steps p.tables e below (T.setTop { g with pc := g.pc + 1, stack := .int z :: rest }) target) : Steps p.tables e below (T.setTop g) target := by
  obtain ⟨cl, A, S, H⟩ := V
  refine X.arraylength hx (by rw [eT]; exact A.1) (State.isArrayOf_alike hZ.alike A.2.1) hg hs hd _ ?_
  rw [S, hz]; exact k
end OwnArrL
theorem own_strw : ∀ d ∈ Bundle.stringAtoms, d ∈ tables_1 := by
  intro d hd
  simp only [Bundle.stringAtoms, List.mem_cons, List.not_mem_nil, or_false] at hd
  rcases hd with rfl | rfl | rfl | rfl | rfl | rfl | rfl
  · first | exact List.mem_of_getElem? (i := 1) rfl | exact List.mem_of_getElem? (i := 2) rfl | exact List.mem_of_getElem? (i := 3) rfl | exact List.mem_of_getElem? (i := 4) rfl | exact List.mem_of_getElem? (i := 5) rfl | exact List.mem_of_getElem? (i := 6) rfl | exact List.mem_of_getElem? (i := 7) rfl
  · first | exact List.mem_of_getElem? (i := 1) rfl | exact List.mem_of_getElem? (i := 2) rfl | exact List.mem_of_getElem? (i := 3) rfl | exact List.mem_of_getElem? (i := 4) rfl | exact List.mem_of_getElem? (i := 5) rfl | exact List.mem_of_getElem? (i := 6) rfl | exact List.mem_of_getElem? (i := 7) rfl
  · first | exact List.mem_of_getElem? (i := 1) rfl | exact List.mem_of_getElem? (i := 2) rfl | exact List.mem_of_getElem? (i := 3) rfl | exact List.mem_of_getElem? (i := 4) rfl | exact List.mem_of_getElem? (i := 5) rfl | exact List.mem_of_getElem? (i := 6) rfl | exact List.mem_of_getElem? (i := 7) rfl
  · first | exact List.mem_of_getElem? (i := 1) rfl | exact List.mem_of_getElem? (i := 2) rfl | exact List.mem_of_getElem? (i := 3) rfl | exact List.mem_of_getElem? (i := 4) rfl | exact List.mem_of_getElem? (i := 5) rfl | exact List.mem_of_getElem? (i := 6) rfl | exact List.mem_of_getElem? (i := 7) rfl
  · first | exact List.mem_of_getElem? (i := 1) rfl | exact List.mem_of_getElem? (i := 2) rfl | exact List.mem_of_getElem? (i := 3) rfl | exact List.mem_of_getElem? (i := 4) rfl | exact List.mem_of_getElem? (i := 5) rfl | exact List.mem_of_getElem? (i := 6) rfl | exact List.mem_of_getElem? (i := 7) rfl
  · first | exact List.mem_of_getElem? (i := 1) rfl | exact List.mem_of_getElem? (i := 2) rfl | exact List.mem_of_getElem? (i := 3) rfl | exact List.mem_of_getElem? (i := 4) rfl | exact List.mem_of_getElem? (i := 5) rfl | exact List.mem_of_getElem? (i := 6) rfl | exact List.mem_of_getElem? (i := 7) rfl
  · first | exact List.mem_of_getElem? (i := 1) rfl | exact List.mem_of_getElem? (i := 2) rfl | exact List.mem_of_getElem? (i := 3) rfl | exact List.mem_of_getElem? (i := 4) rfl | exact List.mem_of_getElem? (i := 5) rfl | exact List.mem_of_getElem? (i := 6) rfl | exact List.mem_of_getElem? (i := 7) rfl
theorem ArrL.ofArv {Z : State} {h : Heap} {a : Addr} {k : ClassId} {ty : FieldType} {z : Int32} {us : List Int32} (V : Arv Z h a k ty z (us.map Value.int) (.int 0)) (hz : z.toNatClampNeg = us.length) : ArrL ty Z h a us := by
  obtain ⟨c, A, -, S, -, H, -⟩ := V
  refine ⟨c, A, by rw [S, hz], fun i hi => ?_⟩
  rw [H i (by rw [S, hz]; exact hi)]
  simp [List.getD_eq_getElem?_getD, hi]
theorem d6_0 : decode prog_54_method_53_code 0 = .ok (.iload_n 0, 1) := by decide +kernel
theorem d6_1 : decode prog_54_method_53_code 1 = .ok (.bipush 48, 2) := by decide +kernel
theorem d6_3 : decode prog_54_method_53_code 3 = .ok (.if_icmp .lt 14, 3) := by decide +kernel
theorem d6_6 : decode prog_54_method_53_code 6 = .ok (.iload_n 0, 1) := by decide +kernel
theorem d6_7 : decode prog_54_method_53_code 7 = .ok (.bipush 57, 2) := by decide +kernel
theorem d6_9 : decode prog_54_method_53_code 9 = .ok (.if_icmp .gt 8, 3) := by decide +kernel
theorem d6_12 : decode prog_54_method_53_code 12 = .ok (.iload_n 0, 1) := by decide +kernel
theorem d6_13 : decode prog_54_method_53_code 13 = .ok (.bipush 48, 2) := by decide +kernel
theorem d6_15 : decode prog_54_method_53_code 15 = .ok (.isub, 1) := by decide +kernel
theorem d6_16 : decode prog_54_method_53_code 16 = .ok (.ireturn, 1) := by decide +kernel
theorem d6_17 : decode prog_54_method_53_code 17 = .ok (.iload_n 0, 1) := by decide +kernel
theorem d6_18 : decode prog_54_method_53_code 18 = .ok (.bipush 97, 2) := by decide +kernel
theorem d6_20 : decode prog_54_method_53_code 20 = .ok (.if_icmp .lt 17, 3) := by decide +kernel
theorem d6_23 : decode prog_54_method_53_code 23 = .ok (.iload_n 0, 1) := by decide +kernel
theorem d6_24 : decode prog_54_method_53_code 24 = .ok (.bipush 102, 2) := by decide +kernel
theorem d6_26 : decode prog_54_method_53_code 26 = .ok (.if_icmp .gt 11, 3) := by decide +kernel
theorem d6_29 : decode prog_54_method_53_code 29 = .ok (.iload_n 0, 1) := by decide +kernel
theorem d6_30 : decode prog_54_method_53_code 30 = .ok (.bipush 97, 2) := by decide +kernel
theorem d6_32 : decode prog_54_method_53_code 32 = .ok (.isub, 1) := by decide +kernel
theorem d6_33 : decode prog_54_method_53_code 33 = .ok (.bipush 10, 2) := by decide +kernel
theorem d6_35 : decode prog_54_method_53_code 35 = .ok (.iadd, 1) := by decide +kernel
theorem d6_36 : decode prog_54_method_53_code 36 = .ok (.ireturn, 1) := by decide +kernel
theorem d6_37 : decode prog_54_method_53_code 37 = .ok (.iload_n 0, 1) := by decide +kernel
theorem d6_38 : decode prog_54_method_53_code 38 = .ok (.bipush 65, 2) := by decide +kernel
theorem d6_40 : decode prog_54_method_53_code 40 = .ok (.if_icmp .lt 17, 3) := by decide +kernel
theorem d6_43 : decode prog_54_method_53_code 43 = .ok (.iload_n 0, 1) := by decide +kernel
theorem d6_44 : decode prog_54_method_53_code 44 = .ok (.bipush 70, 2) := by decide +kernel
theorem d6_46 : decode prog_54_method_53_code 46 = .ok (.if_icmp .gt 11, 3) := by decide +kernel
theorem d6_49 : decode prog_54_method_53_code 49 = .ok (.iload_n 0, 1) := by decide +kernel
theorem d6_50 : decode prog_54_method_53_code 50 = .ok (.bipush 65, 2) := by decide +kernel
theorem d6_52 : decode prog_54_method_53_code 52 = .ok (.isub, 1) := by decide +kernel
theorem d6_53 : decode prog_54_method_53_code 53 = .ok (.bipush 10, 2) := by decide +kernel
theorem d6_55 : decode prog_54_method_53_code 55 = .ok (.iadd, 1) := by decide +kernel
theorem d6_56 : decode prog_54_method_53_code 56 = .ok (.ireturn, 1) := by decide +kernel
theorem d6_57 : decode prog_54_method_53_code 57 = .ok (.iconst (-1), 1) := by decide +kernel
theorem d6_58 : decode prog_54_method_53_code 58 = .ok (.ireturn, 1) := by decide +kernel
def F6_57 : Int32 := (-1 : Int32)
theorem b6_57 {p : Program} {l : Launch} {e : Env} {R : Room} {s : State} {m : MethodId} {args : Array Value} {below : List Frame} {meth : Method} {c : Code} {T : State} {locs : List Loc} {cells slots : Nat} {Z : State} {a0 : Array Value} (X : Stand p l e R s m args below meth c T locs cells slots) (hx : p.tables.exec = Jvm.exec) (hZ : Z.Warmed39 s.vm) (hw : ∀ d ∈ tables_1, d.before a0 Z = true) (hby : c.code = prog_54_method_53_code) (hown : s.vm.findClass "com/example/triplewright/triplewright/rdf/TextScanner" = some m.cls) (v0 : Int32) (hret : meth.sig.returnType = some .int) {fs : List Frame} (hr : ∀ (f : JFrame) (acts : List Action), f.method = m → f.locked = none → f.entered = [] → (doReturn e (T.setTop f) acts (some (.int F6_57))).1 = T.setFrames fs) : Steps p.tables e below (T.setTop (mkF m 57 #[.val (.int v0)] [])) (T.setFrames fs) := by
  show Steps p.tables e below (T.setTop (mkF m 57 #[.val (.int v0)] [])) _
  refine XS.iconst X.here hx rfl (hb hby d6_57) ?_
  show Steps p.tables e below (T.setTop (mkF m 58 #[.val (.int v0)] [(.int (-1 : Int32))])) _
  rw [show F6_57 = (-1 : Int32) from rfl] at hr
  exact retI X hx hret (hb hby d6_58) hr
def F6_49 (v0 : Int32) : Int32 := ((v0 - (65 : Int32)) + (10 : Int32))
theorem b6_49 {p : Program} {l : Launch} {e : Env} {R : Room} {s : State} {m : MethodId} {args : Array Value} {below : List Frame} {meth : Method} {c : Code} {T : State} {locs : List Loc} {cells slots : Nat} {Z : State} {a0 : Array Value} (X : Stand p l e R s m args below meth c T locs cells slots) (hx : p.tables.exec = Jvm.exec) (hZ : Z.Warmed39 s.vm) (hw : ∀ d ∈ tables_1, d.before a0 Z = true) (hby : c.code = prog_54_method_53_code) (hown : s.vm.findClass "com/example/triplewright/triplewright/rdf/TextScanner" = some m.cls) (v0 : Int32) (hret : meth.sig.returnType = some .int) {fs : List Frame} (hr : ∀ (f : JFrame) (acts : List Action), f.method = m → f.locked = none → f.entered = [] → (doReturn e (T.setTop f) acts (some (.int (F6_49 v0)))).1 = T.setFrames fs) : Steps p.tables e below (T.setTop (mkF m 49 #[.val (.int v0)] [])) (T.setFrames fs) := by
  show Steps p.tables e below (T.setTop (mkF m 49 #[.val (.int v0)] [])) _
  refine XS.iloadN X.here hx rfl (hb hby d6_49) rfl ?_
  show Steps p.tables e below (T.setTop (mkF m 50 #[.val (.int v0)] [(.int v0)])) _
  refine XS.bipush X.here hx rfl (hb hby d6_50) ?_
  show Steps p.tables e below (T.setTop (mkF m 52 #[.val (.int v0)] [(.int (65 : Int32)), (.int v0)])) _
  refine XS.isub X.here hx rfl (hb hby d6_52) rfl ?_
  show Steps p.tables e below (T.setTop (mkF m 53 #[.val (.int v0)] [(.int (v0 - (65 : Int32)))])) _
  refine XS.bipush X.here hx rfl (hb hby d6_53) ?_
  show Steps p.tables e below (T.setTop (mkF m 55 #[.val (.int v0)] [(.int (10 : Int32)), (.int (v0 - (65 : Int32)))])) _
  refine XS.iadd X.here hx rfl (hb hby d6_55) rfl ?_
  show Steps p.tables e below (T.setTop (mkF m 56 #[.val (.int v0)] [(.int ((v0 - (65 : Int32)) + (10 : Int32)))])) _
  rw [show (F6_49 v0) = ((v0 - (65 : Int32)) + (10 : Int32)) from rfl] at hr
  exact retI X hx hret (hb hby d6_56) hr
def F6_43 (v0 : Int32) : Int32 := if (70 : Int32) < v0 then F6_57 else (F6_49 v0)
theorem b6_43 {p : Program} {l : Launch} {e : Env} {R : Room} {s : State} {m : MethodId} {args : Array Value} {below : List Frame} {meth : Method} {c : Code} {T : State} {locs : List Loc} {cells slots : Nat} {Z : State} {a0 : Array Value} (X : Stand p l e R s m args below meth c T locs cells slots) (hx : p.tables.exec = Jvm.exec) (hZ : Z.Warmed39 s.vm) (hw : ∀ d ∈ tables_1, d.before a0 Z = true) (hby : c.code = prog_54_method_53_code) (hown : s.vm.findClass "com/example/triplewright/triplewright/rdf/TextScanner" = some m.cls) (v0 : Int32) (hret : meth.sig.returnType = some .int) {fs : List Frame} (hr : ∀ (f : JFrame) (acts : List Action), f.method = m → f.locked = none → f.entered = [] → (doReturn e (T.setTop f) acts (some (.int (F6_43 v0)))).1 = T.setFrames fs) : Steps p.tables e below (T.setTop (mkF m 43 #[.val (.int v0)] [])) (T.setFrames fs) := by
  show Steps p.tables e below (T.setTop (mkF m 43 #[.val (.int v0)] [])) _
  refine XS.iloadN X.here hx rfl (hb hby d6_43) rfl ?_
  show Steps p.tables e below (T.setTop (mkF m 44 #[.val (.int v0)] [(.int v0)])) _
  refine XS.bipush X.here hx rfl (hb hby d6_44) ?_
  show Steps p.tables e below (T.setTop (mkF m 46 #[.val (.int v0)] [(.int (70 : Int32)), (.int v0)])) _
  by_cases hc : (70 : Int32) < v0
  · rw [show (F6_43 v0) = F6_57 from if_pos hc] at hr
    refine XS.icmpYes X.here hx rfl (pc0 := 46) (pc' := 57) rfl (hb hby d6_46) rfl (tlt hc).2.2.1 (by decide) (by decide) ?_
    exact b6_57 X hx hZ hw hby hown v0 hret hr
  · rw [show (F6_43 v0) = (F6_49 v0) from if_neg hc] at hr
    refine XS.icmpNo X.here hx rfl (hb hby d6_46) rfl (flt hc).2.2.1 ?_
    exact b6_49 X hx hZ hw hby hown v0 hret hr
def F6_37 (v0 : Int32) : Int32 := if v0 < (65 : Int32) then F6_57 else (F6_43 v0)
theorem b6_37 {p : Program} {l : Launch} {e : Env} {R : Room} {s : State} {m : MethodId} {args : Array Value} {below : List Frame} {meth : Method} {c : Code} {T : State} {locs : List Loc} {cells slots : Nat} {Z : State} {a0 : Array Value} (X : Stand p l e R s m args below meth c T locs cells slots) (hx : p.tables.exec = Jvm.exec) (hZ : Z.Warmed39 s.vm) (hw : ∀ d ∈ tables_1, d.before a0 Z = true) (hby : c.code = prog_54_method_53_code) (hown : s.vm.findClass "com/example/triplewright/triplewright/rdf/TextScanner" = some m.cls) (v0 : Int32) (hret : meth.sig.returnType = some .int) {fs : List Frame} (hr : ∀ (f : JFrame) (acts : List Action), f.method = m → f.locked = none → f.entered = [] → (doReturn e (T.setTop f) acts (some (.int (F6_37 v0)))).1 = T.setFrames fs) : Steps p.tables e below (T.setTop (mkF m 37 #[.val (.int v0)] [])) (T.setFrames fs) := by
  show Steps p.tables e below (T.setTop (mkF m 37 #[.val (.int v0)] [])) _
  refine XS.iloadN X.here hx rfl (hb hby d6_37) rfl ?_
  show Steps p.tables e below (T.setTop (mkF m 38 #[.val (.int v0)] [(.int v0)])) _
  refine XS.bipush X.here hx rfl (hb hby d6_38) ?_
  show Steps p.tables e below (T.setTop (mkF m 40 #[.val (.int v0)] [(.int (65 : Int32)), (.int v0)])) _
  by_cases hc : v0 < (65 : Int32)
  · rw [show (F6_37 v0) = F6_57 from if_pos hc] at hr
    refine XS.icmpYes X.here hx rfl (pc0 := 40) (pc' := 57) rfl (hb hby d6_40) rfl (tlt hc).1 (by decide) (by decide) ?_
    exact b6_57 X hx hZ hw hby hown v0 hret hr
  · rw [show (F6_37 v0) = (F6_43 v0) from if_neg hc] at hr
    refine XS.icmpNo X.here hx rfl (hb hby d6_40) rfl (flt hc).1 ?_
    exact b6_43 X hx hZ hw hby hown v0 hret hr
def F6_29 (v0 : Int32) : Int32 := ((v0 - (97 : Int32)) + (10 : Int32))
theorem b6_29 {p : Program} {l : Launch} {e : Env} {R : Room} {s : State} {m : MethodId} {args : Array Value} {below : List Frame} {meth : Method} {c : Code} {T : State} {locs : List Loc} {cells slots : Nat} {Z : State} {a0 : Array Value} (X : Stand p l e R s m args below meth c T locs cells slots) (hx : p.tables.exec = Jvm.exec) (hZ : Z.Warmed39 s.vm) (hw : ∀ d ∈ tables_1, d.before a0 Z = true) (hby : c.code = prog_54_method_53_code) (hown : s.vm.findClass "com/example/triplewright/triplewright/rdf/TextScanner" = some m.cls) (v0 : Int32) (hret : meth.sig.returnType = some .int) {fs : List Frame} (hr : ∀ (f : JFrame) (acts : List Action), f.method = m → f.locked = none → f.entered = [] → (doReturn e (T.setTop f) acts (some (.int (F6_29 v0)))).1 = T.setFrames fs) : Steps p.tables e below (T.setTop (mkF m 29 #[.val (.int v0)] [])) (T.setFrames fs) := by
  show Steps p.tables e below (T.setTop (mkF m 29 #[.val (.int v0)] [])) _
  refine XS.iloadN X.here hx rfl (hb hby d6_29) rfl ?_
  show Steps p.tables e below (T.setTop (mkF m 30 #[.val (.int v0)] [(.int v0)])) _
  refine XS.bipush X.here hx rfl (hb hby d6_30) ?_
  show Steps p.tables e below (T.setTop (mkF m 32 #[.val (.int v0)] [(.int (97 : Int32)), (.int v0)])) _
  refine XS.isub X.here hx rfl (hb hby d6_32) rfl ?_
  show Steps p.tables e below (T.setTop (mkF m 33 #[.val (.int v0)] [(.int (v0 - (97 : Int32)))])) _
  refine XS.bipush X.here hx rfl (hb hby d6_33) ?_
  show Steps p.tables e below (T.setTop (mkF m 35 #[.val (.int v0)] [(.int (10 : Int32)), (.int (v0 - (97 : Int32)))])) _
  refine XS.iadd X.here hx rfl (hb hby d6_35) rfl ?_
  show Steps p.tables e below (T.setTop (mkF m 36 #[.val (.int v0)] [(.int ((v0 - (97 : Int32)) + (10 : Int32)))])) _
  rw [show (F6_29 v0) = ((v0 - (97 : Int32)) + (10 : Int32)) from rfl] at hr
  exact retI X hx hret (hb hby d6_36) hr
def F6_23 (v0 : Int32) : Int32 := if (102 : Int32) < v0 then (F6_37 v0) else (F6_29 v0)
theorem b6_23 {p : Program} {l : Launch} {e : Env} {R : Room} {s : State} {m : MethodId} {args : Array Value} {below : List Frame} {meth : Method} {c : Code} {T : State} {locs : List Loc} {cells slots : Nat} {Z : State} {a0 : Array Value} (X : Stand p l e R s m args below meth c T locs cells slots) (hx : p.tables.exec = Jvm.exec) (hZ : Z.Warmed39 s.vm) (hw : ∀ d ∈ tables_1, d.before a0 Z = true) (hby : c.code = prog_54_method_53_code) (hown : s.vm.findClass "com/example/triplewright/triplewright/rdf/TextScanner" = some m.cls) (v0 : Int32) (hret : meth.sig.returnType = some .int) {fs : List Frame} (hr : ∀ (f : JFrame) (acts : List Action), f.method = m → f.locked = none → f.entered = [] → (doReturn e (T.setTop f) acts (some (.int (F6_23 v0)))).1 = T.setFrames fs) : Steps p.tables e below (T.setTop (mkF m 23 #[.val (.int v0)] [])) (T.setFrames fs) := by
  show Steps p.tables e below (T.setTop (mkF m 23 #[.val (.int v0)] [])) _
  refine XS.iloadN X.here hx rfl (hb hby d6_23) rfl ?_
  show Steps p.tables e below (T.setTop (mkF m 24 #[.val (.int v0)] [(.int v0)])) _
  refine XS.bipush X.here hx rfl (hb hby d6_24) ?_
  show Steps p.tables e below (T.setTop (mkF m 26 #[.val (.int v0)] [(.int (102 : Int32)), (.int v0)])) _
  by_cases hc : (102 : Int32) < v0
  · rw [show (F6_23 v0) = (F6_37 v0) from if_pos hc] at hr
    refine XS.icmpYes X.here hx rfl (pc0 := 26) (pc' := 37) rfl (hb hby d6_26) rfl (tlt hc).2.2.1 (by decide) (by decide) ?_
    exact b6_37 X hx hZ hw hby hown v0 hret hr
  · rw [show (F6_23 v0) = (F6_29 v0) from if_neg hc] at hr
    refine XS.icmpNo X.here hx rfl (hb hby d6_26) rfl (flt hc).2.2.1 ?_
    exact b6_29 X hx hZ hw hby hown v0 hret hr
def F6_17 (v0 : Int32) : Int32 := if v0 < (97 : Int32) then (F6_37 v0) else (F6_23 v0)
theorem b6_17 {p : Program} {l : Launch} {e : Env} {R : Room} {s : State} {m : MethodId} {args : Array Value} {below : List Frame} {meth : Method} {c : Code} {T : State} {locs : List Loc} {cells slots : Nat} {Z : State} {a0 : Array Value} (X : Stand p l e R s m args below meth c T locs cells slots) (hx : p.tables.exec = Jvm.exec) (hZ : Z.Warmed39 s.vm) (hw : ∀ d ∈ tables_1, d.before a0 Z = true) (hby : c.code = prog_54_method_53_code) (hown : s.vm.findClass "com/example/triplewright/triplewright/rdf/TextScanner" = some m.cls) (v0 : Int32) (hret : meth.sig.returnType = some .int) {fs : List Frame} (hr : ∀ (f : JFrame) (acts : List Action), f.method = m → f.locked = none → f.entered = [] → (doReturn e (T.setTop f) acts (some (.int (F6_17 v0)))).1 = T.setFrames fs) : Steps p.tables e below (T.setTop (mkF m 17 #[.val (.int v0)] [])) (T.setFrames fs) := by
  show Steps p.tables e below (T.setTop (mkF m 17 #[.val (.int v0)] [])) _
  refine XS.iloadN X.here hx rfl (hb hby d6_17) rfl ?_
  show Steps p.tables e below (T.setTop (mkF m 18 #[.val (.int v0)] [(.int v0)])) _
  refine XS.bipush X.here hx rfl (hb hby d6_18) ?_
  show Steps p.tables e below (T.setTop (mkF m 20 #[.val (.int v0)] [(.int (97 : Int32)), (.int v0)])) _
  by_cases hc : v0 < (97 : Int32)
  · rw [show (F6_17 v0) = (F6_37 v0) from if_pos hc] at hr
    refine XS.icmpYes X.here hx rfl (pc0 := 20) (pc' := 37) rfl (hb hby d6_20) rfl (tlt hc).1 (by decide) (by decide) ?_
    exact b6_37 X hx hZ hw hby hown v0 hret hr
  · rw [show (F6_17 v0) = (F6_23 v0) from if_neg hc] at hr
    refine XS.icmpNo X.here hx rfl (hb hby d6_20) rfl (flt hc).1 ?_
    exact b6_23 X hx hZ hw hby hown v0 hret hr
def F6_12 (v0 : Int32) : Int32 := (v0 - (48 : Int32))
theorem b6_12 {p : Program} {l : Launch} {e : Env} {R : Room} {s : State} {m : MethodId} {args : Array Value} {below : List Frame} {meth : Method} {c : Code} {T : State} {locs : List Loc} {cells slots : Nat} {Z : State} {a0 : Array Value} (X : Stand p l e R s m args below meth c T locs cells slots) (hx : p.tables.exec = Jvm.exec) (hZ : Z.Warmed39 s.vm) (hw : ∀ d ∈ tables_1, d.before a0 Z = true) (hby : c.code = prog_54_method_53_code) (hown : s.vm.findClass "com/example/triplewright/triplewright/rdf/TextScanner" = some m.cls) (v0 : Int32) (hret : meth.sig.returnType = some .int) {fs : List Frame} (hr : ∀ (f : JFrame) (acts : List Action), f.method = m → f.locked = none → f.entered = [] → (doReturn e (T.setTop f) acts (some (.int (F6_12 v0)))).1 = T.setFrames fs) : Steps p.tables e below (T.setTop (mkF m 12 #[.val (.int v0)] [])) (T.setFrames fs) := by
  show Steps p.tables e below (T.setTop (mkF m 12 #[.val (.int v0)] [])) _
  refine XS.iloadN X.here hx rfl (hb hby d6_12) rfl ?_
  show Steps p.tables e below (T.setTop (mkF m 13 #[.val (.int v0)] [(.int v0)])) _
  refine XS.bipush X.here hx rfl (hb hby d6_13) ?_
  show Steps p.tables e below (T.setTop (mkF m 15 #[.val (.int v0)] [(.int (48 : Int32)), (.int v0)])) _
  refine XS.isub X.here hx rfl (hb hby d6_15) rfl ?_
  show Steps p.tables e below (T.setTop (mkF m 16 #[.val (.int v0)] [(.int (v0 - (48 : Int32)))])) _
  rw [show (F6_12 v0) = (v0 - (48 : Int32)) from rfl] at hr
  exact retI X hx hret (hb hby d6_16) hr
def F6_6 (v0 : Int32) : Int32 := if (57 : Int32) < v0 then (F6_17 v0) else (F6_12 v0)
theorem b6_6 {p : Program} {l : Launch} {e : Env} {R : Room} {s : State} {m : MethodId} {args : Array Value} {below : List Frame} {meth : Method} {c : Code} {T : State} {locs : List Loc} {cells slots : Nat} {Z : State} {a0 : Array Value} (X : Stand p l e R s m args below meth c T locs cells slots) (hx : p.tables.exec = Jvm.exec) (hZ : Z.Warmed39 s.vm) (hw : ∀ d ∈ tables_1, d.before a0 Z = true) (hby : c.code = prog_54_method_53_code) (hown : s.vm.findClass "com/example/triplewright/triplewright/rdf/TextScanner" = some m.cls) (v0 : Int32) (hret : meth.sig.returnType = some .int) {fs : List Frame} (hr : ∀ (f : JFrame) (acts : List Action), f.method = m → f.locked = none → f.entered = [] → (doReturn e (T.setTop f) acts (some (.int (F6_6 v0)))).1 = T.setFrames fs) : Steps p.tables e below (T.setTop (mkF m 6 #[.val (.int v0)] [])) (T.setFrames fs) := by
  show Steps p.tables e below (T.setTop (mkF m 6 #[.val (.int v0)] [])) _
  refine XS.iloadN X.here hx rfl (hb hby d6_6) rfl ?_
  show Steps p.tables e below (T.setTop (mkF m 7 #[.val (.int v0)] [(.int v0)])) _
  refine XS.bipush X.here hx rfl (hb hby d6_7) ?_
  show Steps p.tables e below (T.setTop (mkF m 9 #[.val (.int v0)] [(.int (57 : Int32)), (.int v0)])) _
  by_cases hc : (57 : Int32) < v0
  · rw [show (F6_6 v0) = (F6_17 v0) from if_pos hc] at hr
    refine XS.icmpYes X.here hx rfl (pc0 := 9) (pc' := 17) rfl (hb hby d6_9) rfl (tlt hc).2.2.1 (by decide) (by decide) ?_
    exact b6_17 X hx hZ hw hby hown v0 hret hr
  · rw [show (F6_6 v0) = (F6_12 v0) from if_neg hc] at hr
    refine XS.icmpNo X.here hx rfl (hb hby d6_9) rfl (flt hc).2.2.1 ?_
    exact b6_12 X hx hZ hw hby hown v0 hret hr
def F6_0 (v0 : Int32) : Int32 := if v0 < (48 : Int32) then (F6_17 v0) else (F6_6 v0)
theorem b6_0 {p : Program} {l : Launch} {e : Env} {R : Room} {s : State} {m : MethodId} {args : Array Value} {below : List Frame} {meth : Method} {c : Code} {T : State} {locs : List Loc} {cells slots : Nat} {Z : State} {a0 : Array Value} (X : Stand p l e R s m args below meth c T locs cells slots) (hx : p.tables.exec = Jvm.exec) (hZ : Z.Warmed39 s.vm) (hw : ∀ d ∈ tables_1, d.before a0 Z = true) (hby : c.code = prog_54_method_53_code) (hown : s.vm.findClass "com/example/triplewright/triplewright/rdf/TextScanner" = some m.cls) (v0 : Int32) (hret : meth.sig.returnType = some .int) {fs : List Frame} (hr : ∀ (f : JFrame) (acts : List Action), f.method = m → f.locked = none → f.entered = [] → (doReturn e (T.setTop f) acts (some (.int (F6_0 v0)))).1 = T.setFrames fs) : Steps p.tables e below (T.setTop (mkF m 0 #[.val (.int v0)] [])) (T.setFrames fs) := by
  show Steps p.tables e below (T.setTop (mkF m 0 #[.val (.int v0)] [])) _
  refine XS.iloadN X.here hx rfl (hb hby d6_0) rfl ?_
  show Steps p.tables e below (T.setTop (mkF m 1 #[.val (.int v0)] [(.int v0)])) _
  refine XS.bipush X.here hx rfl (hb hby d6_1) ?_
  show Steps p.tables e below (T.setTop (mkF m 3 #[.val (.int v0)] [(.int (48 : Int32)), (.int v0)])) _
  by_cases hc : v0 < (48 : Int32)
  · rw [show (F6_0 v0) = (F6_17 v0) from if_pos hc] at hr
    refine XS.icmpYes X.here hx rfl (pc0 := 3) (pc' := 17) rfl (hb hby d6_3) rfl (tlt hc).1 (by decide) (by decide) ?_
    exact b6_17 X hx hZ hw hby hown v0 hret hr
  · rw [show (F6_0 v0) = (F6_6 v0) from if_neg hc] at hr
    refine XS.icmpNo X.here hx rfl (hb hby d6_3) rfl (flt hc).1 ?_
    exact b6_6 X hx hZ hw hby hown v0 hret hr
theorem pn_6 : plainName "com/example/triplewright/triplewright/rdf/TextScanner" = true := by first | (simp [plainName, overriddenIn]; done) | decide +kernel
theorem ef_6 (m : MethodId) (p0 : Int32) : entryFrame m #[(.int p0)] 1 = mkF m 0 #[.val (.int p0)] [] := by first | (simp [entryFrame, mkF, argsToLocals, Value.category]; done) | rfl
def Q_rm6 (Z : State) (p0 : Int32) (h0 : Heap) (n0 : Nat) (v : Option Value) (h : Heap) (L : List Loc) : Prop := (v = some (.int (F6_0 p0)) ∧ Fr n0 L ∧ h = h0)
set_option maxRecDepth 65536 in
set_option maxHeartbeats 40000000 in
theorem rm6 (l : Launch) (Z : State) (a0 : Array Value) (hw : ∀ d ∈ tables_1, d.before a0 Z = true) (ws : List Jvm.Cond) (p0 : Int32) (h0 : Heap) (n0 : Nat) (Z0 : n0 ≤ h0.size) :
    MetFree l (⟨"com/example/triplewright/triplewright/rdf/TextScanner", "hexValue", "(I)I"⟩ : MethodName) (head1 (Jvm.Cond.code (⟨"com/example/triplewright/triplewright/rdf/TextScanner", "hexValue", "(I)I"⟩ : MethodName) prog_54_method_53_code 1 (some .int) :: ws) ({ frames := 0, cells := 0, slots := 0, locals := 0 } : Room)) (fun a U => a = #[(.int p0)] ∧ Z.Warmed39 U.vm ∧ U.heap = h0) (fun _ _ _ _ _ => True) (fun _ U o U' => ∃ v L, o = .returned v ∧ Q_rm6 Z p0 h0 n0 v U'.heap L ∧ FrameEnd U o U' L ({ frames := 0, cells := 0, slots := 0, locals := 0 } : Room).cells ({ frames := 0, cells := 0, slots := 0, locals := 0 } : Room).slots) := by
  refine MetFree.of_bodySF (plainFor_of_name pn_6) hisR ?_
  intro p e s m args below meth c s₁ Bd hml0 hP hK
  obtain ⟨rfl, hZ, hh⟩ := hP
  have hx := Bd.exec
  have hby := Bd.bytes
  have hml : c.maxLocals = 1 := hml0
  have hown : s.vm.findClass "com/example/triplewright/triplewright/rdf/TextScanner" = some m.cls := findClass_of_methodNamed Bd.named
  have hnm := (name_of_methodNamed Bd.named Bd.method).1
  have X0 : Stand p l e ({ frames := 0, cells := 0, slots := 0, locals := 0 } : Room) s m #[(.int p0)] below meth c s₁ [] 0 0 := Stand.of_body Bd
  have e0 : s₁.heap = h0 := by rw [← hh, Bd.state]; rfl
  have N0 := Fr.nil n0
  have pre0 : ∀ t, Steps p.tables e below (s₁.setTop (mkF m 0 #[.val (.int p0)] [])) t → Steps p.tables e below (s₁.setTop (entryFrame m #[(.int p0)] 1)) t := fun t k => castTop (ef_6 m p0) k
  obtain ⟨fs, hr, hrun, hended, hW, hsame⟩ := X0.leave (v := some (.int (F6_0 p0))) (fun h => by rw [Bd.returns] at h; cases h)
  refine ⟨_, _, pre0 _ ?_, hrun, hended, _, _, rfl, ⟨rfl, N0, e0⟩, ⟨_, rfl⟩, hW, hsame.mono (by decide) (by decide)⟩
  exact b6_0 X0 hx hZ hw hby hown p0 Bd.returns hr
theorem pn_5 : plainName "jdk/internal/util/Preconditions" = true := by first | (simp [plainName, overriddenIn]; done) | decide +kernel
theorem ef_5 (m : MethodId) (p0 : Int32) (p1 : Int32) (v2 : Value) (hv : v2.isRef = true) : entryFrame m #[(.int p0), (.int p1), v2] 3 = mkF m 0 #[.val (.int p0), .val (.int p1), .val v2] [] := by
  cases v2 <;> first | rfl | (simp [Value.isRef] at hv)
theorem d5_0 : decode jdk_41_method_11_code 0 = .ok (.iload_n 0, 1) := by decide +kernel
theorem d5_1 : decode jdk_41_method_11_code 1 = .ok (.ifCond .lt 8, 3) := by decide +kernel
theorem d5_4 : decode jdk_41_method_11_code 4 = .ok (.iload_n 0, 1) := by decide +kernel
theorem d5_5 : decode jdk_41_method_11_code 5 = .ok (.iload_n 1, 1) := by decide +kernel
theorem d5_6 : decode jdk_41_method_11_code 6 = .ok (.if_icmp .lt 10, 3) := by decide +kernel
theorem d5_16 : decode jdk_41_method_11_code 16 = .ok (.iload_n 0, 1) := by decide +kernel
theorem d5_17 : decode jdk_41_method_11_code 17 = .ok (.ireturn, 1) := by decide +kernel
def Q_rm5 (Z : State) (p0 : Int32) (p1 : Int32) (v2 : Value) (h0 : Heap) (n0 : Nat) (v : Option Value) (h : Heap) (L : List Loc) : Prop := (v = some (.int p0) ∧ Fr n0 L ∧ h = h0)
set_option maxRecDepth 65536 in
set_option maxHeartbeats 40000000 in
theorem rm5 (l : Launch) (Z : State) (a0 : Array Value) (hw : ∀ d ∈ tables_1, d.before a0 Z = true) (ws : List Jvm.Cond) (p0 : Int32) (p1 : Int32) (v2 : Value) (h0 : Heap) (n0 : Nat) (Z0 : n0 ≤ h0.size) (hv : v2.isRef = true) (hc1 : ¬ (p0 < (0 : Int32))) (hc6 : p0 < p1) :
    MetFree l (⟨"jdk/internal/util/Preconditions", "checkIndex", "(IILjava/util/function/BiFunction;)I"⟩ : MethodName) (head1 (Jvm.Cond.code (⟨"jdk/internal/util/Preconditions", "checkIndex", "(IILjava/util/function/BiFunction;)I"⟩ : MethodName) jdk_41_method_11_code 3 (some .int) :: ws) ({ frames := 0, cells := 0, slots := 0, locals := 0 } : Room)) (fun a U => a = #[(.int p0), (.int p1), v2] ∧ Z.Warmed39 U.vm ∧ U.heap = h0) (fun _ _ _ _ _ => True) (fun _ U o U' => ∃ v L, o = .returned v ∧ Q_rm5 Z p0 p1 v2 h0 n0 v U'.heap L ∧ FrameEnd U o U' L ({ frames := 0, cells := 0, slots := 0, locals := 0 } : Room).cells ({ frames := 0, cells := 0, slots := 0, locals := 0 } : Room).slots) := by
  refine MetFree.of_bodySF (plainFor_of_name pn_5) hisR ?_
  intro p e s m args below meth c s₁ Bd hml0 hP hK
  obtain ⟨rfl, hZ, hh⟩ := hP
  have hx := Bd.exec
  have hby := Bd.bytes
  have hml : c.maxLocals = 3 := hml0
  have hown : s.vm.findClass "jdk/internal/util/Preconditions" = some m.cls := findClass_of_methodNamed Bd.named
  have hnm := (name_of_methodNamed Bd.named Bd.method).1
  have X0 : Stand p l e ({ frames := 0, cells := 0, slots := 0, locals := 0 } : Room) s m #[(.int p0), (.int p1), v2] below meth c s₁ [] 0 0 := Stand.of_body Bd
  have e0 : s₁.heap = h0 := by rw [← hh, Bd.state]; rfl
  have N0 := Fr.nil n0
  have pre0 : ∀ t, Steps p.tables e below (s₁.setTop (mkF m 0 #[.val (.int p0), .val (.int p1), .val v2] [])) t → Steps p.tables e below (s₁.setTop (entryFrame m #[(.int p0), (.int p1), v2] 3)) t := fun t k => castTop (ef_5 m p0 p1 v2 hv) k
  obtain ⟨fs, hr, hrun, hended, hW, hsame⟩ := X0.leave (v := some (.int p0)) (fun h => by rw [Bd.returns] at h; cases h)
  refine ⟨_, _, pre0 _ ?_, hrun, hended, _, _, rfl, ⟨rfl, N0, e0⟩, ⟨_, rfl⟩, hW, hsame.mono (by decide) (by decide)⟩
  show Steps p.tables e below (s₁.setTop (mkF m 0 #[.val (.int p0), .val (.int p1), .val v2] [])) _
  refine XS.iloadN X0.here hx rfl (hb hby d5_0) rfl ?_
  show Steps p.tables e below (s₁.setTop (mkF m 1 #[.val (.int p0), .val (.int p1), .val v2] [(.int p0)])) _
  refine XS.ifNo X0.here hx rfl (hb hby d5_1) rfl ((if0 _ _).trans (flt hc1).1) ?_
  show Steps p.tables e below (s₁.setTop (mkF m 4 #[.val (.int p0), .val (.int p1), .val v2] [])) _
  refine XS.iloadN X0.here hx rfl (hb hby d5_4) rfl ?_
  show Steps p.tables e below (s₁.setTop (mkF m 5 #[.val (.int p0), .val (.int p1), .val v2] [(.int p0)])) _
  refine XS.iloadN X0.here hx rfl (hb hby d5_5) rfl ?_
  show Steps p.tables e below (s₁.setTop (mkF m 6 #[.val (.int p0), .val (.int p1), .val v2] [(.int p1), (.int p0)])) _
  refine XS.icmpYes X0.here hx rfl (pc0 := 6) (pc' := 16) rfl (hb hby d5_6) rfl (tlt hc6).1 (by decide) (by decide) ?_
  show Steps p.tables e below (s₁.setTop (mkF m 16 #[.val (.int p0), .val (.int p1), .val v2] [])) _
  refine XS.iloadN X0.here hx rfl (hb hby d5_16) rfl ?_
  show Steps p.tables e below (s₁.setTop (mkF m 17 #[.val (.int p0), .val (.int p1), .val v2] [(.int p0)])) _
  exact retI X0 hx Bd.returns (hb hby d5_17) hr
theorem d4_0 : decode jdk_42_method_155_code 0 = .ok (.iload_n 0, 1) := by decide +kernel
theorem d4_1 : decode jdk_42_method_155_code 1 = .ok (.iload_n 1, 1) := by decide +kernel
theorem d4_2 : decode jdk_42_method_155_code 2 = .ok (.getstatic 1053, 3) := by decide +kernel
theorem d4_5 : decode jdk_42_method_155_code 5 = .ok (.invokestatic 1059, 3) := by decide +kernel
theorem d4_8 : decode jdk_42_method_155_code 8 = .ok (.pop, 1) := by decide +kernel
theorem d4_9 : decode jdk_42_method_155_code 9 = .ok (.return_, 1) := by decide +kernel
theorem pn_4 : plainName "java/lang/String" = true := by first | (simp [plainName, overriddenIn]; done) | decide +kernel
theorem ef_4 (m : MethodId) (p0 : Int32) (p1 : Int32) : entryFrame m #[(.int p0), (.int p1)] 2 = mkF m 0 #[.val (.int p0), .val (.int p1)] [] := by first | (simp [entryFrame, mkF, argsToLocals, Value.category]; done) | rfl
def Q_rm4 (Z : State) (p0 : Int32) (p1 : Int32) (v2 : Value) (h0 : Heap) (n0 : Nat) (v : Option Value) (h : Heap) (L : List Loc) : Prop := (v = none ∧ Fr n0 L ∧ h = h0)
set_option maxRecDepth 65536 in
set_option maxHeartbeats 40000000 in
theorem rm4 (l : Launch) (Z : State) (a0 : Array Value) (hw : ∀ d ∈ tables_1, d.before a0 Z = true) (ws : List Jvm.Cond) (p0 : Int32) (p1 : Int32) (v2 : Value) (h0 : Heap) (n0 : Nat) (Z0 : n0 ≤ h0.size) (St2 : Sta Z h0 "jdk/internal/util/Preconditions" "SIOOBE_FORMATTER" "Ljava/util/function/BiFunction;" v2) (hv : v2.isRef = true) (q1 : ¬ p0 < (0 : Int32)) (q2 : p0 < p1) :
    MetFree l (⟨"java/lang/String", "checkIndex", "(II)V"⟩ : MethodName) (head1 (Jvm.Cond.code (⟨"java/lang/String", "checkIndex", "(II)V"⟩ : MethodName) jdk_42_method_155_code 2 none :: ws) ({ frames := 1, cells := 0, slots := 0, locals := 14 } : Room)) (fun a U => a = #[(.int p0), (.int p1)] ∧ Z.Warmed39 U.vm ∧ U.heap = h0) (fun _ _ _ _ _ => True) (fun _ U o U' => ∃ v L, o = .returned v ∧ Q_rm4 Z p0 p1 v2 h0 n0 v U'.heap L ∧ FrameEnd U o U' L ({ frames := 1, cells := 0, slots := 0, locals := 14 } : Room).cells ({ frames := 1, cells := 0, slots := 0, locals := 14 } : Room).slots) := by
  refine MetFree.of_bodySF (plainFor_of_name pn_4) hisR ?_
  intro p e s m args below meth c s₁ Bd hml0 hP hK
  obtain ⟨rfl, hZ, hh⟩ := hP
  have hx := Bd.exec
  have hby := Bd.bytes
  have hml : c.maxLocals = 2 := hml0
  have hown : s.vm.findClass "java/lang/String" = some m.cls := findClass_of_methodNamed Bd.named
  have hnm := (name_of_methodNamed Bd.named Bd.method).1
  have X0 : Stand p l e ({ frames := 1, cells := 0, slots := 0, locals := 14 } : Room) s m #[(.int p0), (.int p1)] below meth c s₁ [] 0 0 := Stand.of_body Bd
  have e0 : s₁.heap = h0 := by rw [← hh, Bd.state]; rfl
  have N0 := Fr.nil n0
  have pre0 : ∀ t, Steps p.tables e below (s₁.setTop (mkF m 0 #[.val (.int p0), .val (.int p1)] [])) t → Steps p.tables e below (s₁.setTop (entryFrame m #[(.int p0), (.int p1)] 2)) t := fun t k => castTop (ef_4 m p0 p1) k
  obtain ⟨T1, X1, e1, st1⟩ := getS2 X0 hx hZ hown (host := "") (Or.inl (hw _ (List.mem_of_getElem? (i := 29) rfl))) Via.refl e0 St2 (g := (mkF m 2 #[.val (.int p0), .val (.int p1)] [(.int p1), (.int p0)])) rfl (hb hby d4_2)
  obtain ⟨_, _, ⟨T2, L2, k2, n2⟩, -, X2, ⟨Lc2, hQ2, l2, y2, z2⟩, st2⟩ := Jvm.LawKit.callS X1 hx (y := (⟨"jdk/internal/util/Preconditions", "checkIndex", "(IILjava/util/function/BiFunction;)I"⟩ : MethodName)) hown (mvT hZ (hw _ (List.mem_of_getElem? (i := 31) rfl))) (mvT hZ (hw _ (List.mem_of_getElem? (i := 32) rfl))) (mvT hZ (hw _ (List.mem_of_getElem? (i := 30) rfl))) (mvT hZ (hw _ (List.mem_of_getElem? (i := 33) rfl))) (by decide) (backOf (W := 0) (rm5 l Z a0 hw [] p0 p1 v2 h0 n0 Z0 hv q1 q2) hZ (hw _ (List.mem_of_getElem? (i := 33) rfl)) (hw _ (List.mem_of_getElem? (i := 30) rfl)) (by decide) (by decide)) (g := (mkF m 5 #[.val (.int p0), .val (.int p1)] [v2, (.int p1), (.int p0)])) rfl (by rw [hml]; rfl) (argsL := [(.int p0), (.int p1), v2]) (rest := []) (lenOf pd0 rfl) rfl (by show 2 * 0 + _ ≤ _; exact Nat.le_of_eq rfl) (hb hby d4_5) (fun _ _ => ⟨rfl, e1, (by decide : 0 + 0 ≤ _), (by decide : 0 + 0 ≤ _)⟩)
  dsimp only [Pt.U, Pt.locs, Pt.cells, Pt.slots] at X2 l2 y2 z2 st2 hQ2
  subst l2 y2 z2
  obtain ⟨rfl, N2q, e2⟩ := hQ2
  have N2 := Fr.app N0 N2q
  obtain ⟨fs, hr, hrun, hended, hW, hsame⟩ := X2.leave (v := none) (fun _ => rfl)
  refine ⟨_, _, pre0 _ ?_, hrun, hended, _, _, rfl, ⟨rfl, N2, e2⟩, ⟨_, rfl⟩, hW, hsame.mono (by decide) (by decide)⟩
  show Steps p.tables e below (s₁.setTop (mkF m 0 #[.val (.int p0), .val (.int p1)] [])) _
  refine XS.iloadN X0.here hx rfl (hb hby d4_0) rfl ?_
  show Steps p.tables e below (s₁.setTop (mkF m 1 #[.val (.int p0), .val (.int p1)] [(.int p0)])) _
  refine XS.iloadN X0.here hx rfl (hb hby d4_1) rfl ?_
  show Steps p.tables e below (s₁.setTop (mkF m 2 #[.val (.int p0), .val (.int p1)] [(.int p1), (.int p0)])) _
  refine st1 _ ?_
  show Steps p.tables e below (T1.setTop (mkF m 5 #[.val (.int p0), .val (.int p1)] [v2, (.int p1), (.int p0)])) _
  refine st2 _ ?_
  show Steps p.tables e below (T2.setTop (mkF m 8 #[.val (.int p0), .val (.int p1)] [(.int p0)])) _
  refine XS.pop X2.here hx rfl (hb hby d4_8) rfl rfl ?_
  show Steps p.tables e below (T2.setTop (mkF m 9 #[.val (.int p0), .val (.int p1)] [])) _
  exact X2.returnOut hx Bd.returns (hb hby d4_9) hr
theorem d3_0 : decode jdk_43_method_2_code 0 = .ok (.iload_n 1, 1) := by decide +kernel
theorem d3_1 : decode jdk_43_method_2_code 1 = .ok (.aload_n 0, 1) := by decide +kernel
theorem d3_2 : decode jdk_43_method_2_code 2 = .ok (.arraylength, 1) := by decide +kernel
theorem d3_3 : decode jdk_43_method_2_code 3 = .ok (.invokestatic 9, 3) := by decide +kernel
theorem d3_6 : decode jdk_43_method_2_code 6 = .ok (.aload_n 0, 1) := by decide +kernel
theorem d3_7 : decode jdk_43_method_2_code 7 = .ok (.iload_n 1, 1) := by decide +kernel
theorem d3_8 : decode jdk_43_method_2_code 8 = .ok (.baload, 1) := by decide +kernel
theorem d3_9 : decode jdk_43_method_2_code 9 = .ok (.sipush 255, 3) := by decide +kernel
theorem d3_12 : decode jdk_43_method_2_code 12 = .ok (.iand, 1) := by decide +kernel
theorem d3_13 : decode jdk_43_method_2_code 13 = .ok (.i2c, 1) := by decide +kernel
theorem d3_14 : decode jdk_43_method_2_code 14 = .ok (.ireturn, 1) := by decide +kernel
def chv (x : Int32) : Int32 := (((x &&& (255 : Int32)).toUInt32.toUInt16.toUInt32.toInt32).toUInt32.toUInt16.toUInt32.toInt32)
theorem pn_3 : plainName "java/lang/StringLatin1" = true := by first | (simp [plainName, overriddenIn]; done) | decide +kernel
theorem ef_3 (m : MethodId) (r0 : Addr) (p1 : Int32) : entryFrame m #[(.ref r0), (.int p1)] 2 = mkF m 0 #[.val (.ref r0), .val (.int p1)] [] := by first | (simp [entryFrame, mkF, argsToLocals, Value.category]; done) | rfl
def Q_rm3 (Z : State) (r0 : Addr) (p1 : Int32) (v2 : Value) (vs : List Int32) (z : Int32) (h0 : Heap) (n0 : Nat) (v : Option Value) (h : Heap) (L : List Loc) : Prop := (v = some (.int (chv (vs.getD p1.toNatClampNeg 0))) ∧ Fr n0 L ∧ h = h0)
set_option maxRecDepth 65536 in
set_option maxHeartbeats 40000000 in
theorem rm3 (l : Launch) (Z : State) (a0 : Array Value) (hw : ∀ d ∈ tables_1, d.before a0 Z = true) (ws : List Jvm.Cond) (r0 : Addr) (p1 : Int32) (v2 : Value) (vs : List Int32) (z : Int32) (h0 : Heap) (n0 : Nat) (Z0 : n0 ≤ h0.size) (St2 : Sta Z h0 "jdk/internal/util/Preconditions" "SIOOBE_FORMATTER" "Ljava/util/function/BiFunction;" v2) (hv : v2.isRef = true) (VA : ArrL .byte Z h0 r0 vs) (hl : vs.length.toInt32 = z) (q1 : ¬ p1 < (0 : Int32)) (q2 : p1.toInt < z.toInt) (hj : ¬ p1 < 0 ∧ p1.toNatClampNeg < vs.length) :
    MetFree l (⟨"java/lang/StringLatin1", "charAt", "([BI)C"⟩ : MethodName) (head1 (Jvm.Cond.code (⟨"java/lang/StringLatin1", "charAt", "([BI)C"⟩ : MethodName) jdk_43_method_2_code 2 (some .char) :: ws) ({ frames := 2, cells := 0, slots := 0, locals := 27 } : Room)) (fun a U => a = #[(.ref r0), (.int p1)] ∧ Z.Warmed39 U.vm ∧ U.heap = h0) (fun _ _ _ _ _ => True) (fun _ U o U' => ∃ v L, o = .returned v ∧ Q_rm3 Z r0 p1 v2 vs z h0 n0 v U'.heap L ∧ FrameEnd U o U' L ({ frames := 2, cells := 0, slots := 0, locals := 27 } : Room).cells ({ frames := 2, cells := 0, slots := 0, locals := 27 } : Room).slots) := by
  refine MetFree.of_bodySF (plainFor_of_name pn_3) hisR ?_
  intro p e s m args below meth c s₁ Bd hml0 hP hK
  obtain ⟨rfl, hZ, hh⟩ := hP
  have hx := Bd.exec
  have hby := Bd.bytes
  have hml : c.maxLocals = 2 := hml0
  have hown : s.vm.findClass "java/lang/StringLatin1" = some m.cls := findClass_of_methodNamed Bd.named
  have hnm := (name_of_methodNamed Bd.named Bd.method).1
  have X0 : Stand p l e ({ frames := 2, cells := 0, slots := 0, locals := 27 } : Room) s m #[(.ref r0), (.int p1)] below meth c s₁ [] 0 0 := Stand.of_body Bd
  have e0 : s₁.heap = h0 := by rw [← hh, Bd.state]; rfl
  have N0 := Fr.nil n0
  have pre0 : ∀ t, Steps p.tables e below (s₁.setTop (mkF m 0 #[.val (.ref r0), .val (.int p1)] [])) t → Steps p.tables e below (s₁.setTop (entryFrame m #[(.ref r0), (.int p1)] 2)) t := fun t k => castTop (ef_3 m r0 p1) k
  obtain ⟨_, _, ⟨T1, L1, k1, n1⟩, -, X1, ⟨Lc1, hQ1, l1, y1, z1⟩, st1⟩ := Jvm.LawKit.callS X0 hx (y := (⟨"java/lang/String", "checkIndex", "(II)V"⟩ : MethodName)) hown (mvT hZ (hw _ (List.mem_of_getElem? (i := 26) rfl))) (mvT hZ (hw _ (List.mem_of_getElem? (i := 27) rfl))) (mvT hZ (hw _ (List.mem_of_getElem? (i := 1) rfl))) (mvT hZ (hw _ (List.mem_of_getElem? (i := 28) rfl))) (by decide) (backOf (W := 0) (rm4 l Z a0 hw [] p1 z v2 h0 n0 Z0 St2 hv q1 (by rw [Int32.lt_iff_toInt_lt]; exact q2)) hZ (hw _ (List.mem_of_getElem? (i := 28) rfl)) (hw _ (List.mem_of_getElem? (i := 1) rfl)) (by decide) (by decide)) (g := (mkF m 3 #[.val (.ref r0), .val (.int p1)] [(.int z), (.int p1)])) rfl (by rw [hml]; rfl) (argsL := [(.int p1), (.int z)]) (rest := []) (lenOf pd1 rfl) rfl (by show 2 * 0 + _ ≤ _; exact Nat.le_of_eq rfl) (hb hby d3_3) (fun _ _ => ⟨rfl, e0, (by decide : 0 + 0 ≤ _), (by decide : 0 + 0 ≤ _)⟩)
  dsimp only [Pt.U, Pt.locs, Pt.cells, Pt.slots] at X1 l1 y1 z1 st1 hQ1
  subst l1 y1 z1
  obtain ⟨rfl, N1q, e1⟩ := hQ1
  have N1 := Fr.app N0 N1q
  obtain ⟨fs, hr, hrun, hended, hW, hsame⟩ := X1.leave (v := some (.int ((((vs.getD p1.toNatClampNeg 0) &&& (255 : Int32)).toUInt32.toUInt16.toUInt32.toInt32).toUInt32.toUInt16.toUInt32.toInt32))) (fun h => by rw [Bd.returns] at h; cases h)
  refine ⟨_, _, pre0 _ ?_, hrun, hended, _, _, rfl, ⟨rfl, N1, e1⟩, ⟨_, rfl⟩, hW, hsame.mono (by decide) (by decide)⟩
  show Steps p.tables e below (s₁.setTop (mkF m 0 #[.val (.ref r0), .val (.int p1)] [])) _
  refine XS.iloadN X0.here hx rfl (hb hby d3_0) rfl ?_
  show Steps p.tables e below (s₁.setTop (mkF m 1 #[.val (.ref r0), .val (.int p1)] [(.int p1)])) _
  refine XS.aloadN X0.here hx rfl (hb hby d3_1) rfl rfl ?_
  show Steps p.tables e below (s₁.setTop (mkF m 2 #[.val (.ref r0), .val (.int p1)] [(.ref r0), (.int p1)])) _
  refine own_al_len X0 hx hZ e0 VA (g := (mkF m 2 #[.val (.ref r0), .val (.int p1)] [(.ref r0), (.int p1)])) (z := z) hl rfl rfl (hb hby d3_2) _ ?_
  show Steps p.tables e below (s₁.setTop (mkF m 3 #[.val (.ref r0), .val (.int p1)] [(.int z), (.int p1)])) _
  refine st1 _ ?_
  show Steps p.tables e below (T1.setTop (mkF m 6 #[.val (.ref r0), .val (.int p1)] [])) _
  refine XS.aloadN X1.here hx rfl (hb hby d3_6) rfl rfl ?_
  show Steps p.tables e below (T1.setTop (mkF m 7 #[.val (.ref r0), .val (.int p1)] [(.ref r0)])) _
  refine XS.iloadN X1.here hx rfl (hb hby d3_7) rfl ?_
  show Steps p.tables e below (T1.setTop (mkF m 8 #[.val (.ref r0), .val (.int p1)] [(.int p1), (.ref r0)])) _
  refine own_al_ldB X1 hx hZ e1 VA (g := (mkF m 8 #[.val (.ref r0), .val (.int p1)] [(.int p1), (.ref r0)])) hj rfl rfl (hb hby d3_8) _ ?_
  show Steps p.tables e below (T1.setTop (mkF m 9 #[.val (.ref r0), .val (.int p1)] [(.int (vs.getD p1.toNatClampNeg 0))])) _
  refine XS.sipush X1.here hx rfl (hb hby d3_9) ?_
  show Steps p.tables e below (T1.setTop (mkF m 12 #[.val (.ref r0), .val (.int p1)] [(.int (255 : Int32)), (.int (vs.getD p1.toNatClampNeg 0))])) _
  refine XS.iand X1.here hx rfl (hb hby d3_12) rfl ?_
  show Steps p.tables e below (T1.setTop (mkF m 13 #[.val (.ref r0), .val (.int p1)] [(.int ((vs.getD p1.toNatClampNeg 0) &&& (255 : Int32)))])) _
  refine XS.i2c X1.here hx rfl (hb hby d3_13) rfl ?_
  show Steps p.tables e below (T1.setTop (mkF m 14 #[.val (.ref r0), .val (.int p1)] [(.int (((vs.getD p1.toNatClampNeg 0) &&& (255 : Int32)).toUInt32.toUInt16.toUInt32.toInt32))])) _
  exact retN X1 hx (t := .char) Bd.returns (by simp) (hb hby d3_14) hr
theorem d2_0 : decode jdk_42_method_154_code 0 = .ok (.getstatic 38, 3) := by decide +kernel
theorem d2_3 : decode jdk_42_method_154_code 3 = .ok (.ifCond .eq 14, 3) := by decide +kernel
theorem d2_6 : decode jdk_42_method_154_code 6 = .ok (.aload_n 0, 1) := by decide +kernel
theorem d2_7 : decode jdk_42_method_154_code 7 = .ok (.getfield 15, 3) := by decide +kernel
theorem d2_10 : decode jdk_42_method_154_code 10 = .ok (.ifCond .ne 7, 3) := by decide +kernel
theorem d2_13 : decode jdk_42_method_154_code 13 = .ok (.iconst 1, 1) := by decide +kernel
theorem d2_14 : decode jdk_42_method_154_code 14 = .ok (.goto 4, 3) := by decide +kernel
theorem d2_18 : decode jdk_42_method_154_code 18 = .ok (.ireturn, 1) := by decide +kernel
theorem pn_2 : plainName "java/lang/String" = true := by first | (simp [plainName, overriddenIn]; done) | decide +kernel
theorem ef_2 (m : MethodId) (r0 : Addr) : entryFrame m #[(.ref r0)] 1 = mkF m 0 #[.val (.ref r0)] [] := by first | (simp [entryFrame, mkF, argsToLocals, Value.category]; done) | rfl
def Q_rm2 (Z : State) (r0 : Addr) (c1 : Int32) (h0 : Heap) (n0 : Nat) (v : Option Value) (h : Heap) (L : List Loc) : Prop := (v = some (.int (1 : Int32)) ∧ Fr n0 L ∧ h = h0)
set_option maxRecDepth 65536 in
set_option maxHeartbeats 40000000 in
theorem rm2 (l : Launch) (Z : State) (a0 : Array Value) (hw : ∀ d ∈ tables_1, d.before a0 Z = true) (ws : List Jvm.Cond) (r0 : Addr) (c1 : Int32) (h0 : Heap) (n0 : Nat) (Z0 : n0 ≤ h0.size) (St1 : Sta Z h0 "java/lang/String" "COMPACT_STRINGS" "Z" (.int c1)) (hc1 : ¬ c1 = (0 : Int32)) (FC : Fld Z h0 r0 "java/lang/String" "coder" "B" (.int (0 : Int32))) :
    MetFree l (⟨"java/lang/String", "isLatin1", "()Z"⟩ : MethodName) (head1 (Jvm.Cond.code (⟨"java/lang/String", "isLatin1", "()Z"⟩ : MethodName) jdk_42_method_154_code 1 (some .boolean) :: ws) ({ frames := 0, cells := 0, slots := 0, locals := 0 } : Room)) (fun a U => a = #[(.ref r0)] ∧ Z.Warmed39 U.vm ∧ U.heap = h0) (fun _ _ _ _ _ => True) (fun _ U o U' => ∃ v L, o = .returned v ∧ Q_rm2 Z r0 c1 h0 n0 v U'.heap L ∧ FrameEnd U o U' L ({ frames := 0, cells := 0, slots := 0, locals := 0 } : Room).cells ({ frames := 0, cells := 0, slots := 0, locals := 0 } : Room).slots) := by
  refine MetFree.of_bodySF (plainFor_of_name pn_2) hisR ?_
  intro p e s m args below meth c s₁ Bd hml0 hP hK
  obtain ⟨rfl, hZ, hh⟩ := hP
  have hx := Bd.exec
  have hby := Bd.bytes
  have hml : c.maxLocals = 1 := hml0
  have hown : s.vm.findClass "java/lang/String" = some m.cls := findClass_of_methodNamed Bd.named
  have hnm := (name_of_methodNamed Bd.named Bd.method).1
  have X0 : Stand p l e ({ frames := 0, cells := 0, slots := 0, locals := 0 } : Room) s m #[(.ref r0)] below meth c s₁ [] 0 0 := Stand.of_body Bd
  have e0 : s₁.heap = h0 := by rw [← hh, Bd.state]; rfl
  have N0 := Fr.nil n0
  have pre0 : ∀ t, Steps p.tables e below (s₁.setTop (mkF m 0 #[.val (.ref r0)] [])) t → Steps p.tables e below (s₁.setTop (entryFrame m #[(.ref r0)] 1)) t := fun t k => castTop (ef_2 m r0) k
  obtain ⟨T1, X1, e1, st1⟩ := getS2 X0 hx hZ hown (host := "") (Or.inl (hw _ (List.mem_of_getElem? (i := 19) rfl))) Via.refl e0 St1 (g := (mkF m 0 #[.val (.ref r0)] [])) rfl (hb hby d2_0)
  obtain ⟨T2, X2, e2, st2⟩ := getF X1 hx hZ hown (host := "") (Or.inl (hw _ (List.mem_of_getElem? (i := 20) rfl))) Via.refl e1 FC (g := (mkF m 7 #[.val (.ref r0)] [(.ref r0)])) rfl rfl (hb hby d2_7)
  obtain ⟨fs, hr, hrun, hended, hW, hsame⟩ := X2.leave (v := some (.int (1 : Int32))) (fun h => by rw [Bd.returns] at h; cases h)
  refine ⟨_, _, pre0 _ ?_, hrun, hended, _, _, rfl, ⟨rfl, N0, e2⟩, ⟨_, rfl⟩, hW, hsame.mono (by decide) (by decide)⟩
  show Steps p.tables e below (s₁.setTop (mkF m 0 #[.val (.ref r0)] [])) _
  refine st1 _ ?_
  show Steps p.tables e below (T1.setTop (mkF m 3 #[.val (.ref r0)] [(.int c1)])) _
  refine XS.ifNo X1.here hx rfl (hb hby d2_3) rfl ((if0 _ _).trans (feq hc1).1) ?_
  show Steps p.tables e below (T1.setTop (mkF m 6 #[.val (.ref r0)] [])) _
  refine XS.aloadN X1.here hx rfl (hb hby d2_6) rfl rfl ?_
  show Steps p.tables e below (T1.setTop (mkF m 7 #[.val (.ref r0)] [(.ref r0)])) _
  refine st2 _ ?_
  show Steps p.tables e below (T2.setTop (mkF m 10 #[.val (.ref r0)] [(.int (0 : Int32))])) _
  refine XS.ifNo X2.here hx rfl (hb hby d2_10) rfl ((if0 _ _).trans (teq rfl).2) ?_
  show Steps p.tables e below (T2.setTop (mkF m 13 #[.val (.ref r0)] [])) _
  refine XS.iconst X2.here hx rfl (hb hby d2_13) ?_
  show Steps p.tables e below (T2.setTop (mkF m 14 #[.val (.ref r0)] [(.int (1 : Int32))])) _
  refine XS.goto X2.here hx rfl (pc0 := 14) (pc' := 18) rfl (hb hby d2_14) (by decide) (by decide) ?_
  show Steps p.tables e below (T2.setTop (mkF m 18 #[.val (.ref r0)] [(.int (1 : Int32))])) _
  exact retN X2 hx (t := .boolean) Bd.returns (by simp) (hb hby d2_18) hr
theorem d1_0 : decode jdk_42_method_56_code 0 = .ok (.aload_n 0, 1) := by decide +kernel
theorem d1_1 : decode jdk_42_method_56_code 1 = .ok (.invokevirtual 492, 3) := by decide +kernel
theorem d1_4 : decode jdk_42_method_56_code 4 = .ok (.ifCond .eq 12, 3) := by decide +kernel
theorem d1_7 : decode jdk_42_method_56_code 7 = .ok (.aload_n 0, 1) := by decide +kernel
theorem d1_8 : decode jdk_42_method_56_code 8 = .ok (.getfield 9, 3) := by decide +kernel
theorem d1_11 : decode jdk_42_method_56_code 11 = .ok (.iload_n 1, 1) := by decide +kernel
theorem d1_12 : decode jdk_42_method_56_code 12 = .ok (.invokestatic 495, 3) := by decide +kernel
theorem d1_15 : decode jdk_42_method_56_code 15 = .ok (.ireturn, 1) := by decide +kernel
def chr (x : Int32) : Int32 := ((chv x).toUInt32.toUInt16.toUInt32.toInt32)
theorem pn_1 : plainName "java/lang/String" = true := by first | (simp [plainName, overriddenIn]; done) | decide +kernel
theorem ef_1 (m : MethodId) (r0 : Addr) (p1 : Int32) : entryFrame m #[(.ref r0), (.int p1)] 2 = mkF m 0 #[.val (.ref r0), .val (.int p1)] [] := by first | (simp [entryFrame, mkF, argsToLocals, Value.category]; done) | rfl
def Q_rm1 (Z : State) (r0 : Addr) (p1 : Int32) (rb : Addr) (c1 : Int32) (v2 : Value) (vs : List Int32) (z : Int32) (h0 : Heap) (n0 : Nat) (v : Option Value) (h : Heap) (L : List Loc) : Prop := (v = some (.int (chr (vs.getD p1.toNatClampNeg 0))) ∧ Fr n0 L ∧ h = h0)
set_option maxRecDepth 65536 in
set_option maxHeartbeats 40000000 in
theorem rm1 (l : Launch) (Z : State) (a0 : Array Value) (hw : ∀ d ∈ tables_1, d.before a0 Z = true) (ws : List Jvm.Cond) (r0 : Addr) (p1 : Int32) (rb : Addr) (c1 : Int32) (v2 : Value) (vs : List Int32) (z : Int32) (h0 : Heap) (n0 : Nat) (Z0 : n0 ≤ h0.size) (E0 : Exa Z h0 r0 "java/lang/String") (St1 : Sta Z h0 "java/lang/String" "COMPACT_STRINGS" "Z" (.int c1)) (hc1 : ¬ c1 = (0 : Int32)) (FC : Fld Z h0 r0 "java/lang/String" "coder" "B" (.int (0 : Int32))) (FV : Fld Z h0 r0 "java/lang/String" "value" "[B" (.ref rb)) (St2 : Sta Z h0 "jdk/internal/util/Preconditions" "SIOOBE_FORMATTER" "Ljava/util/function/BiFunction;" v2) (hv : v2.isRef = true) (VA : ArrL .byte Z h0 rb vs) (hl : vs.length.toInt32 = z) (q1 : ¬ p1 < (0 : Int32)) (q2 : p1.toInt < z.toInt) (hj : ¬ p1 < 0 ∧ p1.toNatClampNeg < vs.length) :
    MetFree l (⟨"java/lang/String", "charAt", "(I)C"⟩ : MethodName) (head1 (Jvm.Cond.code (⟨"java/lang/String", "charAt", "(I)C"⟩ : MethodName) jdk_42_method_56_code 2 (some .char) :: ws) ({ frames := 3, cells := 0, slots := 0, locals := 40 } : Room)) (fun a U => a = #[(.ref r0), (.int p1)] ∧ Z.Warmed39 U.vm ∧ U.heap = h0) (fun _ _ _ _ _ => True) (fun _ U o U' => ∃ v L, o = .returned v ∧ Q_rm1 Z r0 p1 rb c1 v2 vs z h0 n0 v U'.heap L ∧ FrameEnd U o U' L ({ frames := 3, cells := 0, slots := 0, locals := 40 } : Room).cells ({ frames := 3, cells := 0, slots := 0, locals := 40 } : Room).slots) := by
  refine MetFree.of_bodySF (plainFor_of_name pn_1) hisR ?_
  intro p e s m args below meth c s₁ Bd hml0 hP hK
  obtain ⟨rfl, hZ, hh⟩ := hP
  have hx := Bd.exec
  have hby := Bd.bytes
  have hml : c.maxLocals = 2 := hml0
  have hown : s.vm.findClass "java/lang/String" = some m.cls := findClass_of_methodNamed Bd.named
  have hnm := (name_of_methodNamed Bd.named Bd.method).1
  have X0 : Stand p l e ({ frames := 3, cells := 0, slots := 0, locals := 40 } : Room) s m #[(.ref r0), (.int p1)] below meth c s₁ [] 0 0 := Stand.of_body Bd
  have e0 : s₁.heap = h0 := by rw [← hh, Bd.state]; rfl
  have N0 := Fr.nil n0
  have pre0 : ∀ t, Steps p.tables e below (s₁.setTop (mkF m 0 #[.val (.ref r0), .val (.int p1)] [])) t → Steps p.tables e below (s₁.setTop (entryFrame m #[(.ref r0), (.int p1)] 2)) t := fun t k => castTop (ef_1 m r0 p1) k
  obtain ⟨cq1, kq1, q1a, q1b, q1c⟩ := isOf hZ e0 E0
  obtain ⟨_, _, ⟨T1, L1, k1, n1⟩, -, X1, ⟨Lc1, hQ1, l1, y1, z1⟩, st1⟩ := X0.virtualBack hx (y := (⟨"java/lang/String", "isLatin1", "()Z"⟩ : MethodName)) (z := (⟨"java/lang/String", "isLatin1", "()Z"⟩ : MethodName)) hown (mvT hZ (hw _ (List.mem_of_getElem? (i := 14) rfl))) (mvT hZ (hw _ (List.mem_of_getElem? (i := 15) rfl))) (notFace_of_selects (args := #[]) (mvT hZ (hw _ (List.mem_of_getElem? (i := 17) rfl)))) (mvT hZ (hw _ (List.mem_of_getElem? (i := 17) rfl))) (mvT hZ (hw _ (List.mem_of_getElem? (i := 16) rfl))) (by decide) (backOf (W := 0) (rm2 l Z a0 hw [] r0 c1 h0 n0 Z0 St1 hc1 FC) hZ (hw _ (List.mem_of_getElem? (i := 18) rfl)) (hw _ (List.mem_of_getElem? (i := 1) rfl)) (by decide) (by decide)) q1a q1c (g := (mkF m 1 #[.val (.ref r0), .val (.int p1)] [(.ref r0)])) rfl (by rw [hml]; rfl) (Steps.refl _) (argsL := []) (rest := []) (lenOf pd2 rfl) rfl (by show 2 * 0 + _ ≤ _; exact Nat.le_of_eq rfl) (hb hby d1_1) (fun _ _ => ⟨rfl, e0, (by decide : 0 + 0 ≤ _), (by decide : 0 + 0 ≤ _)⟩)
  dsimp only [Pt.U, Pt.locs, Pt.cells, Pt.slots] at X1 l1 y1 z1 st1 hQ1
  subst l1 y1 z1
  obtain ⟨rfl, N1q, e1⟩ := hQ1
  have N1 := Fr.app N0 N1q
  obtain ⟨T2, X2, e2, st2⟩ := getF X1 hx hZ hown (host := "") (Or.inl (hw _ (List.mem_of_getElem? (i := 21) rfl))) Via.refl e1 FV (g := (mkF m 8 #[.val (.ref r0), .val (.int p1)] [(.ref r0)])) rfl rfl (hb hby d1_8)
  obtain ⟨_, _, ⟨T3, L3, k3, n3⟩, -, X3, ⟨Lc3, hQ3, l3, y3, z3⟩, st3⟩ := Jvm.LawKit.callS X2 hx (y := (⟨"java/lang/StringLatin1", "charAt", "([BI)C"⟩ : MethodName)) hown (mvT hZ (hw _ (List.mem_of_getElem? (i := 22) rfl))) (mvT hZ (hw _ (List.mem_of_getElem? (i := 23) rfl))) (mvT hZ (hw _ (List.mem_of_getElem? (i := 24) rfl))) (mvT hZ (hw _ (List.mem_of_getElem? (i := 25) rfl))) (by decide) (backOf (W := 0) (rm3 l Z a0 hw [] rb p1 v2 vs z h0 n0 Z0 St2 hv VA hl q1 q2 hj) hZ (hw _ (List.mem_of_getElem? (i := 25) rfl)) (hw _ (List.mem_of_getElem? (i := 24) rfl)) (by decide) (by decide)) (g := (mkF m 12 #[.val (.ref r0), .val (.int p1)] [(.int p1), (.ref rb)])) rfl (by rw [hml]; rfl) (argsL := [(.ref rb), (.int p1)]) (rest := []) (lenOf pd3 rfl) rfl (by show 2 * 0 + _ ≤ _; exact Nat.le_of_eq rfl) (hb hby d1_12) (fun _ _ => ⟨rfl, e2, (by decide : 0 + 0 ≤ _), (by decide : 0 + 0 ≤ _)⟩)
  dsimp only [Pt.U, Pt.locs, Pt.cells, Pt.slots] at X3 l3 y3 z3 st3 hQ3
  subst l3 y3 z3
  obtain ⟨rfl, N3q, e3⟩ := hQ3
  have N3 := Fr.app N1 N3q
  obtain ⟨fs, hr, hrun, hended, hW, hsame⟩ := X3.leave (v := some (.int ((chv (vs.getD p1.toNatClampNeg 0)).toUInt32.toUInt16.toUInt32.toInt32))) (fun h => by rw [Bd.returns] at h; cases h)
  refine ⟨_, _, pre0 _ ?_, hrun, hended, _, _, rfl, ⟨rfl, N3, e3⟩, ⟨_, rfl⟩, hW, hsame.mono (by decide) (by decide)⟩
  show Steps p.tables e below (s₁.setTop (mkF m 0 #[.val (.ref r0), .val (.int p1)] [])) _
  refine XS.aloadN X0.here hx rfl (hb hby d1_0) rfl rfl ?_
  show Steps p.tables e below (s₁.setTop (mkF m 1 #[.val (.ref r0), .val (.int p1)] [(.ref r0)])) _
  refine st1.trans ?_
  show Steps p.tables e below (T1.setTop (mkF m 4 #[.val (.ref r0), .val (.int p1)] [(.int (1 : Int32))])) _
  refine XS.ifNo X1.here hx rfl (hb hby d1_4) rfl ((if0 _ _).trans (feq (by decide)).1) ?_
  show Steps p.tables e below (T1.setTop (mkF m 7 #[.val (.ref r0), .val (.int p1)] [])) _
  refine XS.aloadN X1.here hx rfl (hb hby d1_7) rfl rfl ?_
  show Steps p.tables e below (T1.setTop (mkF m 8 #[.val (.ref r0), .val (.int p1)] [(.ref r0)])) _
  refine st2 _ ?_
  show Steps p.tables e below (T2.setTop (mkF m 11 #[.val (.ref r0), .val (.int p1)] [(.ref rb)])) _
  refine XS.iloadN X2.here hx rfl (hb hby d1_11) rfl ?_
  show Steps p.tables e below (T2.setTop (mkF m 12 #[.val (.ref r0), .val (.int p1)] [(.int p1), (.ref rb)])) _
  refine st3 _ ?_
  show Steps p.tables e below (T3.setTop (mkF m 15 #[.val (.ref r0), .val (.int p1)] [(.int (chv (vs.getD p1.toNatClampNeg 0)))])) _
  exact retN X3 hx (t := .char) Bd.returns (by simp) (hb hby d1_15) hr
def lows : List Int32 := [48, 49, 50, 51, 52, 53, 54, 55, 56, 57, 97, 98, 99, 100, 101, 102]
def upps : List Int32 := [48, 49, 50, 51, 52, 53, 54, 55, 56, 57, 65, 66, 67, 68, 69, 70]
theorem own_lt {v c : Int32} {z : Int} (hc : c.toInt = z) (h : v.toInt < z) : v < c := by rw [Int32.lt_iff_toInt_lt, hc]; exact h
theorem own_nlt {v c : Int32} {z : Int} (hc : c.toInt = z) (h : z ≤ v.toInt) : ¬ v < c := by rw [Int32.lt_iff_toInt_lt, hc]; omega
theorem own_gt {v c : Int32} {z : Int} (hc : c.toInt = z) (h : z < v.toInt) : c < v := by rw [Int32.lt_iff_toInt_lt, hc]; exact h
theorem own_nat (x : Int32) (n : Nat) (h : 0 ≤ x.toInt ∧ x.toInt < n) (hn : n ≤ 1000) : ∃ k : Fin n, x = Int32.ofNat k.val := by
  refine ⟨⟨x.toInt.toNat, by omega⟩, ?_⟩
  rw [← Int32.toInt_inj, Int32.toInt_ofNat_of_lt (by show x.toInt.toNat < _; omega)]
  show x.toInt = ((x.toInt.toNat : Nat) : Int)
  omega
theorem own_r15 (p1 : Int32) : 0 ≤ (p1 &&& (15 : Int32)).toInt ∧ (p1 &&& (15 : Int32)).toInt < 16 := by
  rw [c_mask p1 15 4 (by decide) (by decide)]
  exact ⟨Int.emod_nonneg _ (by decide), Int.emod_lt_of_pos _ (by decide)⟩
theorem own_lowF : ∀ k : Fin 16, F6_0 (chr (lows.getD (Int32.ofNat k.val).toNatClampNeg 0)) = Int32.ofNat k.val ∧ F6_0 (chr (upps.getD (Int32.ofNat k.val).toNatClampNeg 0)) = Int32.ofNat k.val := by decide +kernel
theorem own_low (p1 : Int32) : (F6_0 (chr (lows.getD (p1 &&& (15 : Int32)).toNatClampNeg 0))) = (p1 &&& (15 : Int32)) := by
  obtain ⟨k, e⟩ := own_nat _ 16 (own_r15 p1) (by decide)
  rw [e]; exact (own_lowF k).1
theorem own_upp (p1 : Int32) : (F6_0 (chr (upps.getD (p1 &&& (15 : Int32)).toNatClampNeg 0))) = (p1 &&& (15 : Int32)) := by
  obtain ⟨k, e⟩ := own_nat _ 16 (own_r15 p1) (by decide)
  rw [e]; exact (own_lowF k).2
theorem own_q1 (p1 : Int32) : ¬ (p1 &&& (15 : Int32)) < (0 : Int32) := by
  have a := own_r15 p1
  rw [Int32.lt_iff_toInt_lt]; show ¬ _ < (0 : Int); omega
theorem own_q2 (p1 : Int32) : (p1 &&& (15 : Int32)).toInt < (16 : Int32).toInt := (own_r15 p1).2
theorem own_j (p1 : Int32) : ¬ (p1 &&& (15 : Int32)) < 0 ∧ (p1 &&& (15 : Int32)).toNatClampNeg < 16 := by
  have a := own_r15 p1
  refine ⟨own_q1 p1, ?_⟩
  show (p1 &&& (15 : Int32)).toInt.toNat < 16
  omega
theorem own_j_lows (p1 : Int32) : ¬ (p1 &&& (15 : Int32)) < 0 ∧ (p1 &&& (15 : Int32)).toNatClampNeg < lows.length := own_j p1
theorem own_j_upps (p1 : Int32) : ¬ (p1 &&& (15 : Int32)) < 0 ∧ (p1 &&& (15 : Int32)).toNatClampNeg < upps.length := own_j p1
theorem own_hexF : ∀ k : Fin 128, F6_0 (Int32.ofNat k.val) = (-1 : Int32) ∨ (0 ≤ (F6_0 (Int32.ofNat k.val)).toInt ∧ (F6_0 (Int32.ofNat k.val)).toInt < 16 ∧ (Int32.ofNat k.val = chr (lows.getD (F6_0 (Int32.ofNat k.val)).toNatClampNeg 0) ∨ Int32.ofNat k.val = chr (upps.getD (F6_0 (Int32.ofNat k.val)).toNatClampNeg 0))) := by decide +kernel
theorem own_37 (p0 : Int32) (h : p0.toInt < 0 ∨ 128 ≤ p0.toInt) : F6_37 p0 = (-1 : Int32) := by
  by_cases h1 : p0.toInt < 0
  · exact if_pos (own_lt (z := 65) rfl (by omega))
  · rw [show F6_37 p0 = F6_43 p0 from if_neg (own_nlt (z := 65) rfl (by omega))]; exact if_pos (own_gt (z := 70) rfl (by omega))
theorem own_17 (p0 : Int32) (h : p0.toInt < 0 ∨ 128 ≤ p0.toInt) : F6_17 p0 = (-1 : Int32) := by
  by_cases h1 : p0.toInt < 0
  · rw [show F6_17 p0 = F6_37 p0 from if_pos (own_lt (z := 97) rfl (by omega)), own_37 p0 h]
  · rw [show F6_17 p0 = F6_23 p0 from if_neg (own_nlt (z := 97) rfl (by omega)), show F6_23 p0 = F6_37 p0 from if_pos (own_gt (z := 102) rfl (by omega)), own_37 p0 h]
theorem own_out (p0 : Int32) (h : p0.toInt < 0 ∨ 128 ≤ p0.toInt) : F6_0 p0 = (-1 : Int32) := by
  by_cases h1 : p0.toInt < 0
  · rw [show F6_0 p0 = F6_17 p0 from if_pos (own_lt (z := 48) rfl (by omega)), own_17 p0 h]
  · rw [show F6_0 p0 = F6_6 p0 from if_neg (own_nlt (z := 48) rfl (by omega)), show F6_6 p0 = F6_17 p0 from if_pos (own_gt (z := 57) rfl (by omega)), own_17 p0 h]
theorem own_hex (p0 : Int32) (h : ¬ (F6_0 p0) = (-1 : Int32)) : 0 ≤ (F6_0 p0).toInt ∧ (F6_0 p0).toInt < 16 ∧ (p0 = chr (lows.getD (F6_0 p0).toNatClampNeg 0) ∨ p0 = chr (upps.getD (F6_0 p0).toNatClampNeg 0)) := by
  by_cases hr : 0 ≤ p0.toInt ∧ p0.toInt < 128
  · obtain ⟨k, rfl⟩ := own_nat p0 128 hr (by decide)
    exact (own_hexF k).resolve_left h
  · exact absurd (own_out p0 (by omega)) h
theorem own_s1 (p0 : Int32) (h : ¬ (F6_0 p0) = (-1 : Int32)) : ¬ (F6_0 p0) < (0 : Int32) := by
  have a := own_hex p0 h
  rw [Int32.lt_iff_toInt_lt]; show ¬ _ < (0 : Int); omega
theorem own_s2 (p0 : Int32) (h : ¬ (F6_0 p0) = (-1 : Int32)) : (F6_0 p0).toInt < (16 : Int32).toInt := (own_hex p0 h).2.1
theorem own_le (p0 : Int32) (h : ¬ (F6_0 p0) = (-1 : Int32)) : ¬ (15 : Int32) < (F6_0 p0) := by
  have a := own_hex p0 h
  rw [Int32.lt_iff_toInt_lt]; show ¬ (15 : Int) < _; omega
theorem own_k (p0 : Int32) (h : ¬ (F6_0 p0) = (-1 : Int32)) : ¬ (F6_0 p0) < 0 ∧ (F6_0 p0).toNatClampNeg < 16 := by
  have a := own_hex p0 h
  refine ⟨own_s1 p0 h, ?_⟩
  show (F6_0 p0).toInt.toNat < 16
  omega
theorem own_k_lows (p0 : Int32) (h : ¬ (F6_0 p0) = (-1 : Int32)) : ¬ (F6_0 p0) < 0 ∧ (F6_0 p0).toNatClampNeg < lows.length := own_k p0 h
theorem own_k_upps (p0 : Int32) (h : ¬ (F6_0 p0) = (-1 : Int32)) : ¬ (F6_0 p0) < 0 ∧ (F6_0 p0).toNatClampNeg < upps.length := own_k p0 h
theorem own_last (p0 : Int32) (h : ¬ (F6_0 p0) = (-1 : Int32)) (h2 : ¬ p0 = (chr (lows.getD (F6_0 p0).toNatClampNeg 0))) : p0 = (chr (upps.getD (F6_0 p0).toNatClampNeg 0)) := (own_hex p0 h).2.2.resolve_left h2

theorem pn_0 : plainName "com/example/triplewright/triplewright/rdf/TextScannerHexValuePinLaw" = true := by first | (simp [plainName, overriddenIn]; done) | decide +kernel
theorem ef_0 (m : MethodId) (p0 : Int32) (p1 : Int32) : entryFrame m #[(.int p0), (.int p1)] maxLocals = mkF m 0 #[.val (.int p0), .val (.int p1), .unset, .unset, .unset, .unset] [] := by first | (simp [entryFrame, mkF, argsToLocals, Value.category, maxLocals]; done) | rfl
def Q_rm0a (Z : State) (p0 : Int32) (p1 : Int32) (c1 : Int32) (v2 : Value) (h0 : Heap) (n0 : Nat) (v : Option Value) (h : Heap) (L : List Loc) : Prop := (v = some (.int (1 : Int32)) ∧ Fr n0 L)
set_option maxRecDepth 65536 in
set_option maxHeartbeats 40000000 in
theorem rm0a (l : Launch) (Z : State) (a0 : Array Value) (hw : ∀ d ∈ tables_1, d.before a0 Z = true) (ws : List Jvm.Cond) (p0 : Int32) (p1 : Int32) (c1 : Int32) (v2 : Value) (h0 : Heap) (n0 : Nat) (Z0 : n0 ≤ h0.size) (hH0 : h0 = Z.heap) (hcw : Jvm.Lit.compactW.before a0 Z = true) (hh1 : Jvm.Lit.constHeld Z "com/example/triplewright/triplewright/rdf/TextScannerHexValuePinLaw" 7) (hh2 : Jvm.Lit.constHeld Z "com/example/triplewright/triplewright/rdf/TextScannerHexValuePinLaw" 9) (St1 : Sta Z h0 "java/lang/String" "COMPACT_STRINGS" "Z" (.int c1)) (hc1 : ¬ c1 = (0 : Int32)) (St2 : Sta Z h0 "jdk/internal/util/Preconditions" "SIOOBE_FORMATTER" "Ljava/util/function/BiFunction;" v2) (hv : v2.isRef = true) (hc53 : (F6_0 p0) = (-1 : Int32)) :
    MetFree l x (head1 (Jvm.Cond.code x code maxLocals ret :: ws) room_1) (fun a U => a = #[(.int p0), (.int p1)] ∧ Z.Warmed39 U.vm ∧ U.heap = h0 ∧ U.vm = Z.vm) (fun _ _ _ _ _ => True) (fun _ U o U' => ∃ v L, o = .returned v ∧ Q_rm0a Z p0 p1 c1 v2 h0 n0 v U'.heap L ∧ ReturnedEndW U o U' L room_1.cells room_1.slots) := by
  refine MetFree.of_bodySF (plainFor_of_name pn_0) hisR ?_
  intro p e s m args below meth c s₁ Bd hml0 hP hK
  obtain ⟨rfl, hZ, hh, hvm⟩ := hP
  have hx := Bd.exec
  have hby := Bd.bytes
  have hml : c.maxLocals = 6 := hml0
  have hown : s.vm.findClass "com/example/triplewright/triplewright/rdf/TextScannerHexValuePinLaw" = some m.cls := findClass_of_methodNamed Bd.named
  have hnm := (name_of_methodNamed Bd.named Bd.method).1
  have X0 : Stand p l e room_1 s m #[(.int p0), (.int p1)] below meth c s₁ [] 0 0 := Stand.of_body Bd
  have e0 : s₁.heap = h0 := by rw [← hh, Bd.state]; rfl
  have N0 := Fr.nil n0
  have pre0 : ∀ t, Steps p.tables e below (s₁.setTop (mkF m 0 #[.val (.int p0), .val (.int p1), .unset, .unset, .unset, .unset] [])) t → Steps p.tables e below (s₁.setTop (entryFrame m #[(.int p0), (.int p1)] maxLocals)) t := fun t k => castTop (ef_0 m p0 p1) k
  obtain ⟨b1, T1, h1, k1, vb1, kl1, X1, e1, E1, S1, kp1, hZ1, hown1, Es1, Fc1, Fv1, Av1, -, -, I1, st1⟩ := ldcSV (s := s) (vm0 := s.vm) X0 hx hZ hown (hw _ (List.mem_of_getElem? (i := 0) rfl)) (fun d hd => hw d (own_strw d hd)) e0 ((State.WarmedH.refl s).since 0) (Nat.zero_le _) (Fr.nil _) (fun b cl q => by rw [hh, hH0]; exact q) (show IB Z s.vm [] from by rw [hvm]; exact IB.start) (by decide) hh1 hcw (vs := lows.map Value.int) (z := 16) (by decide) (by decide) (by decide) (g := (mkF m 0 #[.val (.int p0), .val (.int p1), .unset, .unset, .unset, .unset] [])) rfl (hb hby at_0) (n := 64) (by decide) (by decide) (by decide) (by decide)
  have f1_S_java_lang_String_COMPACT_STRINGS : Sta Z h1 "java/lang/String" "COMPACT_STRINGS" "Z" (.int c1) := St1.ext E1
  have f1_S_jdk_internal_util_Preconditions_SIOOBE_FORMATTER : Sta Z h1 "jdk/internal/util/Preconditions" "SIOOBE_FORMATTER" "Ljava/util/function/BiFunction;" v2 := St2.ext E1
  have Z1 : n0 ≤ Array.size h1 := Nat.le_trans Z0 E1.1
  have Vl1 : ArrL .byte Z h1 vb1 lows := ArrL.ofArv Av1 (by decide)
  obtain ⟨b2, T2, h2, k2, vb2, kl2, X2, e2, E2, S2, kp2, hZ2, hown2, Es2, Fc2, Fv2, Av2, -, -, I2, st2⟩ := ldcSV (s := s) (vm0 := T1.vm) X1 hx hZ1 hown1 (hw _ (List.mem_of_getElem? (i := 8) rfl)) (fun d hd => hw d (own_strw d hd)) e1 S1 kp1 (Fr.nil _) (fun b cl q => by rw [hh, hH0]; exact q) I1 (by decide) hh2 hcw (vs := upps.map Value.int) (z := 16) (by decide) (by decide) (by decide) (g := (mkF m 3 #[.val (.int p0), .val (.int p1), .val (.ref b1), .unset, .unset, .unset] [])) rfl (hb hby at_3) (n := 64) (by decide) (by decide) (by decide) (by decide)
  have f2_S_java_lang_String_COMPACT_STRINGS : Sta Z h2 "java/lang/String" "COMPACT_STRINGS" "Z" (.int c1) := f1_S_java_lang_String_COMPACT_STRINGS.ext E2
  have f2_S_jdk_internal_util_Preconditions_SIOOBE_FORMATTER : Sta Z h2 "jdk/internal/util/Preconditions" "SIOOBE_FORMATTER" "Ljava/util/function/BiFunction;" v2 := f1_S_jdk_internal_util_Preconditions_SIOOBE_FORMATTER.ext E2
  have f2_E_b1 : Exa Z h2 b1 "java/lang/String" := Es1.ext E2
  have f2_F_b1_coder : Fld Z h2 b1 "java/lang/String" "coder" "B" (.int (0 : Int32)) := Fc1.ext E2
  have f2_F_b1_value : Fld Z h2 b1 "java/lang/String" "value" "[B" (.ref vb1) := Fv1.ext E2
  have f2_V_vb1 : ArrL .byte Z h2 vb1 lows := Vl1.ext E2
  have Z2 : n0 ≤ Array.size h2 := Nat.le_trans Z1 E2.1
  have Vl2 : ArrL .byte Z h2 vb2 upps := ArrL.ofArv Av2 (by decide)
  obtain ⟨cq3, kq3, q3a, q3b, q3c⟩ := isOf hZ2 e2 f2_E_b1
  obtain ⟨_, _, ⟨T3, L3, k3, n3⟩, -, X3, ⟨Lc3, hQ3, l3, y3, z3⟩, st3⟩ := X2.virtualBack hx (y := (⟨"java/lang/String", "charAt", "(I)C"⟩ : MethodName)) (z := (⟨"java/lang/String", "charAt", "(I)C"⟩ : MethodName)) hown2 (mvT hZ2 (hw _ (List.mem_of_getElem? (i := 9) rfl))) (mvT hZ2 (hw _ (List.mem_of_getElem? (i := 10) rfl))) (notFace_of_selects (args := #[]) (mvT hZ2 (hw _ (List.mem_of_getElem? (i := 12) rfl)))) (mvT hZ2 (hw _ (List.mem_of_getElem? (i := 12) rfl))) (mvT hZ2 (hw _ (List.mem_of_getElem? (i := 11) rfl))) (by decide) (backOf (W := 0) (rm1 l Z a0 hw [] b1 (p1 &&& (15 : Int32)) vb1 c1 v2 lows (16 : Int32) h2 n0 Z2 f2_E_b1 f2_S_java_lang_String_COMPACT_STRINGS hc1 f2_F_b1_coder f2_F_b1_value f2_S_jdk_internal_util_Preconditions_SIOOBE_FORMATTER hv f2_V_vb1 (by decide) (own_q1 p1) (own_q2 p1) (own_j_lows p1)) hZ2 (hw _ (List.mem_of_getElem? (i := 13) rfl)) (hw _ (List.mem_of_getElem? (i := 1) rfl)) (by decide) (by decide)) q3a q3c (g := (mkF m 15 #[.val (.int p0), .val (.int p1), .val (.ref b1), .val (.ref b2), .val (.int (p1 &&& (15 : Int32))), .unset] [(.int (p1 &&& (15 : Int32))), (.ref b1)])) rfl (by rw [hml]; rfl) (Steps.refl _) (argsL := [(.int (p1 &&& (15 : Int32)))]) (rest := []) (lenOf pd4 rfl) rfl (by show 2 * 0 + _ ≤ _; exact Nat.le_of_eq rfl) (hb hby at_15) (fun _ _ => ⟨rfl, e2, (by decide : 4 + 0 ≤ _), (by decide : 136 + 0 ≤ _)⟩)
  dsimp only [Pt.U, Pt.locs, Pt.cells, Pt.slots] at X3 l3 y3 z3 st3 hQ3
  subst l3 y3 z3
  obtain ⟨rfl, N3q, e3⟩ := hQ3
  have N3 := Fr.app N0 N3q
  obtain ⟨_, _, ⟨T4, L4, k4, n4⟩, -, X4, ⟨Lc4, hQ4, l4, y4, z4⟩, st4⟩ := Jvm.LawKit.callS X3 hx (y := (⟨"com/example/triplewright/triplewright/rdf/TextScanner", "hexValue", "(I)I"⟩ : MethodName)) hown2 (mvT hZ2 (hw _ (List.mem_of_getElem? (i := 34) rfl))) (mvT hZ2 (hw _ (List.mem_of_getElem? (i := 35) rfl))) (mvT hZ2 (hw _ (List.mem_of_getElem? (i := 36) rfl))) (mvT hZ2 (hw _ (List.mem_of_getElem? (i := 37) rfl))) (by decide) (backOf (W := 0) (rm6 l Z a0 hw [] (chr (lows.getD (p1 &&& (15 : Int32)).toNatClampNeg 0)) h2 n0 Z2) hZ2 (hw _ (List.mem_of_getElem? (i := 37) rfl)) (hw _ (List.mem_of_getElem? (i := 36) rfl)) (by decide) (by decide)) (g := (mkF m 18 #[.val (.int p0), .val (.int p1), .val (.ref b1), .val (.ref b2), .val (.int (p1 &&& (15 : Int32))), .unset] [(.int (chr (lows.getD (p1 &&& (15 : Int32)).toNatClampNeg 0)))])) rfl (by rw [hml]; rfl) (argsL := [(.int (chr (lows.getD (p1 &&& (15 : Int32)).toNatClampNeg 0)))]) (rest := []) (lenOf pd5 rfl) rfl (by show 2 * 0 + _ ≤ _; exact Nat.le_of_eq rfl) (hb hby at_18) (fun _ _ => ⟨rfl, e3, (by decide : 4 + 0 ≤ _), (by decide : 136 + 0 ≤ _)⟩)
  dsimp only [Pt.U, Pt.locs, Pt.cells, Pt.slots] at X4 l4 y4 z4 st4 hQ4
  subst l4 y4 z4
  obtain ⟨rfl, N4q, e4⟩ := hQ4
  have N4 := Fr.app N3 N4q
  obtain ⟨cq5, kq5, q5a, q5b, q5c⟩ := isOf hZ2 e4 Es2
  obtain ⟨_, _, ⟨T5, L5, k5, n5⟩, -, X5, ⟨Lc5, hQ5, l5, y5, z5⟩, st5⟩ := X4.virtualBack hx (y := (⟨"java/lang/String", "charAt", "(I)C"⟩ : MethodName)) (z := (⟨"java/lang/String", "charAt", "(I)C"⟩ : MethodName)) hown2 (mvT hZ2 (hw _ (List.mem_of_getElem? (i := 9) rfl))) (mvT hZ2 (hw _ (List.mem_of_getElem? (i := 10) rfl))) (notFace_of_selects (args := #[]) (mvT hZ2 (hw _ (List.mem_of_getElem? (i := 12) rfl)))) (mvT hZ2 (hw _ (List.mem_of_getElem? (i := 12) rfl))) (mvT hZ2 (hw _ (List.mem_of_getElem? (i := 11) rfl))) (by decide) (backOf (W := 0) (rm1 l Z a0 hw [] b2 (p1 &&& (15 : Int32)) vb2 c1 v2 upps (16 : Int32) h2 n0 Z2 Es2 f2_S_java_lang_String_COMPACT_STRINGS hc1 Fc2 Fv2 f2_S_jdk_internal_util_Preconditions_SIOOBE_FORMATTER hv Vl2 (by decide) (own_q1 p1) (own_q2 p1) (own_j_upps p1)) hZ2 (hw _ (List.mem_of_getElem? (i := 13) rfl)) (hw _ (List.mem_of_getElem? (i := 1) rfl)) (by decide) (by decide)) q5a q5c (g := (mkF m 31 #[.val (.int p0), .val (.int p1), .val (.ref b1), .val (.ref b2), .val (.int (p1 &&& (15 : Int32))), .unset] [(.int (p1 &&& (15 : Int32))), (.ref b2)])) rfl (by rw [hml]; rfl) (Steps.refl _) (argsL := [(.int (p1 &&& (15 : Int32)))]) (rest := []) (lenOf pd4 rfl) rfl (by show 2 * 0 + _ ≤ _; exact Nat.le_of_eq rfl) (hb hby at_31) (fun _ _ => ⟨rfl, e4, (by decide : 4 + 0 ≤ _), (by decide : 136 + 0 ≤ _)⟩)
  dsimp only [Pt.U, Pt.locs, Pt.cells, Pt.slots] at X5 l5 y5 z5 st5 hQ5
  subst l5 y5 z5
  obtain ⟨rfl, N5q, e5⟩ := hQ5
  have N5 := Fr.app N4 N5q
  obtain ⟨_, _, ⟨T6, L6, k6, n6⟩, -, X6, ⟨Lc6, hQ6, l6, y6, z6⟩, st6⟩ := Jvm.LawKit.callS X5 hx (y := (⟨"com/example/triplewright/triplewright/rdf/TextScanner", "hexValue", "(I)I"⟩ : MethodName)) hown2 (mvT hZ2 (hw _ (List.mem_of_getElem? (i := 34) rfl))) (mvT hZ2 (hw _ (List.mem_of_getElem? (i := 35) rfl))) (mvT hZ2 (hw _ (List.mem_of_getElem? (i := 36) rfl))) (mvT hZ2 (hw _ (List.mem_of_getElem? (i := 37) rfl))) (by decide) (backOf (W := 0) (rm6 l Z a0 hw [] (chr (upps.getD (p1 &&& (15 : Int32)).toNatClampNeg 0)) h2 n0 Z2) hZ2 (hw _ (List.mem_of_getElem? (i := 37) rfl)) (hw _ (List.mem_of_getElem? (i := 36) rfl)) (by decide) (by decide)) (g := (mkF m 34 #[.val (.int p0), .val (.int p1), .val (.ref b1), .val (.ref b2), .val (.int (p1 &&& (15 : Int32))), .unset] [(.int (chr (upps.getD (p1 &&& (15 : Int32)).toNatClampNeg 0)))])) rfl (by rw [hml]; rfl) (argsL := [(.int (chr (upps.getD (p1 &&& (15 : Int32)).toNatClampNeg 0)))]) (rest := []) (lenOf pd5 rfl) rfl (by show 2 * 0 + _ ≤ _; exact Nat.le_of_eq rfl) (hb hby at_34) (fun _ _ => ⟨rfl, e5, (by decide : 4 + 0 ≤ _), (by decide : 136 + 0 ≤ _)⟩)
  dsimp only [Pt.U, Pt.locs, Pt.cells, Pt.slots] at X6 l6 y6 z6 st6 hQ6
  subst l6 y6 z6
  obtain ⟨rfl, N6q, e6⟩ := hQ6
  have N6 := Fr.app N5 N6q
  obtain ⟨_, _, ⟨T7, L7, k7, n7⟩, -, X7, ⟨Lc7, hQ7, l7, y7, z7⟩, st7⟩ := Jvm.LawKit.callS X6 hx (y := (⟨"com/example/triplewright/triplewright/rdf/TextScanner", "hexValue", "(I)I"⟩ : MethodName)) hown2 (mvT hZ2 (hw _ (List.mem_of_getElem? (i := 34) rfl))) (mvT hZ2 (hw _ (List.mem_of_getElem? (i := 35) rfl))) (mvT hZ2 (hw _ (List.mem_of_getElem? (i := 36) rfl))) (mvT hZ2 (hw _ (List.mem_of_getElem? (i := 37) rfl))) (by decide) (backOf (W := 0) (rm6 l Z a0 hw [] p0 h2 n0 Z2) hZ2 (hw _ (List.mem_of_getElem? (i := 37) rfl)) (hw _ (List.mem_of_getElem? (i := 36) rfl)) (by decide) (by decide)) (g := (mkF m 45 #[.val (.int p0), .val (.int p1), .val (.ref b1), .val (.ref b2), .val (.int (p1 &&& (15 : Int32))), .unset] [(.int p0)])) rfl (by rw [hml]; rfl) (argsL := [(.int p0)]) (rest := []) (lenOf pd5 rfl) rfl (by show 2 * 0 + _ ≤ _; exact Nat.le_of_eq rfl) (hb hby at_45) (fun _ _ => ⟨rfl, e6, (by decide : 4 + 0 ≤ _), (by decide : 136 + 0 ≤ _)⟩)
  dsimp only [Pt.U, Pt.locs, Pt.cells, Pt.slots] at X7 l7 y7 z7 st7 hQ7
  subst l7 y7 z7
  obtain ⟨rfl, N7q, e7⟩ := hQ7
  have N7 := Fr.app N6 N7q
  obtain ⟨fs, hr, hrun, hended, hEnd⟩ := X7.leaveW (s := s) (vm₁ := T2.vm) S2 (by rw [e7]; exact kp2) (v := some (.int (1 : Int32))) (fun h => by rw [Bd.returns] at h; cases h)
  refine ⟨_, _, pre0 _ ?_, hrun, hended, _, _, rfl, ⟨rfl, N7⟩, hEnd.1, hEnd.2.1, hEnd.2.2.1, hEnd.2.2.2.mono (by decide) (by decide)⟩
  show Steps p.tables e below (s₁.setTop (mkF m 0 #[.val (.int p0), .val (.int p1), .unset, .unset, .unset, .unset] [])) _
  refine st1 _ ?_
  show Steps p.tables e below (T1.setTop (mkF m 2 #[.val (.int p0), .val (.int p1), .unset, .unset, .unset, .unset] [(.ref b1)])) _
  refine XS.astoreN X1.here hx rfl (hb hby at_2) rfl rfl (l' := #[.val (.int p0), .val (.int p1), .val (.ref b1), .unset, .unset, .unset]) rfl ?_
  show Steps p.tables e below (T1.setTop (mkF m 3 #[.val (.int p0), .val (.int p1), .val (.ref b1), .unset, .unset, .unset] [])) _
  refine st2 _ ?_
  show Steps p.tables e below (T2.setTop (mkF m 5 #[.val (.int p0), .val (.int p1), .val (.ref b1), .unset, .unset, .unset] [(.ref b2)])) _
  refine XS.astoreN X2.here hx rfl (hb hby at_5) rfl rfl (l' := #[.val (.int p0), .val (.int p1), .val (.ref b1), .val (.ref b2), .unset, .unset]) rfl ?_
  show Steps p.tables e below (T2.setTop (mkF m 6 #[.val (.int p0), .val (.int p1), .val (.ref b1), .val (.ref b2), .unset, .unset] [])) _
  refine XS.iloadN X2.here hx rfl (hb hby at_6) rfl ?_
  show Steps p.tables e below (T2.setTop (mkF m 7 #[.val (.int p0), .val (.int p1), .val (.ref b1), .val (.ref b2), .unset, .unset] [(.int p1)])) _
  refine XS.bipush X2.here hx rfl (hb hby at_7) ?_
  show Steps p.tables e below (T2.setTop (mkF m 9 #[.val (.int p0), .val (.int p1), .val (.ref b1), .val (.ref b2), .unset, .unset] [(.int (15 : Int32)), (.int p1)])) _
  refine XS.iand X2.here hx rfl (hb hby at_9) rfl ?_
  show Steps p.tables e below (T2.setTop (mkF m 10 #[.val (.int p0), .val (.int p1), .val (.ref b1), .val (.ref b2), .unset, .unset] [(.int (p1 &&& (15 : Int32)))])) _
  refine XS.istore X2.here hx rfl (hb hby at_10) rfl (l' := #[.val (.int p0), .val (.int p1), .val (.ref b1), .val (.ref b2), .val (.int (p1 &&& (15 : Int32))), .unset]) rfl ?_
  show Steps p.tables e below (T2.setTop (mkF m 12 #[.val (.int p0), .val (.int p1), .val (.ref b1), .val (.ref b2), .val (.int (p1 &&& (15 : Int32))), .unset] [])) _
  refine XS.aloadN X2.here hx rfl (hb hby at_12) rfl rfl ?_
  show Steps p.tables e below (T2.setTop (mkF m 13 #[.val (.int p0), .val (.int p1), .val (.ref b1), .val (.ref b2), .val (.int (p1 &&& (15 : Int32))), .unset] [(.ref b1)])) _
  refine XS.iload X2.here hx rfl (hb hby at_13) rfl ?_
  show Steps p.tables e below (T2.setTop (mkF m 15 #[.val (.int p0), .val (.int p1), .val (.ref b1), .val (.ref b2), .val (.int (p1 &&& (15 : Int32))), .unset] [(.int (p1 &&& (15 : Int32))), (.ref b1)])) _
  refine st3.trans ?_
  show Steps p.tables e below (T3.setTop (mkF m 18 #[.val (.int p0), .val (.int p1), .val (.ref b1), .val (.ref b2), .val (.int (p1 &&& (15 : Int32))), .unset] [(.int (chr (lows.getD (p1 &&& (15 : Int32)).toNatClampNeg 0)))])) _
  refine st4 _ ?_
  show Steps p.tables e below (T4.setTop (mkF m 21 #[.val (.int p0), .val (.int p1), .val (.ref b1), .val (.ref b2), .val (.int (p1 &&& (15 : Int32))), .unset] [(.int (F6_0 (chr (lows.getD (p1 &&& (15 : Int32)).toNatClampNeg 0))))])) _
  refine XS.iload X4.here hx rfl (hb hby at_21) rfl ?_
  show Steps p.tables e below (T4.setTop (mkF m 23 #[.val (.int p0), .val (.int p1), .val (.ref b1), .val (.ref b2), .val (.int (p1 &&& (15 : Int32))), .unset] [(.int (p1 &&& (15 : Int32))), (.int (F6_0 (chr (lows.getD (p1 &&& (15 : Int32)).toNatClampNeg 0))))])) _
  refine XS.icmpYes X4.here hx rfl (pc0 := 23) (pc' := 28) rfl (hb hby at_23) rfl (teq (own_low p1)).1 (by decide) (by decide) ?_
  show Steps p.tables e below (T4.setTop (mkF m 28 #[.val (.int p0), .val (.int p1), .val (.ref b1), .val (.ref b2), .val (.int (p1 &&& (15 : Int32))), .unset] [])) _
  refine XS.aloadN X4.here hx rfl (hb hby at_28) rfl rfl ?_
  show Steps p.tables e below (T4.setTop (mkF m 29 #[.val (.int p0), .val (.int p1), .val (.ref b1), .val (.ref b2), .val (.int (p1 &&& (15 : Int32))), .unset] [(.ref b2)])) _
  refine XS.iload X4.here hx rfl (hb hby at_29) rfl ?_
  show Steps p.tables e below (T4.setTop (mkF m 31 #[.val (.int p0), .val (.int p1), .val (.ref b1), .val (.ref b2), .val (.int (p1 &&& (15 : Int32))), .unset] [(.int (p1 &&& (15 : Int32))), (.ref b2)])) _
  refine st5.trans ?_
  show Steps p.tables e below (T5.setTop (mkF m 34 #[.val (.int p0), .val (.int p1), .val (.ref b1), .val (.ref b2), .val (.int (p1 &&& (15 : Int32))), .unset] [(.int (chr (upps.getD (p1 &&& (15 : Int32)).toNatClampNeg 0)))])) _
  refine st6 _ ?_
  show Steps p.tables e below (T6.setTop (mkF m 37 #[.val (.int p0), .val (.int p1), .val (.ref b1), .val (.ref b2), .val (.int (p1 &&& (15 : Int32))), .unset] [(.int (F6_0 (chr (upps.getD (p1 &&& (15 : Int32)).toNatClampNeg 0))))])) _
  refine XS.iload X6.here hx rfl (hb hby at_37) rfl ?_
  show Steps p.tables e below (T6.setTop (mkF m 39 #[.val (.int p0), .val (.int p1), .val (.ref b1), .val (.ref b2), .val (.int (p1 &&& (15 : Int32))), .unset] [(.int (p1 &&& (15 : Int32))), (.int (F6_0 (chr (upps.getD (p1 &&& (15 : Int32)).toNatClampNeg 0))))])) _
  refine XS.icmpYes X6.here hx rfl (pc0 := 39) (pc' := 44) rfl (hb hby at_39) rfl (teq (own_upp p1)).1 (by decide) (by decide) ?_
  show Steps p.tables e below (T6.setTop (mkF m 44 #[.val (.int p0), .val (.int p1), .val (.ref b1), .val (.ref b2), .val (.int (p1 &&& (15 : Int32))), .unset] [])) _
  refine XS.iloadN X6.here hx rfl (hb hby at_44) rfl ?_
  show Steps p.tables e below (T6.setTop (mkF m 45 #[.val (.int p0), .val (.int p1), .val (.ref b1), .val (.ref b2), .val (.int (p1 &&& (15 : Int32))), .unset] [(.int p0)])) _
  refine st7 _ ?_
  show Steps p.tables e below (T7.setTop (mkF m 48 #[.val (.int p0), .val (.int p1), .val (.ref b1), .val (.ref b2), .val (.int (p1 &&& (15 : Int32))), .unset] [(.int (F6_0 p0))])) _
  refine XS.istore X7.here hx rfl (hb hby at_48) rfl (l' := #[.val (.int p0), .val (.int p1), .val (.ref b1), .val (.ref b2), .val (.int (p1 &&& (15 : Int32))), .val (.int (F6_0 p0))]) rfl ?_
  show Steps p.tables e below (T7.setTop (mkF m 50 #[.val (.int p0), .val (.int p1), .val (.ref b1), .val (.ref b2), .val (.int (p1 &&& (15 : Int32))), .val (.int (F6_0 p0))] [])) _
  refine XS.iload X7.here hx rfl (hb hby at_50) rfl ?_
  show Steps p.tables e below (T7.setTop (mkF m 52 #[.val (.int p0), .val (.int p1), .val (.ref b1), .val (.ref b2), .val (.int (p1 &&& (15 : Int32))), .val (.int (F6_0 p0))] [(.int (F6_0 p0))])) _
  refine XS.iconst X7.here hx rfl (hb hby at_52) ?_
  show Steps p.tables e below (T7.setTop (mkF m 53 #[.val (.int p0), .val (.int p1), .val (.ref b1), .val (.ref b2), .val (.int (p1 &&& (15 : Int32))), .val (.int (F6_0 p0))] [(.int (-1 : Int32)), (.int (F6_0 p0))])) _
  refine XS.icmpNo X7.here hx rfl (hb hby at_53) rfl (teq hc53).2 ?_
  show Steps p.tables e below (T7.setTop (mkF m 56 #[.val (.int p0), .val (.int p1), .val (.ref b1), .val (.ref b2), .val (.int (p1 &&& (15 : Int32))), .val (.int (F6_0 p0))] [])) _
  refine XS.iconst X7.here hx rfl (hb hby at_56) ?_
  show Steps p.tables e below (T7.setTop (mkF m 57 #[.val (.int p0), .val (.int p1), .val (.ref b1), .val (.ref b2), .val (.int (p1 &&& (15 : Int32))), .val (.int (F6_0 p0))] [(.int (1 : Int32))])) _
  exact retN X7 hx (t := .boolean) Bd.returns (by simp) (hb hby at_57) hr
def Q_rm0b (Z : State) (p0 : Int32) (p1 : Int32) (c1 : Int32) (v2 : Value) (h0 : Heap) (n0 : Nat) (v : Option Value) (h : Heap) (L : List Loc) : Prop := (v = some (.int (1 : Int32)) ∧ Fr n0 L)
set_option maxRecDepth 65536 in
set_option maxHeartbeats 40000000 in
theorem rm0b (l : Launch) (Z : State) (a0 : Array Value) (hw : ∀ d ∈ tables_1, d.before a0 Z = true) (ws : List Jvm.Cond) (p0 : Int32) (p1 : Int32) (c1 : Int32) (v2 : Value) (h0 : Heap) (n0 : Nat) (Z0 : n0 ≤ h0.size) (hH0 : h0 = Z.heap) (hcw : Jvm.Lit.compactW.before a0 Z = true) (hh1 : Jvm.Lit.constHeld Z "com/example/triplewright/triplewright/rdf/TextScannerHexValuePinLaw" 7) (hh2 : Jvm.Lit.constHeld Z "com/example/triplewright/triplewright/rdf/TextScannerHexValuePinLaw" 9) (St1 : Sta Z h0 "java/lang/String" "COMPACT_STRINGS" "Z" (.int c1)) (hc1 : ¬ c1 = (0 : Int32)) (St2 : Sta Z h0 "jdk/internal/util/Preconditions" "SIOOBE_FORMATTER" "Ljava/util/function/BiFunction;" v2) (hv : v2.isRef = true) (hc53 : ¬ ((F6_0 p0) = (-1 : Int32))) (hc79 : p0 = (chr (lows.getD (F6_0 p0).toNatClampNeg 0))) :
    MetFree l x (head1 (Jvm.Cond.code x code maxLocals ret :: ws) room_1) (fun a U => a = #[(.int p0), (.int p1)] ∧ Z.Warmed39 U.vm ∧ U.heap = h0 ∧ U.vm = Z.vm) (fun _ _ _ _ _ => True) (fun _ U o U' => ∃ v L, o = .returned v ∧ Q_rm0b Z p0 p1 c1 v2 h0 n0 v U'.heap L ∧ ReturnedEndW U o U' L room_1.cells room_1.slots) := by
  refine MetFree.of_bodySF (plainFor_of_name pn_0) hisR ?_
  intro p e s m args below meth c s₁ Bd hml0 hP hK
  obtain ⟨rfl, hZ, hh, hvm⟩ := hP
  have hx := Bd.exec
  have hby := Bd.bytes
  have hml : c.maxLocals = 6 := hml0
  have hown : s.vm.findClass "com/example/triplewright/triplewright/rdf/TextScannerHexValuePinLaw" = some m.cls := findClass_of_methodNamed Bd.named
  have hnm := (name_of_methodNamed Bd.named Bd.method).1
  have X0 : Stand p l e room_1 s m #[(.int p0), (.int p1)] below meth c s₁ [] 0 0 := Stand.of_body Bd
  have e0 : s₁.heap = h0 := by rw [← hh, Bd.state]; rfl
  have N0 := Fr.nil n0
  have pre0 : ∀ t, Steps p.tables e below (s₁.setTop (mkF m 0 #[.val (.int p0), .val (.int p1), .unset, .unset, .unset, .unset] [])) t → Steps p.tables e below (s₁.setTop (entryFrame m #[(.int p0), (.int p1)] maxLocals)) t := fun t k => castTop (ef_0 m p0 p1) k
  obtain ⟨b1, T1, h1, k1, vb1, kl1, X1, e1, E1, S1, kp1, hZ1, hown1, Es1, Fc1, Fv1, Av1, -, -, I1, st1⟩ := ldcSV (s := s) (vm0 := s.vm) X0 hx hZ hown (hw _ (List.mem_of_getElem? (i := 0) rfl)) (fun d hd => hw d (own_strw d hd)) e0 ((State.WarmedH.refl s).since 0) (Nat.zero_le _) (Fr.nil _) (fun b cl q => by rw [hh, hH0]; exact q) (show IB Z s.vm [] from by rw [hvm]; exact IB.start) (by decide) hh1 hcw (vs := lows.map Value.int) (z := 16) (by decide) (by decide) (by decide) (g := (mkF m 0 #[.val (.int p0), .val (.int p1), .unset, .unset, .unset, .unset] [])) rfl (hb hby at_0) (n := 64) (by decide) (by decide) (by decide) (by decide)
  have f1_S_java_lang_String_COMPACT_STRINGS : Sta Z h1 "java/lang/String" "COMPACT_STRINGS" "Z" (.int c1) := St1.ext E1
  have f1_S_jdk_internal_util_Preconditions_SIOOBE_FORMATTER : Sta Z h1 "jdk/internal/util/Preconditions" "SIOOBE_FORMATTER" "Ljava/util/function/BiFunction;" v2 := St2.ext E1
  have Z1 : n0 ≤ Array.size h1 := Nat.le_trans Z0 E1.1
  have Vl1 : ArrL .byte Z h1 vb1 lows := ArrL.ofArv Av1 (by decide)
  obtain ⟨b2, T2, h2, k2, vb2, kl2, X2, e2, E2, S2, kp2, hZ2, hown2, Es2, Fc2, Fv2, Av2, -, -, I2, st2⟩ := ldcSV (s := s) (vm0 := T1.vm) X1 hx hZ1 hown1 (hw _ (List.mem_of_getElem? (i := 8) rfl)) (fun d hd => hw d (own_strw d hd)) e1 S1 kp1 (Fr.nil _) (fun b cl q => by rw [hh, hH0]; exact q) I1 (by decide) hh2 hcw (vs := upps.map Value.int) (z := 16) (by decide) (by decide) (by decide) (g := (mkF m 3 #[.val (.int p0), .val (.int p1), .val (.ref b1), .unset, .unset, .unset] [])) rfl (hb hby at_3) (n := 64) (by decide) (by decide) (by decide) (by decide)
  have f2_S_java_lang_String_COMPACT_STRINGS : Sta Z h2 "java/lang/String" "COMPACT_STRINGS" "Z" (.int c1) := f1_S_java_lang_String_COMPACT_STRINGS.ext E2
  have f2_S_jdk_internal_util_Preconditions_SIOOBE_FORMATTER : Sta Z h2 "jdk/internal/util/Preconditions" "SIOOBE_FORMATTER" "Ljava/util/function/BiFunction;" v2 := f1_S_jdk_internal_util_Preconditions_SIOOBE_FORMATTER.ext E2
  have f2_E_b1 : Exa Z h2 b1 "java/lang/String" := Es1.ext E2
  have f2_F_b1_coder : Fld Z h2 b1 "java/lang/String" "coder" "B" (.int (0 : Int32)) := Fc1.ext E2
  have f2_F_b1_value : Fld Z h2 b1 "java/lang/String" "value" "[B" (.ref vb1) := Fv1.ext E2
  have f2_V_vb1 : ArrL .byte Z h2 vb1 lows := Vl1.ext E2
  have Z2 : n0 ≤ Array.size h2 := Nat.le_trans Z1 E2.1
  have Vl2 : ArrL .byte Z h2 vb2 upps := ArrL.ofArv Av2 (by decide)
  obtain ⟨cq3, kq3, q3a, q3b, q3c⟩ := isOf hZ2 e2 f2_E_b1
  obtain ⟨_, _, ⟨T3, L3, k3, n3⟩, -, X3, ⟨Lc3, hQ3, l3, y3, z3⟩, st3⟩ := X2.virtualBack hx (y := (⟨"java/lang/String", "charAt", "(I)C"⟩ : MethodName)) (z := (⟨"java/lang/String", "charAt", "(I)C"⟩ : MethodName)) hown2 (mvT hZ2 (hw _ (List.mem_of_getElem? (i := 9) rfl))) (mvT hZ2 (hw _ (List.mem_of_getElem? (i := 10) rfl))) (notFace_of_selects (args := #[]) (mvT hZ2 (hw _ (List.mem_of_getElem? (i := 12) rfl)))) (mvT hZ2 (hw _ (List.mem_of_getElem? (i := 12) rfl))) (mvT hZ2 (hw _ (List.mem_of_getElem? (i := 11) rfl))) (by decide) (backOf (W := 0) (rm1 l Z a0 hw [] b1 (p1 &&& (15 : Int32)) vb1 c1 v2 lows (16 : Int32) h2 n0 Z2 f2_E_b1 f2_S_java_lang_String_COMPACT_STRINGS hc1 f2_F_b1_coder f2_F_b1_value f2_S_jdk_internal_util_Preconditions_SIOOBE_FORMATTER hv f2_V_vb1 (by decide) (own_q1 p1) (own_q2 p1) (own_j_lows p1)) hZ2 (hw _ (List.mem_of_getElem? (i := 13) rfl)) (hw _ (List.mem_of_getElem? (i := 1) rfl)) (by decide) (by decide)) q3a q3c (g := (mkF m 15 #[.val (.int p0), .val (.int p1), .val (.ref b1), .val (.ref b2), .val (.int (p1 &&& (15 : Int32))), .unset] [(.int (p1 &&& (15 : Int32))), (.ref b1)])) rfl (by rw [hml]; rfl) (Steps.refl _) (argsL := [(.int (p1 &&& (15 : Int32)))]) (rest := []) (lenOf pd4 rfl) rfl (by show 2 * 0 + _ ≤ _; exact Nat.le_of_eq rfl) (hb hby at_15) (fun _ _ => ⟨rfl, e2, (by decide : 4 + 0 ≤ _), (by decide : 136 + 0 ≤ _)⟩)
  dsimp only [Pt.U, Pt.locs, Pt.cells, Pt.slots] at X3 l3 y3 z3 st3 hQ3
  subst l3 y3 z3
  obtain ⟨rfl, N3q, e3⟩ := hQ3
  have N3 := Fr.app N0 N3q
  obtain ⟨_, _, ⟨T4, L4, k4, n4⟩, -, X4, ⟨Lc4, hQ4, l4, y4, z4⟩, st4⟩ := Jvm.LawKit.callS X3 hx (y := (⟨"com/example/triplewright/triplewright/rdf/TextScanner", "hexValue", "(I)I"⟩ : MethodName)) hown2 (mvT hZ2 (hw _ (List.mem_of_getElem? (i := 34) rfl))) (mvT hZ2 (hw _ (List.mem_of_getElem? (i := 35) rfl))) (mvT hZ2 (hw _ (List.mem_of_getElem? (i := 36) rfl))) (mvT hZ2 (hw _ (List.mem_of_getElem? (i := 37) rfl))) (by decide) (backOf (W := 0) (rm6 l Z a0 hw [] (chr (lows.getD (p1 &&& (15 : Int32)).toNatClampNeg 0)) h2 n0 Z2) hZ2 (hw _ (List.mem_of_getElem? (i := 37) rfl)) (hw _ (List.mem_of_getElem? (i := 36) rfl)) (by decide) (by decide)) (g := (mkF m 18 #[.val (.int p0), .val (.int p1), .val (.ref b1), .val (.ref b2), .val (.int (p1 &&& (15 : Int32))), .unset] [(.int (chr (lows.getD (p1 &&& (15 : Int32)).toNatClampNeg 0)))])) rfl (by rw [hml]; rfl) (argsL := [(.int (chr (lows.getD (p1 &&& (15 : Int32)).toNatClampNeg 0)))]) (rest := []) (lenOf pd5 rfl) rfl (by show 2 * 0 + _ ≤ _; exact Nat.le_of_eq rfl) (hb hby at_18) (fun _ _ => ⟨rfl, e3, (by decide : 4 + 0 ≤ _), (by decide : 136 + 0 ≤ _)⟩)
  dsimp only [Pt.U, Pt.locs, Pt.cells, Pt.slots] at X4 l4 y4 z4 st4 hQ4
  subst l4 y4 z4
  obtain ⟨rfl, N4q, e4⟩ := hQ4
  have N4 := Fr.app N3 N4q
  obtain ⟨cq5, kq5, q5a, q5b, q5c⟩ := isOf hZ2 e4 Es2
  obtain ⟨_, _, ⟨T5, L5, k5, n5⟩, -, X5, ⟨Lc5, hQ5, l5, y5, z5⟩, st5⟩ := X4.virtualBack hx (y := (⟨"java/lang/String", "charAt", "(I)C"⟩ : MethodName)) (z := (⟨"java/lang/String", "charAt", "(I)C"⟩ : MethodName)) hown2 (mvT hZ2 (hw _ (List.mem_of_getElem? (i := 9) rfl))) (mvT hZ2 (hw _ (List.mem_of_getElem? (i := 10) rfl))) (notFace_of_selects (args := #[]) (mvT hZ2 (hw _ (List.mem_of_getElem? (i := 12) rfl)))) (mvT hZ2 (hw _ (List.mem_of_getElem? (i := 12) rfl))) (mvT hZ2 (hw _ (List.mem_of_getElem? (i := 11) rfl))) (by decide) (backOf (W := 0) (rm1 l Z a0 hw [] b2 (p1 &&& (15 : Int32)) vb2 c1 v2 upps (16 : Int32) h2 n0 Z2 Es2 f2_S_java_lang_String_COMPACT_STRINGS hc1 Fc2 Fv2 f2_S_jdk_internal_util_Preconditions_SIOOBE_FORMATTER hv Vl2 (by decide) (own_q1 p1) (own_q2 p1) (own_j_upps p1)) hZ2 (hw _ (List.mem_of_getElem? (i := 13) rfl)) (hw _ (List.mem_of_getElem? (i := 1) rfl)) (by decide) (by decide)) q5a q5c (g := (mkF m 31 #[.val (.int p0), .val (.int p1), .val (.ref b1), .val (.ref b2), .val (.int (p1 &&& (15 : Int32))), .unset] [(.int (p1 &&& (15 : Int32))), (.ref b2)])) rfl (by rw [hml]; rfl) (Steps.refl _) (argsL := [(.int (p1 &&& (15 : Int32)))]) (rest := []) (lenOf pd4 rfl) rfl (by show 2 * 0 + _ ≤ _; exact Nat.le_of_eq rfl) (hb hby at_31) (fun _ _ => ⟨rfl, e4, (by decide : 4 + 0 ≤ _), (by decide : 136 + 0 ≤ _)⟩)
  dsimp only [Pt.U, Pt.locs, Pt.cells, Pt.slots] at X5 l5 y5 z5 st5 hQ5
  subst l5 y5 z5
  obtain ⟨rfl, N5q, e5⟩ := hQ5
  have N5 := Fr.app N4 N5q
  obtain ⟨_, _, ⟨T6, L6, k6, n6⟩, -, X6, ⟨Lc6, hQ6, l6, y6, z6⟩, st6⟩ := Jvm.LawKit.callS X5 hx (y := (⟨"com/example/triplewright/triplewright/rdf/TextScanner", "hexValue", "(I)I"⟩ : MethodName)) hown2 (mvT hZ2 (hw _ (List.mem_of_getElem? (i := 34) rfl))) (mvT hZ2 (hw _ (List.mem_of_getElem? (i := 35) rfl))) (mvT hZ2 (hw _ (List.mem_of_getElem? (i := 36) rfl))) (mvT hZ2 (hw _ (List.mem_of_getElem? (i := 37) rfl))) (by decide) (backOf (W := 0) (rm6 l Z a0 hw [] (chr (upps.getD (p1 &&& (15 : Int32)).toNatClampNeg 0)) h2 n0 Z2) hZ2 (hw _ (List.mem_of_getElem? (i := 37) rfl)) (hw _ (List.mem_of_getElem? (i := 36) rfl)) (by decide) (by decide)) (g := (mkF m 34 #[.val (.int p0), .val (.int p1), .val (.ref b1), .val (.ref b2), .val (.int (p1 &&& (15 : Int32))), .unset] [(.int (chr (upps.getD (p1 &&& (15 : Int32)).toNatClampNeg 0)))])) rfl (by rw [hml]; rfl) (argsL := [(.int (chr (upps.getD (p1 &&& (15 : Int32)).toNatClampNeg 0)))]) (rest := []) (lenOf pd5 rfl) rfl (by show 2 * 0 + _ ≤ _; exact Nat.le_of_eq rfl) (hb hby at_34) (fun _ _ => ⟨rfl, e5, (by decide : 4 + 0 ≤ _), (by decide : 136 + 0 ≤ _)⟩)
  dsimp only [Pt.U, Pt.locs, Pt.cells, Pt.slots] at X6 l6 y6 z6 st6 hQ6
  subst l6 y6 z6
  obtain ⟨rfl, N6q, e6⟩ := hQ6
  have N6 := Fr.app N5 N6q
  obtain ⟨_, _, ⟨T7, L7, k7, n7⟩, -, X7, ⟨Lc7, hQ7, l7, y7, z7⟩, st7⟩ := Jvm.LawKit.callS X6 hx (y := (⟨"com/example/triplewright/triplewright/rdf/TextScanner", "hexValue", "(I)I"⟩ : MethodName)) hown2 (mvT hZ2 (hw _ (List.mem_of_getElem? (i := 34) rfl))) (mvT hZ2 (hw _ (List.mem_of_getElem? (i := 35) rfl))) (mvT hZ2 (hw _ (List.mem_of_getElem? (i := 36) rfl))) (mvT hZ2 (hw _ (List.mem_of_getElem? (i := 37) rfl))) (by decide) (backOf (W := 0) (rm6 l Z a0 hw [] p0 h2 n0 Z2) hZ2 (hw _ (List.mem_of_getElem? (i := 37) rfl)) (hw _ (List.mem_of_getElem? (i := 36) rfl)) (by decide) (by decide)) (g := (mkF m 45 #[.val (.int p0), .val (.int p1), .val (.ref b1), .val (.ref b2), .val (.int (p1 &&& (15 : Int32))), .unset] [(.int p0)])) rfl (by rw [hml]; rfl) (argsL := [(.int p0)]) (rest := []) (lenOf pd5 rfl) rfl (by show 2 * 0 + _ ≤ _; exact Nat.le_of_eq rfl) (hb hby at_45) (fun _ _ => ⟨rfl, e6, (by decide : 4 + 0 ≤ _), (by decide : 136 + 0 ≤ _)⟩)
  dsimp only [Pt.U, Pt.locs, Pt.cells, Pt.slots] at X7 l7 y7 z7 st7 hQ7
  subst l7 y7 z7
  obtain ⟨rfl, N7q, e7⟩ := hQ7
  have N7 := Fr.app N6 N7q
  obtain ⟨cq8, kq8, q8a, q8b, q8c⟩ := isOf hZ2 e7 f2_E_b1
  obtain ⟨_, _, ⟨T8, L8, k8, n8⟩, -, X8, ⟨Lc8, hQ8, l8, y8, z8⟩, st8⟩ := X7.virtualBack hx (y := (⟨"java/lang/String", "charAt", "(I)C"⟩ : MethodName)) (z := (⟨"java/lang/String", "charAt", "(I)C"⟩ : MethodName)) hown2 (mvT hZ2 (hw _ (List.mem_of_getElem? (i := 9) rfl))) (mvT hZ2 (hw _ (List.mem_of_getElem? (i := 10) rfl))) (notFace_of_selects (args := #[]) (mvT hZ2 (hw _ (List.mem_of_getElem? (i := 12) rfl)))) (mvT hZ2 (hw _ (List.mem_of_getElem? (i := 12) rfl))) (mvT hZ2 (hw _ (List.mem_of_getElem? (i := 11) rfl))) (by decide) (backOf (W := 1) (rm1 l Z a0 hw [] b1 (F6_0 p0) vb1 c1 v2 lows (16 : Int32) h2 n0 Z2 f2_E_b1 f2_S_java_lang_String_COMPACT_STRINGS hc1 f2_F_b1_coder f2_F_b1_value f2_S_jdk_internal_util_Preconditions_SIOOBE_FORMATTER hv f2_V_vb1 (by decide) (own_s1 p0 hc53) (own_s2 p0 hc53) (own_k_lows p0 hc53)) hZ2 (hw _ (List.mem_of_getElem? (i := 13) rfl)) (hw _ (List.mem_of_getElem? (i := 1) rfl)) (by decide) (by decide)) q8a q8c (g := (mkF m 76 #[.val (.int p0), .val (.int p1), .val (.ref b1), .val (.ref b2), .val (.int (p1 &&& (15 : Int32))), .val (.int (F6_0 p0))] [(.int (F6_0 p0)), (.ref b1), (.int p0)])) rfl (by rw [hml]; rfl) (Steps.refl _) (argsL := [(.int (F6_0 p0))]) (rest := [(.int p0)]) (lenOf pd4 rfl) rfl (by show 2 * 0 + _ ≤ _; exact Nat.le_of_eq rfl) (hb hby at_76) (fun _ _ => ⟨rfl, e7, (by decide : 4 + 0 ≤ _), (by decide : 136 + 0 ≤ _)⟩)
  dsimp only [Pt.U, Pt.locs, Pt.cells, Pt.slots] at X8 l8 y8 z8 st8 hQ8
  subst l8 y8 z8
  obtain ⟨rfl, N8q, e8⟩ := hQ8
  have N8 := Fr.app N7 N8q
  obtain ⟨fs, hr, hrun, hended, hEnd⟩ := X8.leaveW (s := s) (vm₁ := T2.vm) S2 (by rw [e8]; exact kp2) (v := some (.int (1 : Int32))) (fun h => by rw [Bd.returns] at h; cases h)
  refine ⟨_, _, pre0 _ ?_, hrun, hended, _, _, rfl, ⟨rfl, N8⟩, hEnd.1, hEnd.2.1, hEnd.2.2.1, hEnd.2.2.2.mono (by decide) (by decide)⟩
  show Steps p.tables e below (s₁.setTop (mkF m 0 #[.val (.int p0), .val (.int p1), .unset, .unset, .unset, .unset] [])) _
  refine st1 _ ?_
  show Steps p.tables e below (T1.setTop (mkF m 2 #[.val (.int p0), .val (.int p1), .unset, .unset, .unset, .unset] [(.ref b1)])) _
  refine XS.astoreN X1.here hx rfl (hb hby at_2) rfl rfl (l' := #[.val (.int p0), .val (.int p1), .val (.ref b1), .unset, .unset, .unset]) rfl ?_
  show Steps p.tables e below (T1.setTop (mkF m 3 #[.val (.int p0), .val (.int p1), .val (.ref b1), .unset, .unset, .unset] [])) _
  refine st2 _ ?_
  show Steps p.tables e below (T2.setTop (mkF m 5 #[.val (.int p0), .val (.int p1), .val (.ref b1), .unset, .unset, .unset] [(.ref b2)])) _
  refine XS.astoreN X2.here hx rfl (hb hby at_5) rfl rfl (l' := #[.val (.int p0), .val (.int p1), .val (.ref b1), .val (.ref b2), .unset, .unset]) rfl ?_
  show Steps p.tables e below (T2.setTop (mkF m 6 #[.val (.int p0), .val (.int p1), .val (.ref b1), .val (.ref b2), .unset, .unset] [])) _
  refine XS.iloadN X2.here hx rfl (hb hby at_6) rfl ?_
  show Steps p.tables e below (T2.setTop (mkF m 7 #[.val (.int p0), .val (.int p1), .val (.ref b1), .val (.ref b2), .unset, .unset] [(.int p1)])) _
  refine XS.bipush X2.here hx rfl (hb hby at_7) ?_
  show Steps p.tables e below (T2.setTop (mkF m 9 #[.val (.int p0), .val (.int p1), .val (.ref b1), .val (.ref b2), .unset, .unset] [(.int (15 : Int32)), (.int p1)])) _
  refine XS.iand X2.here hx rfl (hb hby at_9) rfl ?_
  show Steps p.tables e below (T2.setTop (mkF m 10 #[.val (.int p0), .val (.int p1), .val (.ref b1), .val (.ref b2), .unset, .unset] [(.int (p1 &&& (15 : Int32)))])) _
  refine XS.istore X2.here hx rfl (hb hby at_10) rfl (l' := #[.val (.int p0), .val (.int p1), .val (.ref b1), .val (.ref b2), .val (.int (p1 &&& (15 : Int32))), .unset]) rfl ?_
  show Steps p.tables e below (T2.setTop (mkF m 12 #[.val (.int p0), .val (.int p1), .val (.ref b1), .val (.ref b2), .val (.int (p1 &&& (15 : Int32))), .unset] [])) _
  refine XS.aloadN X2.here hx rfl (hb hby at_12) rfl rfl ?_
  show Steps p.tables e below (T2.setTop (mkF m 13 #[.val (.int p0), .val (.int p1), .val (.ref b1), .val (.ref b2), .val (.int (p1 &&& (15 : Int32))), .unset] [(.ref b1)])) _
  refine XS.iload X2.here hx rfl (hb hby at_13) rfl ?_
  show Steps p.tables e below (T2.setTop (mkF m 15 #[.val (.int p0), .val (.int p1), .val (.ref b1), .val (.ref b2), .val (.int (p1 &&& (15 : Int32))), .unset] [(.int (p1 &&& (15 : Int32))), (.ref b1)])) _
  refine st3.trans ?_
  show Steps p.tables e below (T3.setTop (mkF m 18 #[.val (.int p0), .val (.int p1), .val (.ref b1), .val (.ref b2), .val (.int (p1 &&& (15 : Int32))), .unset] [(.int (chr (lows.getD (p1 &&& (15 : Int32)).toNatClampNeg 0)))])) _
  refine st4 _ ?_
  show Steps p.tables e below (T4.setTop (mkF m 21 #[.val (.int p0), .val (.int p1), .val (.ref b1), .val (.ref b2), .val (.int (p1 &&& (15 : Int32))), .unset] [(.int (F6_0 (chr (lows.getD (p1 &&& (15 : Int32)).toNatClampNeg 0))))])) _
  refine XS.iload X4.here hx rfl (hb hby at_21) rfl ?_
  show Steps p.tables e below (T4.setTop (mkF m 23 #[.val (.int p0), .val (.int p1), .val (.ref b1), .val (.ref b2), .val (.int (p1 &&& (15 : Int32))), .unset] [(.int (p1 &&& (15 : Int32))), (.int (F6_0 (chr (lows.getD (p1 &&& (15 : Int32)).toNatClampNeg 0))))])) _
  refine XS.icmpYes X4.here hx rfl (pc0 := 23) (pc' := 28) rfl (hb hby at_23) rfl (teq (own_low p1)).1 (by decide) (by decide) ?_
  show Steps p.tables e below (T4.setTop (mkF m 28 #[.val (.int p0), .val (.int p1), .val (.ref b1), .val (.ref b2), .val (.int (p1 &&& (15 : Int32))), .unset] [])) _
  refine XS.aloadN X4.here hx rfl (hb hby at_28) rfl rfl ?_
  show Steps p.tables e below (T4.setTop (mkF m 29 #[.val (.int p0), .val (.int p1), .val (.ref b1), .val (.ref b2), .val (.int (p1 &&& (15 : Int32))), .unset] [(.ref b2)])) _
  refine XS.iload X4.here hx rfl (hb hby at_29) rfl ?_
  show Steps p.tables e below (T4.setTop (mkF m 31 #[.val (.int p0), .val (.int p1), .val (.ref b1), .val (.ref b2), .val (.int (p1 &&& (15 : Int32))), .unset] [(.int (p1 &&& (15 : Int32))), (.ref b2)])) _
  refine st5.trans ?_
  show Steps p.tables e below (T5.setTop (mkF m 34 #[.val (.int p0), .val (.int p1), .val (.ref b1), .val (.ref b2), .val (.int (p1 &&& (15 : Int32))), .unset] [(.int (chr (upps.getD (p1 &&& (15 : Int32)).toNatClampNeg 0)))])) _
  refine st6 _ ?_
  show Steps p.tables e below (T6.setTop (mkF m 37 #[.val (.int p0), .val (.int p1), .val (.ref b1), .val (.ref b2), .val (.int (p1 &&& (15 : Int32))), .unset] [(.int (F6_0 (chr (upps.getD (p1 &&& (15 : Int32)).toNatClampNeg 0))))])) _
  refine XS.iload X6.here hx rfl (hb hby at_37) rfl ?_
  show Steps p.tables e below (T6.setTop (mkF m 39 #[.val (.int p0), .val (.int p1), .val (.ref b1), .val (.ref b2), .val (.int (p1 &&& (15 : Int32))), .unset] [(.int (p1 &&& (15 : Int32))), (.int (F6_0 (chr (upps.getD (p1 &&& (15 : Int32)).toNatClampNeg 0))))])) _
  refine XS.icmpYes X6.here hx rfl (pc0 := 39) (pc' := 44) rfl (hb hby at_39) rfl (teq (own_upp p1)).1 (by decide) (by decide) ?_
  show Steps p.tables e below (T6.setTop (mkF m 44 #[.val (.int p0), .val (.int p1), .val (.ref b1), .val (.ref b2), .val (.int (p1 &&& (15 : Int32))), .unset] [])) _
  refine XS.iloadN X6.here hx rfl (hb hby at_44) rfl ?_
  show Steps p.tables e below (T6.setTop (mkF m 45 #[.val (.int p0), .val (.int p1), .val (.ref b1), .val (.ref b2), .val (.int (p1 &&& (15 : Int32))), .unset] [(.int p0)])) _
  refine st7 _ ?_
  show Steps p.tables e below (T7.setTop (mkF m 48 #[.val (.int p0), .val (.int p1), .val (.ref b1), .val (.ref b2), .val (.int (p1 &&& (15 : Int32))), .unset] [(.int (F6_0 p0))])) _
  refine XS.istore X7.here hx rfl (hb hby at_48) rfl (l' := #[.val (.int p0), .val (.int p1), .val (.ref b1), .val (.ref b2), .val (.int (p1 &&& (15 : Int32))), .val (.int (F6_0 p0))]) rfl ?_
  show Steps p.tables e below (T7.setTop (mkF m 50 #[.val (.int p0), .val (.int p1), .val (.ref b1), .val (.ref b2), .val (.int (p1 &&& (15 : Int32))), .val (.int (F6_0 p0))] [])) _
  refine XS.iload X7.here hx rfl (hb hby at_50) rfl ?_
  show Steps p.tables e below (T7.setTop (mkF m 52 #[.val (.int p0), .val (.int p1), .val (.ref b1), .val (.ref b2), .val (.int (p1 &&& (15 : Int32))), .val (.int (F6_0 p0))] [(.int (F6_0 p0))])) _
  refine XS.iconst X7.here hx rfl (hb hby at_52) ?_
  show Steps p.tables e below (T7.setTop (mkF m 53 #[.val (.int p0), .val (.int p1), .val (.ref b1), .val (.ref b2), .val (.int (p1 &&& (15 : Int32))), .val (.int (F6_0 p0))] [(.int (-1 : Int32)), (.int (F6_0 p0))])) _
  refine XS.icmpYes X7.here hx rfl (pc0 := 53) (pc' := 58) rfl (hb hby at_53) rfl (feq hc53).2 (by decide) (by decide) ?_
  show Steps p.tables e below (T7.setTop (mkF m 58 #[.val (.int p0), .val (.int p1), .val (.ref b1), .val (.ref b2), .val (.int (p1 &&& (15 : Int32))), .val (.int (F6_0 p0))] [])) _
  refine XS.iload X7.here hx rfl (hb hby at_58) rfl ?_
  show Steps p.tables e below (T7.setTop (mkF m 60 #[.val (.int p0), .val (.int p1), .val (.ref b1), .val (.ref b2), .val (.int (p1 &&& (15 : Int32))), .val (.int (F6_0 p0))] [(.int (F6_0 p0))])) _
  refine XS.ifNo X7.here hx rfl (hb hby at_60) rfl ((if0 _ _).trans (flt (own_s1 p0 hc53)).1) ?_
  show Steps p.tables e below (T7.setTop (mkF m 63 #[.val (.int p0), .val (.int p1), .val (.ref b1), .val (.ref b2), .val (.int (p1 &&& (15 : Int32))), .val (.int (F6_0 p0))] [])) _
  refine XS.iload X7.here hx rfl (hb hby at_63) rfl ?_
  show Steps p.tables e below (T7.setTop (mkF m 65 #[.val (.int p0), .val (.int p1), .val (.ref b1), .val (.ref b2), .val (.int (p1 &&& (15 : Int32))), .val (.int (F6_0 p0))] [(.int (F6_0 p0))])) _
  refine XS.bipush X7.here hx rfl (hb hby at_65) ?_
  show Steps p.tables e below (T7.setTop (mkF m 67 #[.val (.int p0), .val (.int p1), .val (.ref b1), .val (.ref b2), .val (.int (p1 &&& (15 : Int32))), .val (.int (F6_0 p0))] [(.int (15 : Int32)), (.int (F6_0 p0))])) _
  refine XS.icmpYes X7.here hx rfl (pc0 := 67) (pc' := 72) rfl (hb hby at_67) rfl (flt (own_le p0 hc53)).2.2.2 (by decide) (by decide) ?_
  show Steps p.tables e below (T7.setTop (mkF m 72 #[.val (.int p0), .val (.int p1), .val (.ref b1), .val (.ref b2), .val (.int (p1 &&& (15 : Int32))), .val (.int (F6_0 p0))] [])) _
  refine XS.iloadN X7.here hx rfl (hb hby at_72) rfl ?_
  show Steps p.tables e below (T7.setTop (mkF m 73 #[.val (.int p0), .val (.int p1), .val (.ref b1), .val (.ref b2), .val (.int (p1 &&& (15 : Int32))), .val (.int (F6_0 p0))] [(.int p0)])) _
  refine XS.aloadN X7.here hx rfl (hb hby at_73) rfl rfl ?_
  show Steps p.tables e below (T7.setTop (mkF m 74 #[.val (.int p0), .val (.int p1), .val (.ref b1), .val (.ref b2), .val (.int (p1 &&& (15 : Int32))), .val (.int (F6_0 p0))] [(.ref b1), (.int p0)])) _
  refine XS.iload X7.here hx rfl (hb hby at_74) rfl ?_
  show Steps p.tables e below (T7.setTop (mkF m 76 #[.val (.int p0), .val (.int p1), .val (.ref b1), .val (.ref b2), .val (.int (p1 &&& (15 : Int32))), .val (.int (F6_0 p0))] [(.int (F6_0 p0)), (.ref b1), (.int p0)])) _
  refine st8.trans ?_
  show Steps p.tables e below (T8.setTop (mkF m 79 #[.val (.int p0), .val (.int p1), .val (.ref b1), .val (.ref b2), .val (.int (p1 &&& (15 : Int32))), .val (.int (F6_0 p0))] [(.int (chr (lows.getD (F6_0 p0).toNatClampNeg 0))), (.int p0)])) _
  refine XS.icmpYes X8.here hx rfl (pc0 := 79) (pc' := 92) rfl (hb hby at_79) rfl (teq hc79).1 (by decide) (by decide) ?_
  show Steps p.tables e below (T8.setTop (mkF m 92 #[.val (.int p0), .val (.int p1), .val (.ref b1), .val (.ref b2), .val (.int (p1 &&& (15 : Int32))), .val (.int (F6_0 p0))] [])) _
  refine XS.iconst X8.here hx rfl (hb hby at_92) ?_
  show Steps p.tables e below (T8.setTop (mkF m 93 #[.val (.int p0), .val (.int p1), .val (.ref b1), .val (.ref b2), .val (.int (p1 &&& (15 : Int32))), .val (.int (F6_0 p0))] [(.int (1 : Int32))])) _
  refine XS.goto X8.here hx rfl (pc0 := 93) (pc' := 97) rfl (hb hby at_93) (by decide) (by decide) ?_
  show Steps p.tables e below (T8.setTop (mkF m 97 #[.val (.int p0), .val (.int p1), .val (.ref b1), .val (.ref b2), .val (.int (p1 &&& (15 : Int32))), .val (.int (F6_0 p0))] [(.int (1 : Int32))])) _
  exact retN X8 hx (t := .boolean) Bd.returns (by simp) (hb hby at_97) hr
def Q_rm0c (Z : State) (p0 : Int32) (p1 : Int32) (c1 : Int32) (v2 : Value) (h0 : Heap) (n0 : Nat) (v : Option Value) (h : Heap) (L : List Loc) : Prop := (v = some (.int (1 : Int32)) ∧ Fr n0 L)
set_option maxRecDepth 65536 in
set_option maxHeartbeats 40000000 in
theorem rm0c (l : Launch) (Z : State) (a0 : Array Value) (hw : ∀ d ∈ tables_1, d.before a0 Z = true) (ws : List Jvm.Cond) (p0 : Int32) (p1 : Int32) (c1 : Int32) (v2 : Value) (h0 : Heap) (n0 : Nat) (Z0 : n0 ≤ h0.size) (hH0 : h0 = Z.heap) (hcw : Jvm.Lit.compactW.before a0 Z = true) (hh1 : Jvm.Lit.constHeld Z "com/example/triplewright/triplewright/rdf/TextScannerHexValuePinLaw" 7) (hh2 : Jvm.Lit.constHeld Z "com/example/triplewright/triplewright/rdf/TextScannerHexValuePinLaw" 9) (St1 : Sta Z h0 "java/lang/String" "COMPACT_STRINGS" "Z" (.int c1)) (hc1 : ¬ c1 = (0 : Int32)) (St2 : Sta Z h0 "jdk/internal/util/Preconditions" "SIOOBE_FORMATTER" "Ljava/util/function/BiFunction;" v2) (hv : v2.isRef = true) (hc53 : ¬ ((F6_0 p0) = (-1 : Int32))) (hc79 : ¬ (p0 = (chr (lows.getD (F6_0 p0).toNatClampNeg 0)))) :
    MetFree l x (head1 (Jvm.Cond.code x code maxLocals ret :: ws) room_1) (fun a U => a = #[(.int p0), (.int p1)] ∧ Z.Warmed39 U.vm ∧ U.heap = h0 ∧ U.vm = Z.vm) (fun _ _ _ _ _ => True) (fun _ U o U' => ∃ v L, o = .returned v ∧ Q_rm0c Z p0 p1 c1 v2 h0 n0 v U'.heap L ∧ ReturnedEndW U o U' L room_1.cells room_1.slots) := by
  refine MetFree.of_bodySF (plainFor_of_name pn_0) hisR ?_
  intro p e s m args below meth c s₁ Bd hml0 hP hK
  obtain ⟨rfl, hZ, hh, hvm⟩ := hP
  have hx := Bd.exec
  have hby := Bd.bytes
  have hml : c.maxLocals = 6 := hml0
  have hown : s.vm.findClass "com/example/triplewright/triplewright/rdf/TextScannerHexValuePinLaw" = some m.cls := findClass_of_methodNamed Bd.named
  have hnm := (name_of_methodNamed Bd.named Bd.method).1
  have X0 : Stand p l e room_1 s m #[(.int p0), (.int p1)] below meth c s₁ [] 0 0 := Stand.of_body Bd
  have e0 : s₁.heap = h0 := by rw [← hh, Bd.state]; rfl
  have N0 := Fr.nil n0
  have pre0 : ∀ t, Steps p.tables e below (s₁.setTop (mkF m 0 #[.val (.int p0), .val (.int p1), .unset, .unset, .unset, .unset] [])) t → Steps p.tables e below (s₁.setTop (entryFrame m #[(.int p0), (.int p1)] maxLocals)) t := fun t k => castTop (ef_0 m p0 p1) k
  obtain ⟨b1, T1, h1, k1, vb1, kl1, X1, e1, E1, S1, kp1, hZ1, hown1, Es1, Fc1, Fv1, Av1, -, -, I1, st1⟩ := ldcSV (s := s) (vm0 := s.vm) X0 hx hZ hown (hw _ (List.mem_of_getElem? (i := 0) rfl)) (fun d hd => hw d (own_strw d hd)) e0 ((State.WarmedH.refl s).since 0) (Nat.zero_le _) (Fr.nil _) (fun b cl q => by rw [hh, hH0]; exact q) (show IB Z s.vm [] from by rw [hvm]; exact IB.start) (by decide) hh1 hcw (vs := lows.map Value.int) (z := 16) (by decide) (by decide) (by decide) (g := (mkF m 0 #[.val (.int p0), .val (.int p1), .unset, .unset, .unset, .unset] [])) rfl (hb hby at_0) (n := 64) (by decide) (by decide) (by decide) (by decide)
  have f1_S_java_lang_String_COMPACT_STRINGS : Sta Z h1 "java/lang/String" "COMPACT_STRINGS" "Z" (.int c1) := St1.ext E1
  have f1_S_jdk_internal_util_Preconditions_SIOOBE_FORMATTER : Sta Z h1 "jdk/internal/util/Preconditions" "SIOOBE_FORMATTER" "Ljava/util/function/BiFunction;" v2 := St2.ext E1
  have Z1 : n0 ≤ Array.size h1 := Nat.le_trans Z0 E1.1
  have Vl1 : ArrL .byte Z h1 vb1 lows := ArrL.ofArv Av1 (by decide)
  obtain ⟨b2, T2, h2, k2, vb2, kl2, X2, e2, E2, S2, kp2, hZ2, hown2, Es2, Fc2, Fv2, Av2, -, -, I2, st2⟩ := ldcSV (s := s) (vm0 := T1.vm) X1 hx hZ1 hown1 (hw _ (List.mem_of_getElem? (i := 8) rfl)) (fun d hd => hw d (own_strw d hd)) e1 S1 kp1 (Fr.nil _) (fun b cl q => by rw [hh, hH0]; exact q) I1 (by decide) hh2 hcw (vs := upps.map Value.int) (z := 16) (by decide) (by decide) (by decide) (g := (mkF m 3 #[.val (.int p0), .val (.int p1), .val (.ref b1), .unset, .unset, .unset] [])) rfl (hb hby at_3) (n := 64) (by decide) (by decide) (by decide) (by decide)
  have f2_S_java_lang_String_COMPACT_STRINGS : Sta Z h2 "java/lang/String" "COMPACT_STRINGS" "Z" (.int c1) := f1_S_java_lang_String_COMPACT_STRINGS.ext E2
  have f2_S_jdk_internal_util_Preconditions_SIOOBE_FORMATTER : Sta Z h2 "jdk/internal/util/Preconditions" "SIOOBE_FORMATTER" "Ljava/util/function/BiFunction;" v2 := f1_S_jdk_internal_util_Preconditions_SIOOBE_FORMATTER.ext E2
  have f2_E_b1 : Exa Z h2 b1 "java/lang/String" := Es1.ext E2
  have f2_F_b1_coder : Fld Z h2 b1 "java/lang/String" "coder" "B" (.int (0 : Int32)) := Fc1.ext E2
  have f2_F_b1_value : Fld Z h2 b1 "java/lang/String" "value" "[B" (.ref vb1) := Fv1.ext E2
  have f2_V_vb1 : ArrL .byte Z h2 vb1 lows := Vl1.ext E2
  have Z2 : n0 ≤ Array.size h2 := Nat.le_trans Z1 E2.1
  have Vl2 : ArrL .byte Z h2 vb2 upps := ArrL.ofArv Av2 (by decide)
  obtain ⟨cq3, kq3, q3a, q3b, q3c⟩ := isOf hZ2 e2 f2_E_b1
  obtain ⟨_, _, ⟨T3, L3, k3, n3⟩, -, X3, ⟨Lc3, hQ3, l3, y3, z3⟩, st3⟩ := X2.virtualBack hx (y := (⟨"java/lang/String", "charAt", "(I)C"⟩ : MethodName)) (z := (⟨"java/lang/String", "charAt", "(I)C"⟩ : MethodName)) hown2 (mvT hZ2 (hw _ (List.mem_of_getElem? (i := 9) rfl))) (mvT hZ2 (hw _ (List.mem_of_getElem? (i := 10) rfl))) (notFace_of_selects (args := #[]) (mvT hZ2 (hw _ (List.mem_of_getElem? (i := 12) rfl)))) (mvT hZ2 (hw _ (List.mem_of_getElem? (i := 12) rfl))) (mvT hZ2 (hw _ (List.mem_of_getElem? (i := 11) rfl))) (by decide) (backOf (W := 0) (rm1 l Z a0 hw [] b1 (p1 &&& (15 : Int32)) vb1 c1 v2 lows (16 : Int32) h2 n0 Z2 f2_E_b1 f2_S_java_lang_String_COMPACT_STRINGS hc1 f2_F_b1_coder f2_F_b1_value f2_S_jdk_internal_util_Preconditions_SIOOBE_FORMATTER hv f2_V_vb1 (by decide) (own_q1 p1) (own_q2 p1) (own_j_lows p1)) hZ2 (hw _ (List.mem_of_getElem? (i := 13) rfl)) (hw _ (List.mem_of_getElem? (i := 1) rfl)) (by decide) (by decide)) q3a q3c (g := (mkF m 15 #[.val (.int p0), .val (.int p1), .val (.ref b1), .val (.ref b2), .val (.int (p1 &&& (15 : Int32))), .unset] [(.int (p1 &&& (15 : Int32))), (.ref b1)])) rfl (by rw [hml]; rfl) (Steps.refl _) (argsL := [(.int (p1 &&& (15 : Int32)))]) (rest := []) (lenOf pd4 rfl) rfl (by show 2 * 0 + _ ≤ _; exact Nat.le_of_eq rfl) (hb hby at_15) (fun _ _ => ⟨rfl, e2, (by decide : 4 + 0 ≤ _), (by decide : 136 + 0 ≤ _)⟩)
  dsimp only [Pt.U, Pt.locs, Pt.cells, Pt.slots] at X3 l3 y3 z3 st3 hQ3
  subst l3 y3 z3
  obtain ⟨rfl, N3q, e3⟩ := hQ3
  have N3 := Fr.app N0 N3q
  obtain ⟨_, _, ⟨T4, L4, k4, n4⟩, -, X4, ⟨Lc4, hQ4, l4, y4, z4⟩, st4⟩ := Jvm.LawKit.callS X3 hx (y := (⟨"com/example/triplewright/triplewright/rdf/TextScanner", "hexValue", "(I)I"⟩ : MethodName)) hown2 (mvT hZ2 (hw _ (List.mem_of_getElem? (i := 34) rfl))) (mvT hZ2 (hw _ (List.mem_of_getElem? (i := 35) rfl))) (mvT hZ2 (hw _ (List.mem_of_getElem? (i := 36) rfl))) (mvT hZ2 (hw _ (List.mem_of_getElem? (i := 37) rfl))) (by decide) (backOf (W := 0) (rm6 l Z a0 hw [] (chr (lows.getD (p1 &&& (15 : Int32)).toNatClampNeg 0)) h2 n0 Z2) hZ2 (hw _ (List.mem_of_getElem? (i := 37) rfl)) (hw _ (List.mem_of_getElem? (i := 36) rfl)) (by decide) (by decide)) (g := (mkF m 18 #[.val (.int p0), .val (.int p1), .val (.ref b1), .val (.ref b2), .val (.int (p1 &&& (15 : Int32))), .unset] [(.int (chr (lows.getD (p1 &&& (15 : Int32)).toNatClampNeg 0)))])) rfl (by rw [hml]; rfl) (argsL := [(.int (chr (lows.getD (p1 &&& (15 : Int32)).toNatClampNeg 0)))]) (rest := []) (lenOf pd5 rfl) rfl (by show 2 * 0 + _ ≤ _; exact Nat.le_of_eq rfl) (hb hby at_18) (fun _ _ => ⟨rfl, e3, (by decide : 4 + 0 ≤ _), (by decide : 136 + 0 ≤ _)⟩)
  dsimp only [Pt.U, Pt.locs, Pt.cells, Pt.slots] at X4 l4 y4 z4 st4 hQ4
  subst l4 y4 z4
  obtain ⟨rfl, N4q, e4⟩ := hQ4
  have N4 := Fr.app N3 N4q
  obtain ⟨cq5, kq5, q5a, q5b, q5c⟩ := isOf hZ2 e4 Es2
  obtain ⟨_, _, ⟨T5, L5, k5, n5⟩, -, X5, ⟨Lc5, hQ5, l5, y5, z5⟩, st5⟩ := X4.virtualBack hx (y := (⟨"java/lang/String", "charAt", "(I)C"⟩ : MethodName)) (z := (⟨"java/lang/String", "charAt", "(I)C"⟩ : MethodName)) hown2 (mvT hZ2 (hw _ (List.mem_of_getElem? (i := 9) rfl))) (mvT hZ2 (hw _ (List.mem_of_getElem? (i := 10) rfl))) (notFace_of_selects (args := #[]) (mvT hZ2 (hw _ (List.mem_of_getElem? (i := 12) rfl)))) (mvT hZ2 (hw _ (List.mem_of_getElem? (i := 12) rfl))) (mvT hZ2 (hw _ (List.mem_of_getElem? (i := 11) rfl))) (by decide) (backOf (W := 0) (rm1 l Z a0 hw [] b2 (p1 &&& (15 : Int32)) vb2 c1 v2 upps (16 : Int32) h2 n0 Z2 Es2 f2_S_java_lang_String_COMPACT_STRINGS hc1 Fc2 Fv2 f2_S_jdk_internal_util_Preconditions_SIOOBE_FORMATTER hv Vl2 (by decide) (own_q1 p1) (own_q2 p1) (own_j_upps p1)) hZ2 (hw _ (List.mem_of_getElem? (i := 13) rfl)) (hw _ (List.mem_of_getElem? (i := 1) rfl)) (by decide) (by decide)) q5a q5c (g := (mkF m 31 #[.val (.int p0), .val (.int p1), .val (.ref b1), .val (.ref b2), .val (.int (p1 &&& (15 : Int32))), .unset] [(.int (p1 &&& (15 : Int32))), (.ref b2)])) rfl (by rw [hml]; rfl) (Steps.refl _) (argsL := [(.int (p1 &&& (15 : Int32)))]) (rest := []) (lenOf pd4 rfl) rfl (by show 2 * 0 + _ ≤ _; exact Nat.le_of_eq rfl) (hb hby at_31) (fun _ _ => ⟨rfl, e4, (by decide : 4 + 0 ≤ _), (by decide : 136 + 0 ≤ _)⟩)
  dsimp only [Pt.U, Pt.locs, Pt.cells, Pt.slots] at X5 l5 y5 z5 st5 hQ5
  subst l5 y5 z5
  obtain ⟨rfl, N5q, e5⟩ := hQ5
  have N5 := Fr.app N4 N5q
  obtain ⟨_, _, ⟨T6, L6, k6, n6⟩, -, X6, ⟨Lc6, hQ6, l6, y6, z6⟩, st6⟩ := Jvm.LawKit.callS X5 hx (y := (⟨"com/example/triplewright/triplewright/rdf/TextScanner", "hexValue", "(I)I"⟩ : MethodName)) hown2 (mvT hZ2 (hw _ (List.mem_of_getElem? (i := 34) rfl))) (mvT hZ2 (hw _ (List.mem_of_getElem? (i := 35) rfl))) (mvT hZ2 (hw _ (List.mem_of_getElem? (i := 36) rfl))) (mvT hZ2 (hw _ (List.mem_of_getElem? (i := 37) rfl))) (by decide) (backOf (W := 0) (rm6 l Z a0 hw [] (chr (upps.getD (p1 &&& (15 : Int32)).toNatClampNeg 0)) h2 n0 Z2) hZ2 (hw _ (List.mem_of_getElem? (i := 37) rfl)) (hw _ (List.mem_of_getElem? (i := 36) rfl)) (by decide) (by decide)) (g := (mkF m 34 #[.val (.int p0), .val (.int p1), .val (.ref b1), .val (.ref b2), .val (.int (p1 &&& (15 : Int32))), .unset] [(.int (chr (upps.getD (p1 &&& (15 : Int32)).toNatClampNeg 0)))])) rfl (by rw [hml]; rfl) (argsL := [(.int (chr (upps.getD (p1 &&& (15 : Int32)).toNatClampNeg 0)))]) (rest := []) (lenOf pd5 rfl) rfl (by show 2 * 0 + _ ≤ _; exact Nat.le_of_eq rfl) (hb hby at_34) (fun _ _ => ⟨rfl, e5, (by decide : 4 + 0 ≤ _), (by decide : 136 + 0 ≤ _)⟩)
  dsimp only [Pt.U, Pt.locs, Pt.cells, Pt.slots] at X6 l6 y6 z6 st6 hQ6
  subst l6 y6 z6
  obtain ⟨rfl, N6q, e6⟩ := hQ6
  have N6 := Fr.app N5 N6q
  obtain ⟨_, _, ⟨T7, L7, k7, n7⟩, -, X7, ⟨Lc7, hQ7, l7, y7, z7⟩, st7⟩ := Jvm.LawKit.callS X6 hx (y := (⟨"com/example/triplewright/triplewright/rdf/TextScanner", "hexValue", "(I)I"⟩ : MethodName)) hown2 (mvT hZ2 (hw _ (List.mem_of_getElem? (i := 34) rfl))) (mvT hZ2 (hw _ (List.mem_of_getElem? (i := 35) rfl))) (mvT hZ2 (hw _ (List.mem_of_getElem? (i := 36) rfl))) (mvT hZ2 (hw _ (List.mem_of_getElem? (i := 37) rfl))) (by decide) (backOf (W := 0) (rm6 l Z a0 hw [] p0 h2 n0 Z2) hZ2 (hw _ (List.mem_of_getElem? (i := 37) rfl)) (hw _ (List.mem_of_getElem? (i := 36) rfl)) (by decide) (by decide)) (g := (mkF m 45 #[.val (.int p0), .val (.int p1), .val (.ref b1), .val (.ref b2), .val (.int (p1 &&& (15 : Int32))), .unset] [(.int p0)])) rfl (by rw [hml]; rfl) (argsL := [(.int p0)]) (rest := []) (lenOf pd5 rfl) rfl (by show 2 * 0 + _ ≤ _; exact Nat.le_of_eq rfl) (hb hby at_45) (fun _ _ => ⟨rfl, e6, (by decide : 4 + 0 ≤ _), (by decide : 136 + 0 ≤ _)⟩)
  dsimp only [Pt.U, Pt.locs, Pt.cells, Pt.slots] at X7 l7 y7 z7 st7 hQ7
  subst l7 y7 z7
  obtain ⟨rfl, N7q, e7⟩ := hQ7
  have N7 := Fr.app N6 N7q
  obtain ⟨cq8, kq8, q8a, q8b, q8c⟩ := isOf hZ2 e7 f2_E_b1
  obtain ⟨_, _, ⟨T8, L8, k8, n8⟩, -, X8, ⟨Lc8, hQ8, l8, y8, z8⟩, st8⟩ := X7.virtualBack hx (y := (⟨"java/lang/String", "charAt", "(I)C"⟩ : MethodName)) (z := (⟨"java/lang/String", "charAt", "(I)C"⟩ : MethodName)) hown2 (mvT hZ2 (hw _ (List.mem_of_getElem? (i := 9) rfl))) (mvT hZ2 (hw _ (List.mem_of_getElem? (i := 10) rfl))) (notFace_of_selects (args := #[]) (mvT hZ2 (hw _ (List.mem_of_getElem? (i := 12) rfl)))) (mvT hZ2 (hw _ (List.mem_of_getElem? (i := 12) rfl))) (mvT hZ2 (hw _ (List.mem_of_getElem? (i := 11) rfl))) (by decide) (backOf (W := 1) (rm1 l Z a0 hw [] b1 (F6_0 p0) vb1 c1 v2 lows (16 : Int32) h2 n0 Z2 f2_E_b1 f2_S_java_lang_String_COMPACT_STRINGS hc1 f2_F_b1_coder f2_F_b1_value f2_S_jdk_internal_util_Preconditions_SIOOBE_FORMATTER hv f2_V_vb1 (by decide) (own_s1 p0 hc53) (own_s2 p0 hc53) (own_k_lows p0 hc53)) hZ2 (hw _ (List.mem_of_getElem? (i := 13) rfl)) (hw _ (List.mem_of_getElem? (i := 1) rfl)) (by decide) (by decide)) q8a q8c (g := (mkF m 76 #[.val (.int p0), .val (.int p1), .val (.ref b1), .val (.ref b2), .val (.int (p1 &&& (15 : Int32))), .val (.int (F6_0 p0))] [(.int (F6_0 p0)), (.ref b1), (.int p0)])) rfl (by rw [hml]; rfl) (Steps.refl _) (argsL := [(.int (F6_0 p0))]) (rest := [(.int p0)]) (lenOf pd4 rfl) rfl (by show 2 * 0 + _ ≤ _; exact Nat.le_of_eq rfl) (hb hby at_76) (fun _ _ => ⟨rfl, e7, (by decide : 4 + 0 ≤ _), (by decide : 136 + 0 ≤ _)⟩)
  dsimp only [Pt.U, Pt.locs, Pt.cells, Pt.slots] at X8 l8 y8 z8 st8 hQ8
  subst l8 y8 z8
  obtain ⟨rfl, N8q, e8⟩ := hQ8
  have N8 := Fr.app N7 N8q
  obtain ⟨cq9, kq9, q9a, q9b, q9c⟩ := isOf hZ2 e8 Es2
  obtain ⟨_, _, ⟨T9, L9, k9, n9⟩, -, X9, ⟨Lc9, hQ9, l9, y9, z9⟩, st9⟩ := X8.virtualBack hx (y := (⟨"java/lang/String", "charAt", "(I)C"⟩ : MethodName)) (z := (⟨"java/lang/String", "charAt", "(I)C"⟩ : MethodName)) hown2 (mvT hZ2 (hw _ (List.mem_of_getElem? (i := 9) rfl))) (mvT hZ2 (hw _ (List.mem_of_getElem? (i := 10) rfl))) (notFace_of_selects (args := #[]) (mvT hZ2 (hw _ (List.mem_of_getElem? (i := 12) rfl)))) (mvT hZ2 (hw _ (List.mem_of_getElem? (i := 12) rfl))) (mvT hZ2 (hw _ (List.mem_of_getElem? (i := 11) rfl))) (by decide) (backOf (W := 1) (rm1 l Z a0 hw [] b2 (F6_0 p0) vb2 c1 v2 upps (16 : Int32) h2 n0 Z2 Es2 f2_S_java_lang_String_COMPACT_STRINGS hc1 Fc2 Fv2 f2_S_jdk_internal_util_Preconditions_SIOOBE_FORMATTER hv Vl2 (by decide) (own_s1 p0 hc53) (own_s2 p0 hc53) (own_k_upps p0 hc53)) hZ2 (hw _ (List.mem_of_getElem? (i := 13) rfl)) (hw _ (List.mem_of_getElem? (i := 1) rfl)) (by decide) (by decide)) q9a q9c (g := (mkF m 86 #[.val (.int p0), .val (.int p1), .val (.ref b1), .val (.ref b2), .val (.int (p1 &&& (15 : Int32))), .val (.int (F6_0 p0))] [(.int (F6_0 p0)), (.ref b2), (.int p0)])) rfl (by rw [hml]; rfl) (Steps.refl _) (argsL := [(.int (F6_0 p0))]) (rest := [(.int p0)]) (lenOf pd4 rfl) rfl (by show 2 * 0 + _ ≤ _; exact Nat.le_of_eq rfl) (hb hby at_86) (fun _ _ => ⟨rfl, e8, (by decide : 4 + 0 ≤ _), (by decide : 136 + 0 ≤ _)⟩)
  dsimp only [Pt.U, Pt.locs, Pt.cells, Pt.slots] at X9 l9 y9 z9 st9 hQ9
  subst l9 y9 z9
  obtain ⟨rfl, N9q, e9⟩ := hQ9
  have N9 := Fr.app N8 N9q
  obtain ⟨fs, hr, hrun, hended, hEnd⟩ := X9.leaveW (s := s) (vm₁ := T2.vm) S2 (by rw [e9]; exact kp2) (v := some (.int (1 : Int32))) (fun h => by rw [Bd.returns] at h; cases h)
  refine ⟨_, _, pre0 _ ?_, hrun, hended, _, _, rfl, ⟨rfl, N9⟩, hEnd.1, hEnd.2.1, hEnd.2.2.1, hEnd.2.2.2.mono (by decide) (by decide)⟩
  show Steps p.tables e below (s₁.setTop (mkF m 0 #[.val (.int p0), .val (.int p1), .unset, .unset, .unset, .unset] [])) _
  refine st1 _ ?_
  show Steps p.tables e below (T1.setTop (mkF m 2 #[.val (.int p0), .val (.int p1), .unset, .unset, .unset, .unset] [(.ref b1)])) _
  refine XS.astoreN X1.here hx rfl (hb hby at_2) rfl rfl (l' := #[.val (.int p0), .val (.int p1), .val (.ref b1), .unset, .unset, .unset]) rfl ?_
  show Steps p.tables e below (T1.setTop (mkF m 3 #[.val (.int p0), .val (.int p1), .val (.ref b1), .unset, .unset, .unset] [])) _
  refine st2 _ ?_
  show Steps p.tables e below (T2.setTop (mkF m 5 #[.val (.int p0), .val (.int p1), .val (.ref b1), .unset, .unset, .unset] [(.ref b2)])) _
  refine XS.astoreN X2.here hx rfl (hb hby at_5) rfl rfl (l' := #[.val (.int p0), .val (.int p1), .val (.ref b1), .val (.ref b2), .unset, .unset]) rfl ?_
  show Steps p.tables e below (T2.setTop (mkF m 6 #[.val (.int p0), .val (.int p1), .val (.ref b1), .val (.ref b2), .unset, .unset] [])) _
  refine XS.iloadN X2.here hx rfl (hb hby at_6) rfl ?_
  show Steps p.tables e below (T2.setTop (mkF m 7 #[.val (.int p0), .val (.int p1), .val (.ref b1), .val (.ref b2), .unset, .unset] [(.int p1)])) _
  refine XS.bipush X2.here hx rfl (hb hby at_7) ?_
  show Steps p.tables e below (T2.setTop (mkF m 9 #[.val (.int p0), .val (.int p1), .val (.ref b1), .val (.ref b2), .unset, .unset] [(.int (15 : Int32)), (.int p1)])) _
  refine XS.iand X2.here hx rfl (hb hby at_9) rfl ?_
  show Steps p.tables e below (T2.setTop (mkF m 10 #[.val (.int p0), .val (.int p1), .val (.ref b1), .val (.ref b2), .unset, .unset] [(.int (p1 &&& (15 : Int32)))])) _
  refine XS.istore X2.here hx rfl (hb hby at_10) rfl (l' := #[.val (.int p0), .val (.int p1), .val (.ref b1), .val (.ref b2), .val (.int (p1 &&& (15 : Int32))), .unset]) rfl ?_
  show Steps p.tables e below (T2.setTop (mkF m 12 #[.val (.int p0), .val (.int p1), .val (.ref b1), .val (.ref b2), .val (.int (p1 &&& (15 : Int32))), .unset] [])) _
  refine XS.aloadN X2.here hx rfl (hb hby at_12) rfl rfl ?_
  show Steps p.tables e below (T2.setTop (mkF m 13 #[.val (.int p0), .val (.int p1), .val (.ref b1), .val (.ref b2), .val (.int (p1 &&& (15 : Int32))), .unset] [(.ref b1)])) _
  refine XS.iload X2.here hx rfl (hb hby at_13) rfl ?_
  show Steps p.tables e below (T2.setTop (mkF m 15 #[.val (.int p0), .val (.int p1), .val (.ref b1), .val (.ref b2), .val (.int (p1 &&& (15 : Int32))), .unset] [(.int (p1 &&& (15 : Int32))), (.ref b1)])) _
  refine st3.trans ?_
  show Steps p.tables e below (T3.setTop (mkF m 18 #[.val (.int p0), .val (.int p1), .val (.ref b1), .val (.ref b2), .val (.int (p1 &&& (15 : Int32))), .unset] [(.int (chr (lows.getD (p1 &&& (15 : Int32)).toNatClampNeg 0)))])) _
  refine st4 _ ?_
  show Steps p.tables e below (T4.setTop (mkF m 21 #[.val (.int p0), .val (.int p1), .val (.ref b1), .val (.ref b2), .val (.int (p1 &&& (15 : Int32))), .unset] [(.int (F6_0 (chr (lows.getD (p1 &&& (15 : Int32)).toNatClampNeg 0))))])) _
  refine XS.iload X4.here hx rfl (hb hby at_21) rfl ?_
  show Steps p.tables e below (T4.setTop (mkF m 23 #[.val (.int p0), .val (.int p1), .val (.ref b1), .val (.ref b2), .val (.int (p1 &&& (15 : Int32))), .unset] [(.int (p1 &&& (15 : Int32))), (.int (F6_0 (chr (lows.getD (p1 &&& (15 : Int32)).toNatClampNeg 0))))])) _
  refine XS.icmpYes X4.here hx rfl (pc0 := 23) (pc' := 28) rfl (hb hby at_23) rfl (teq (own_low p1)).1 (by decide) (by decide) ?_
  show Steps p.tables e below (T4.setTop (mkF m 28 #[.val (.int p0), .val (.int p1), .val (.ref b1), .val (.ref b2), .val (.int (p1 &&& (15 : Int32))), .unset] [])) _
  refine XS.aloadN X4.here hx rfl (hb hby at_28) rfl rfl ?_
  show Steps p.tables e below (T4.setTop (mkF m 29 #[.val (.int p0), .val (.int p1), .val (.ref b1), .val (.ref b2), .val (.int (p1 &&& (15 : Int32))), .unset] [(.ref b2)])) _
  refine XS.iload X4.here hx rfl (hb hby at_29) rfl ?_
  show Steps p.tables e below (T4.setTop (mkF m 31 #[.val (.int p0), .val (.int p1), .val (.ref b1), .val (.ref b2), .val (.int (p1 &&& (15 : Int32))), .unset] [(.int (p1 &&& (15 : Int32))), (.ref b2)])) _
  refine st5.trans ?_
  show Steps p.tables e below (T5.setTop (mkF m 34 #[.val (.int p0), .val (.int p1), .val (.ref b1), .val (.ref b2), .val (.int (p1 &&& (15 : Int32))), .unset] [(.int (chr (upps.getD (p1 &&& (15 : Int32)).toNatClampNeg 0)))])) _
  refine st6 _ ?_
  show Steps p.tables e below (T6.setTop (mkF m 37 #[.val (.int p0), .val (.int p1), .val (.ref b1), .val (.ref b2), .val (.int (p1 &&& (15 : Int32))), .unset] [(.int (F6_0 (chr (upps.getD (p1 &&& (15 : Int32)).toNatClampNeg 0))))])) _
  refine XS.iload X6.here hx rfl (hb hby at_37) rfl ?_
  show Steps p.tables e below (T6.setTop (mkF m 39 #[.val (.int p0), .val (.int p1), .val (.ref b1), .val (.ref b2), .val (.int (p1 &&& (15 : Int32))), .unset] [(.int (p1 &&& (15 : Int32))), (.int (F6_0 (chr (upps.getD (p1 &&& (15 : Int32)).toNatClampNeg 0))))])) _
  refine XS.icmpYes X6.here hx rfl (pc0 := 39) (pc' := 44) rfl (hb hby at_39) rfl (teq (own_upp p1)).1 (by decide) (by decide) ?_
  show Steps p.tables e below (T6.setTop (mkF m 44 #[.val (.int p0), .val (.int p1), .val (.ref b1), .val (.ref b2), .val (.int (p1 &&& (15 : Int32))), .unset] [])) _
  refine XS.iloadN X6.here hx rfl (hb hby at_44) rfl ?_
  show Steps p.tables e below (T6.setTop (mkF m 45 #[.val (.int p0), .val (.int p1), .val (.ref b1), .val (.ref b2), .val (.int (p1 &&& (15 : Int32))), .unset] [(.int p0)])) _
  refine st7 _ ?_
  show Steps p.tables e below (T7.setTop (mkF m 48 #[.val (.int p0), .val (.int p1), .val (.ref b1), .val (.ref b2), .val (.int (p1 &&& (15 : Int32))), .unset] [(.int (F6_0 p0))])) _
  refine XS.istore X7.here hx rfl (hb hby at_48) rfl (l' := #[.val (.int p0), .val (.int p1), .val (.ref b1), .val (.ref b2), .val (.int (p1 &&& (15 : Int32))), .val (.int (F6_0 p0))]) rfl ?_
  show Steps p.tables e below (T7.setTop (mkF m 50 #[.val (.int p0), .val (.int p1), .val (.ref b1), .val (.ref b2), .val (.int (p1 &&& (15 : Int32))), .val (.int (F6_0 p0))] [])) _
  refine XS.iload X7.here hx rfl (hb hby at_50) rfl ?_
  show Steps p.tables e below (T7.setTop (mkF m 52 #[.val (.int p0), .val (.int p1), .val (.ref b1), .val (.ref b2), .val (.int (p1 &&& (15 : Int32))), .val (.int (F6_0 p0))] [(.int (F6_0 p0))])) _
  refine XS.iconst X7.here hx rfl (hb hby at_52) ?_
  show Steps p.tables e below (T7.setTop (mkF m 53 #[.val (.int p0), .val (.int p1), .val (.ref b1), .val (.ref b2), .val (.int (p1 &&& (15 : Int32))), .val (.int (F6_0 p0))] [(.int (-1 : Int32)), (.int (F6_0 p0))])) _
  refine XS.icmpYes X7.here hx rfl (pc0 := 53) (pc' := 58) rfl (hb hby at_53) rfl (feq hc53).2 (by decide) (by decide) ?_
  show Steps p.tables e below (T7.setTop (mkF m 58 #[.val (.int p0), .val (.int p1), .val (.ref b1), .val (.ref b2), .val (.int (p1 &&& (15 : Int32))), .val (.int (F6_0 p0))] [])) _
  refine XS.iload X7.here hx rfl (hb hby at_58) rfl ?_
  show Steps p.tables e below (T7.setTop (mkF m 60 #[.val (.int p0), .val (.int p1), .val (.ref b1), .val (.ref b2), .val (.int (p1 &&& (15 : Int32))), .val (.int (F6_0 p0))] [(.int (F6_0 p0))])) _
  refine XS.ifNo X7.here hx rfl (hb hby at_60) rfl ((if0 _ _).trans (flt (own_s1 p0 hc53)).1) ?_
  show Steps p.tables e below (T7.setTop (mkF m 63 #[.val (.int p0), .val (.int p1), .val (.ref b1), .val (.ref b2), .val (.int (p1 &&& (15 : Int32))), .val (.int (F6_0 p0))] [])) _
  refine XS.iload X7.here hx rfl (hb hby at_63) rfl ?_
  show Steps p.tables e below (T7.setTop (mkF m 65 #[.val (.int p0), .val (.int p1), .val (.ref b1), .val (.ref b2), .val (.int (p1 &&& (15 : Int32))), .val (.int (F6_0 p0))] [(.int (F6_0 p0))])) _
  refine XS.bipush X7.here hx rfl (hb hby at_65) ?_
  show Steps p.tables e below (T7.setTop (mkF m 67 #[.val (.int p0), .val (.int p1), .val (.ref b1), .val (.ref b2), .val (.int (p1 &&& (15 : Int32))), .val (.int (F6_0 p0))] [(.int (15 : Int32)), (.int (F6_0 p0))])) _
  refine XS.icmpYes X7.here hx rfl (pc0 := 67) (pc' := 72) rfl (hb hby at_67) rfl (flt (own_le p0 hc53)).2.2.2 (by decide) (by decide) ?_
  show Steps p.tables e below (T7.setTop (mkF m 72 #[.val (.int p0), .val (.int p1), .val (.ref b1), .val (.ref b2), .val (.int (p1 &&& (15 : Int32))), .val (.int (F6_0 p0))] [])) _
  refine XS.iloadN X7.here hx rfl (hb hby at_72) rfl ?_
  show Steps p.tables e below (T7.setTop (mkF m 73 #[.val (.int p0), .val (.int p1), .val (.ref b1), .val (.ref b2), .val (.int (p1 &&& (15 : Int32))), .val (.int (F6_0 p0))] [(.int p0)])) _
  refine XS.aloadN X7.here hx rfl (hb hby at_73) rfl rfl ?_
  show Steps p.tables e below (T7.setTop (mkF m 74 #[.val (.int p0), .val (.int p1), .val (.ref b1), .val (.ref b2), .val (.int (p1 &&& (15 : Int32))), .val (.int (F6_0 p0))] [(.ref b1), (.int p0)])) _
  refine XS.iload X7.here hx rfl (hb hby at_74) rfl ?_
  show Steps p.tables e below (T7.setTop (mkF m 76 #[.val (.int p0), .val (.int p1), .val (.ref b1), .val (.ref b2), .val (.int (p1 &&& (15 : Int32))), .val (.int (F6_0 p0))] [(.int (F6_0 p0)), (.ref b1), (.int p0)])) _
  refine st8.trans ?_
  show Steps p.tables e below (T8.setTop (mkF m 79 #[.val (.int p0), .val (.int p1), .val (.ref b1), .val (.ref b2), .val (.int (p1 &&& (15 : Int32))), .val (.int (F6_0 p0))] [(.int (chr (lows.getD (F6_0 p0).toNatClampNeg 0))), (.int p0)])) _
  refine XS.icmpNo X8.here hx rfl (hb hby at_79) rfl (feq hc79).1 ?_
  show Steps p.tables e below (T8.setTop (mkF m 82 #[.val (.int p0), .val (.int p1), .val (.ref b1), .val (.ref b2), .val (.int (p1 &&& (15 : Int32))), .val (.int (F6_0 p0))] [])) _
  refine XS.iloadN X8.here hx rfl (hb hby at_82) rfl ?_
  show Steps p.tables e below (T8.setTop (mkF m 83 #[.val (.int p0), .val (.int p1), .val (.ref b1), .val (.ref b2), .val (.int (p1 &&& (15 : Int32))), .val (.int (F6_0 p0))] [(.int p0)])) _
  refine XS.aloadN X8.here hx rfl (hb hby at_83) rfl rfl ?_
  show Steps p.tables e below (T8.setTop (mkF m 84 #[.val (.int p0), .val (.int p1), .val (.ref b1), .val (.ref b2), .val (.int (p1 &&& (15 : Int32))), .val (.int (F6_0 p0))] [(.ref b2), (.int p0)])) _
  refine XS.iload X8.here hx rfl (hb hby at_84) rfl ?_
  show Steps p.tables e below (T8.setTop (mkF m 86 #[.val (.int p0), .val (.int p1), .val (.ref b1), .val (.ref b2), .val (.int (p1 &&& (15 : Int32))), .val (.int (F6_0 p0))] [(.int (F6_0 p0)), (.ref b2), (.int p0)])) _
  refine st9.trans ?_
  show Steps p.tables e below (T9.setTop (mkF m 89 #[.val (.int p0), .val (.int p1), .val (.ref b1), .val (.ref b2), .val (.int (p1 &&& (15 : Int32))), .val (.int (F6_0 p0))] [(.int (chr (upps.getD (F6_0 p0).toNatClampNeg 0))), (.int p0)])) _
  refine XS.icmpNo X9.here hx rfl (hb hby at_89) rfl (teq (own_last p0 hc53 hc79)).2 ?_
  show Steps p.tables e below (T9.setTop (mkF m 92 #[.val (.int p0), .val (.int p1), .val (.ref b1), .val (.ref b2), .val (.int (p1 &&& (15 : Int32))), .val (.int (F6_0 p0))] [])) _
  refine XS.iconst X9.here hx rfl (hb hby at_92) ?_
  show Steps p.tables e below (T9.setTop (mkF m 93 #[.val (.int p0), .val (.int p1), .val (.ref b1), .val (.ref b2), .val (.int (p1 &&& (15 : Int32))), .val (.int (F6_0 p0))] [(.int (1 : Int32))])) _
  refine XS.goto X9.here hx rfl (pc0 := 93) (pc' := 97) rfl (hb hby at_93) (by decide) (by decide) ?_
  show Steps p.tables e below (T9.setTop (mkF m 97 #[.val (.int p0), .val (.int p1), .val (.ref b1), .val (.ref b2), .val (.int (p1 &&& (15 : Int32))), .val (.int (F6_0 p0))] [(.int (1 : Int32))])) _
  exact retN X9 hx (t := .boolean) Bd.returns (by simp) (hb hby at_97) hr
def Q_rm0 (Z : State) (p0 : Int32) (p1 : Int32) (c1 : Int32) (v2 : Value) (h0 : Heap) (n0 : Nat) (v : Option Value) (h : Heap) (L : List Loc) : Prop := (v = some (.int (1 : Int32)) ∧ Fr n0 L)
set_option maxRecDepth 65536 in
set_option maxHeartbeats 40000000 in
theorem rm0 (l : Launch) (Z : State) (a0 : Array Value) (hw : ∀ d ∈ tables_1, d.before a0 Z = true) (ws : List Jvm.Cond) (p0 : Int32) (p1 : Int32) (c1 : Int32) (v2 : Value) (h0 : Heap) (n0 : Nat) (Z0 : n0 ≤ h0.size) (hH0 : h0 = Z.heap) (hcw : Jvm.Lit.compactW.before a0 Z = true) (hh1 : Jvm.Lit.constHeld Z "com/example/triplewright/triplewright/rdf/TextScannerHexValuePinLaw" 7) (hh2 : Jvm.Lit.constHeld Z "com/example/triplewright/triplewright/rdf/TextScannerHexValuePinLaw" 9) (St1 : Sta Z h0 "java/lang/String" "COMPACT_STRINGS" "Z" (.int c1)) (hc1 : ¬ c1 = (0 : Int32)) (St2 : Sta Z h0 "jdk/internal/util/Preconditions" "SIOOBE_FORMATTER" "Ljava/util/function/BiFunction;" v2) (hv : v2.isRef = true) :
    MetFree l x (head1 (Jvm.Cond.code x code maxLocals ret :: ws) room_1) (fun a U => a = #[(.int p0), (.int p1)] ∧ Z.Warmed39 U.vm ∧ U.heap = h0 ∧ U.vm = Z.vm) (fun _ _ _ _ _ => True) (fun _ U o U' => ∃ v L, o = .returned v ∧ Q_rm0 Z p0 p1 c1 v2 h0 n0 v U'.heap L ∧ ReturnedEndW U o U' L room_1.cells room_1.slots) := by
  by_cases h53 : (F6_0 p0) = (-1 : Int32)
  · exact rm0a l Z a0 hw ws p0 p1 c1 v2 h0 n0 Z0 hH0 hcw hh1 hh2 St1 hc1 St2 hv h53
  · by_cases h79 : p0 = (chr (lows.getD (F6_0 p0).toNatClampNeg 0))
    · exact rm0b l Z a0 hw ws p0 p1 c1 v2 h0 n0 Z0 hH0 hcw hh1 hh2 St1 hc1 St2 hv h53 h79
    · exact rm0c l Z a0 hw ws p0 p1 c1 v2 h0 n0 Z0 hH0 hcw hh1 hh2 St1 hc1 St2 hv h53 h79
set_option maxRecDepth 65536 in
set_option maxHeartbeats 40000000 in
theorem comes_1 {Post : Tables → Env → Array Value → State → Outcome → State → Prop} (hpost : ∀ tb e args s v u, (limb_1_1.after args s (.returned v) u = true ∧ limb_1_2.after args s (.returned v) u = true ∧ True) → ReturnedEndW s (.returned v) u (Jvm.fieldLocs frame_1_writes args s ++ Jvm.arrayLocs frame_1_arrays args s ++ Jvm.staticLocs frame_1_statics s) 8 2112 → Post tb e args s (.returned v) u) :
    ArmFor flags0 classFile x code maxLocals ret World_1 tables_1 room_1 Calls_1 rest_1 Pre_1 Post := by
  intro l hfl _ _ p e ha hc hk s m args below hf hA hF happ hP
  obtain ⟨hcalls, hrest, hpre⟩ := hP
  obtain ⟨-, -, -, hnamed, -, -, -, hat⟩ := (Spec.applies_iff hf).mp happ
  obtain ⟨hg, hn⟩ := and_e (Cond.before_iff.mp (show (Jvm.Cond.and given_1 narrow_1).before args s = true from hpre))
  obtain ⟨gc, g0⟩ := and_e hg
  obtain ⟨k0, g1⟩ := and_e g0
  have k1 := g1
  obtain ⟨w0, w1, rfl⟩ : ∃ w0 w1 : Value, args = #[w0, w1] := by
    have hs : args.size = 2 := by simpa [Cond.value, given_1] using gc
    obtain ⟨L⟩ := args
    match L, hs with
    | [w0, w1], _ => exact ⟨w0, w1, rfl⟩
  have hw := fun d (hd : d ∈ tables_1) => atoms_spec (ws := Jvm.Cond.code x code maxLocals ret :: tables_1) hat d (List.mem_cons_of_mem _ hd)
  obtain ⟨i0, ei0⟩ := is_v k0
  obtain rfl : w0 = (.int i0) := Option.some.inj ei0
  obtain ⟨i1, ei1⟩ := is_v k1
  obtain rfl : w1 = (.int i1) := Option.some.inj ei1
  obtain ⟨hsets, hown0⟩ := atoms_of _ (rest_1_c_eq ▸ (show rest_1_c.before _ s = true from hrest))
  have n5 := not_v (Cond.before_iff.mp (hsets _ (List.mem_of_getElem? (i := 2) rfl)))
  obtain ⟨c1, e10⟩ := is_v (Cond.before_iff.mp (hsets _ (List.mem_of_getElem? (i := 1) rfl)))
  have St1 : Sta s s.heap "java/lang/String" "COMPACT_STRINGS" "Z" (.int c1) := Sta.start e10 (Or.inl (hsets _ (List.mem_of_getElem? (i := 0) rfl)))
  obtain ⟨v2, e14, hv⟩ := isR_v (Cond.before_iff.mp (hsets _ (List.mem_of_getElem? (i := 8) rfl)))
  have St2 : Sta s s.heap "jdk/internal/util/Preconditions" "SIOOBE_FORMATTER" "Ljava/util/function/BiFunction;" v2 := Sta.start e14 (Or.inl (hsets _ (List.mem_of_getElem? (i := 7) rfl)))
  have hc1 : ¬ (c1 = (0 : Int32)) := gotF (Cond.eq_ints e10 (Term.int_eval (0))) n5
  have hcw := hsets _ (List.mem_of_getElem? (i := 2) rfl)
  have hh1 : Jvm.Lit.constHeld s "com/example/triplewright/triplewright/rdf/TextScannerHexValuePinLaw" 7 := hcalls.1 _ (List.mem_of_getElem? (i := 0) rfl)
  have hh2 : Jvm.Lit.constHeld s "com/example/triplewright/triplewright/rdf/TextScannerHexValuePinLaw" 9 := hcalls.1 _ (List.mem_of_getElem? (i := 1) rfl)
  obtain ⟨n, o, h1, h2, h3, _, L, rfl, ⟨rfl, N⟩, hq⟩ := rm0 l s _ hw tables_1 i0 i1 c1 v2 s.heap s.heap.size (Nat.le_refl _) rfl hcw hh1 hh2 St1 hc1 St2 hv p e ha hc hk s m _ below hf ((Spec.applies_iff_loose hf).mp happ).1 ⟨rfl, State.Warmed39.refl s, rfl, rfl⟩ trivial
  refine ⟨n, _, h1, h2, h3, hpost _ _ _ _ _ _ ⟨Cond.after_iff.mpr rfl, Cond.after_iff.mpr (eq_i res_at (Term.int_eval (1)) rfl), trivial⟩ ⟨hq.1, hq.2.1, hq.2.2.1, (hq.2.2.2.sift fun y hy => Or.inr (N y hy)).mono (by decide) (by decide)⟩⟩
theorem main_1_1 : Claimed_1_1 := comes_1 fun _ _ _ _ _ _ h hF => ⟨h.1, hF⟩
theorem main_1_2 : Claimed_1_2 := comes_1 fun _ _ _ _ _ _ h hF => ⟨h.2.1, hF⟩
end Jvm.Pilot.@@N@@
namespace Jvm.Pilot.@@N@@
open Jvm Jvm.ClassFile Sem Op Lib Jvm.Free Jvm.Stand Jvm.Pilot.@@N@@.Jvm.D
/-! MADE BY PROGRAM (witnessworld.py) out of the Statement's table words and the real class files: 17 classes; the members and pool entries that the words name. The judged class is class 1, her method 1. -/
namespace start1
open Jvm.ClassFile
def u (s : String) : CpInfo := .utf8 (stringToUtf16 s)
/-- a pool by its gaps: so many unusable entries, then the entry; so many at the end -/
def gap : Nat → List CpInfo → List CpInfo
  | 0, r => r
  | n + 1, r => .unusable :: gap n r
def poolList (es : List (Nat × CpInfo)) (last : Nat) : List CpInfo := es.foldr (fun e r => gap e.1 (e.2 :: r)) (gap last [])
def pool (es : List (Nat × CpInfo)) (last : Nat) : Array CpInfo := ⟨poolList es last⟩
def fileOf (pool : Array CpInfo) (this : Nat) (attrs : Array Attribute := #[]) (ms : Array MethodInfo := #[]) (fl : Nat := 33) (sup : Nat := 0) (ifs : Array Nat := #[]) (fds : Array FieldInfo := #[]) : ClassFile where
  minorVersion := 0
  majorVersion := 65
  constantPool := pool
  accessFlags := fl
  thisClass := this
  superClass := sup
  interfaces := ifs
  fields := fds
  methods := ms
  attributes := attrs
def plain (name : String) (sup : Option ClassId) : Class where
  name := name
  kind := .ordinary
  loader := none
  accessFlags := 33
  super := sup
  interfaces := #[]
  cf := none
  fields := #[]
  methods := #[]
  instanceTypes := #[]
  staticTypes := #[]
  resolved := #[]
  callSites := []
  init := .initialized
  statics := none
  mirror := none

def pool0 : Array CpInfo := pool [(5, u "<init>"), (0, u "()V"), (1, .class_ 10), (1, u "java/lang/Object")] 113

def k0m0 : Method := { name := "<init>", desc := "()V", sig := { parameters := [], returnType := none }, accessFlags := 1, code := none }
/-- java/lang/Object -/
def k0 : Class := { plain "java/lang/Object" none with
  accessFlags := 33
  interfaces := #[]
  cf := some (fileOf pool0 8 #[] #[{ accessFlags := 1, nameIndex := 5, descriptorIndex := 6, attributes := #[] }] 33 0 #[] #[])
  fields := #[]
  methods := #[k0m0]
  instanceTypes := #[]
  staticTypes := #[]
  resolved := Array.replicate 124 none
  statics := none }

def pool1 : Array CpInfo := pool [(2, .class_ 4), (1, u "java/lang/Object"), (0, u "<init>"), (0, u "()V"), (0, .string 8), (0, u "0123456789abcdef"), (0, .string 10), (0, u "0123456789ABCDEF"), (0, .methodref 12 13), (0, .class_ 14), (0, .nameAndType 15 16), (0, u "java/lang/String"), (0, u "charAt"), (0, u "(I)C"), (0, .methodref 18 19), (0, .class_ 20), (0, .nameAndType 21 22), (0, u "com/example/triplewright/triplewright/rdf/TextScanner"), (0, u "hexValue"), (0, u "(I)I"), (0, .class_ 24), (0, u "com/example/triplewright/triplewright/rdf/TextScannerHexValuePinLaw"), (2, u "law"), (0, u "(II)Z")] 3

def k1m0 : Method := { name := "<init>", desc := "()V", sig := { parameters := [], returnType := none }, accessFlags := 1, code := none }
def k1c1 : Code := { maxStack := 3, maxLocals := 6, code := code, exceptionTable := #[], attributes := #[] }
def k1m1 : Method := { name := "law", desc := "(II)Z", sig := { parameters := [.int, .int], returnType := some .boolean }, accessFlags := 9, code := some k1c1 }
/-- com/example/triplewright/triplewright/rdf/TextScannerHexValuePinLaw -/
def k1 : Class := { plain "com/example/triplewright/triplewright/rdf/TextScannerHexValuePinLaw" (some 0) with
  accessFlags := 49
  interfaces := #[]
  cf := some (fileOf pool1 23 #[] #[{ accessFlags := 1, nameIndex := 5, descriptorIndex := 6, attributes := #[] }, { accessFlags := 9, nameIndex := 27, descriptorIndex := 28, attributes := #[] }] 49 2 #[] #[])
  fields := #[]
  methods := #[k1m0, k1m1]
  instanceTypes := #[]
  staticTypes := #[]
  resolved := Array.replicate 32 none
  statics := none }

def pool2 : Array CpInfo := pool [(1, .class_ 2), (0, u "java/io/Serializable"), (0, .class_ 4), (0, u "java/lang/Object")] 2

/-- java/io/Serializable -/
def k2 : Class := { plain "java/io/Serializable" (some 0) with
  accessFlags := 1537
  interfaces := #[]
  cf := some (fileOf pool2 1 #[] #[] 1537 3 #[] #[])
  fields := #[]
  methods := #[]
  instanceTypes := #[]
  staticTypes := #[]
  resolved := Array.replicate 7 none
  statics := none }

def pool3 : Array CpInfo := pool [(1, .class_ 2), (0, u "java/lang/Comparable"), (0, .class_ 4), (0, u "java/lang/Object")] 7

/-- java/lang/Comparable -/
def k3 : Class := { plain "java/lang/Comparable" (some 0) with
  accessFlags := 1537
  interfaces := #[]
  cf := some (fileOf pool3 1 #[] #[] 1537 3 #[] #[])
  fields := #[]
  methods := #[]
  instanceTypes := #[]
  staticTypes := #[]
  resolved := Array.replicate 12 none
  statics := none }

def pool4 : Array CpInfo := pool [(2, .class_ 4), (1, u "java/lang/CharSequence"), (42, .class_ 48), (0, u "java/lang/CharSequence$1CodePointIterator"), (10, .class_ 60), (0, u "java/lang/CharSequence$1CharIterator"), (5, .class_ 67), (0, u "java/lang/Object")] 63

/-- java/lang/CharSequence -/
def k4 : Class := { plain "java/lang/CharSequence" (some 0) with
  accessFlags := 1537
  interfaces := #[]
  cf := some (fileOf pool4 2 #[.nestMembers #[47, 59]] #[] 1537 66 #[] #[])
  fields := #[]
  methods := #[]
  instanceTypes := #[]
  staticTypes := #[]
  resolved := Array.replicate 131 none
  statics := none }

def pool5 : Array CpInfo := pool [(1, .class_ 2), (0, u "java/lang/constant/Constable"), (0, .class_ 4), (0, u "java/lang/Object")] 6

/-- java/lang/constant/Constable -/
def k5 : Class := { plain "java/lang/constant/Constable" (some 0) with
  accessFlags := 1537
  interfaces := #[]
  cf := some (fileOf pool5 1 #[] #[] 1537 3 #[] #[])
  fields := #[]
  methods := #[]
  instanceTypes := #[]
  staticTypes := #[]
  resolved := Array.replicate 11 none
  statics := none }

def pool6 : Array CpInfo := pool [(1, .class_ 2), (0, u "java/lang/constant/ConstantDesc"), (0, .class_ 4), (0, u "java/lang/Object")] 32

/-- java/lang/constant/ConstantDesc -/
def k6 : Class := { plain "java/lang/constant/ConstantDesc" (some 0) with
  accessFlags := 1537
  interfaces := #[]
  cf := some (fileOf pool6 1 #[] #[] 1537 3 #[] #[])
  fields := #[]
  methods := #[]
  instanceTypes := #[]
  staticTypes := #[]
  resolved := Array.replicate 37 none
  statics := none }

def pool7 : Array CpInfo := pool [(2, .class_ 4), (1, u "java/lang/Object"), (0, u "<init>"), (0, u "()V"), (2, .fieldref 10 11), (0, .class_ 12), (0, .nameAndType 13 14), (0, u "java/lang/String"), (0, u "value"), (0, u "[B"), (0, .fieldref 10 16), (0, .nameAndType 17 18), (0, u "coder"), (0, u "B"), (2, u "hash"), (0, u "I"), (2, u "hashIsZero"), (0, u "Z"), (11, .fieldref 10 39), (0, .nameAndType 40 26), (0, u "COMPACT_STRINGS"), (66, .class_ 109), (1, u "java/lang/StringLatin1"), (32, u "()Z"), (220, u "([BI)C"), (27, u "(II)V"), (35, u "(I)C"), (64, .methodref 10 493), (0, .nameAndType 494 142), (0, u "isLatin1"), (0, .methodref 107 496), (0, .nameAndType 497 363), (0, u "charAt"), (3, u "checkIndex"), (73, .class_ 576), (0, u "java/lang/CharSequence"), (22, u "CASE_INSENSITIVE_ORDER"), (0, u "Ljava/util/Comparator;"), (452, .fieldref 1054 1055), (0, .class_ 1056), (0, .nameAndType 1057 1058), (0, u "jdk/internal/util/Preconditions"), (0, u "SIOOBE_FORMATTER"), (0, u "Ljava/util/function/BiFunction;"), (0, .methodref 1054 1060), (0, .nameAndType 501 1061), (0, u "(IILjava/util/function/BiFunction;)I"), (39, u "serialPersistentFields"), (0, u "[Ljava/io/ObjectStreamField;"), (0, .class_ 1104), (0, u "java/lang/String$CaseInsensitiveComparator"), (1, .class_ 1107), (0, u "java/io/Serializable"), (0, .class_ 1109), (0, u "java/lang/Comparable"), (0, .class_ 1111), (0, u "java/lang/constant/Constable"), (0, .class_ 1113), (0, u "java/lang/constant/ConstantDesc"), (2, u "serialVersionUID"), (0, u "J"), (3, u "REPL"), (0, u "C"), (2, u "LATIN1"), (1, u "UTF16")] 323

def k7m0 : Method := { name := "<init>", desc := "()V", sig := { parameters := [], returnType := none }, accessFlags := 1, code := none }
def k7c1 : Code := { maxStack := 2, maxLocals := 2, code := jdk_42_method_56_code, exceptionTable := #[], attributes := #[] }
def k7m1 : Method := { name := "charAt", desc := "(I)C", sig := { parameters := [.int], returnType := some .char }, accessFlags := 1, code := some k7c1 }
def k7c2 : Code := { maxStack := 1, maxLocals := 1, code := jdk_42_method_154_code, exceptionTable := #[], attributes := #[] }
def k7m2 : Method := { name := "isLatin1", desc := "()Z", sig := { parameters := [], returnType := some .boolean }, accessFlags := 0, code := some k7c2 }
def k7c3 : Code := { maxStack := 3, maxLocals := 2, code := jdk_42_method_155_code, exceptionTable := #[], attributes := #[] }
def k7m3 : Method := { name := "checkIndex", desc := "(II)V", sig := { parameters := [.int, .int], returnType := none }, accessFlags := 8, code := some k7c3 }
/-- java/lang/String -/
def k7 : Class := { plain "java/lang/String" (some 0) with
  accessFlags := 49
  interfaces := #[2, 3, 4, 5, 6]
  cf := some (fileOf pool7 10 #[.nestMembers #[1103]] #[{ accessFlags := 1, nameIndex := 5, descriptorIndex := 6, attributes := #[] }, { accessFlags := 1, nameIndex := 497, descriptorIndex := 427, attributes := #[] }, { accessFlags := 0, nameIndex := 494, descriptorIndex := 142, attributes := #[] }, { accessFlags := 8, nameIndex := 501, descriptorIndex := 391, attributes := #[] }] 49 2 #[1106, 1108, 575, 1110, 1112] #[{ accessFlags := 18, nameIndex := 13, descriptorIndex := 14, attributes := #[] }, { accessFlags := 18, nameIndex := 17, descriptorIndex := 18, attributes := #[] }, { accessFlags := 2, nameIndex := 21, descriptorIndex := 22, attributes := #[] }, { accessFlags := 2, nameIndex := 25, descriptorIndex := 26, attributes := #[] }, { accessFlags := 26, nameIndex := 1116, descriptorIndex := 1117, attributes := #[] }, { accessFlags := 24, nameIndex := 40, descriptorIndex := 26, attributes := #[] }, { accessFlags := 26, nameIndex := 1101, descriptorIndex := 1102, attributes := #[] }, { accessFlags := 26, nameIndex := 1121, descriptorIndex := 1122, attributes := #[] }, { accessFlags := 25, nameIndex := 599, descriptorIndex := 600, attributes := #[] }, { accessFlags := 24, nameIndex := 1125, descriptorIndex := 18, attributes := #[] }, { accessFlags := 24, nameIndex := 1127, descriptorIndex := 18, attributes := #[] }])
  fields := #[{ name := "value", type := (.array .byte), accessFlags := 18, slot := 0, constantValue := 0 }, { name := "coder", type := .byte, accessFlags := 18, slot := 1, constantValue := 0 }, { name := "hash", type := .int, accessFlags := 2, slot := 2, constantValue := 0 }, { name := "hashIsZero", type := .boolean, accessFlags := 2, slot := 3, constantValue := 0 }, { name := "serialVersionUID", type := .long, accessFlags := 26, slot := 0, constantValue := 0 }, { name := "COMPACT_STRINGS", type := .boolean, accessFlags := 24, slot := 1, constantValue := 0 }, { name := "serialPersistentFields", type := (.array (.object "java/io/ObjectStreamField")), accessFlags := 26, slot := 2, constantValue := 0 }, { name := "REPL", type := .char, accessFlags := 26, slot := 3, constantValue := 0 }, { name := "CASE_INSENSITIVE_ORDER", type := (.object "java/util/Comparator"), accessFlags := 25, slot := 4, constantValue := 0 }, { name := "LATIN1", type := .byte, accessFlags := 24, slot := 5, constantValue := 0 }, { name := "UTF16", type := .byte, accessFlags := 24, slot := 6, constantValue := 0 }]
  methods := #[k7m0, k7m1, k7m2, k7m3]
  instanceTypes := #[(.array .byte), .byte, .int, .boolean]
  staticTypes := #[.long, .boolean, (.array (.object "java/io/ObjectStreamField")), .char, (.object "java/util/Comparator"), .byte, .byte]
  resolved := Array.replicate 1451 none
  statics := some 0 }

def pool8 : Array CpInfo := pool [(1, .class_ 2), (0, u "java/lang/String"), (1, .class_ 6), (1, u "java/lang/Object"), (0, u "<init>"), (0, u "()V"), (0, .methodref 1 10), (0, .nameAndType 11 12), (0, u "checkIndex"), (0, u "(II)V"), (1, .class_ 16), (1, u "java/lang/StringLatin1"), (36, u "([BI)C"), (67, u "$assertionsDisabled"), (0, u "Z"), (98, .class_ 223), (1, u "java/lang/StringLatin1$LinesSpliterator"), (28, u "charAt"), (137, .class_ 391), (0, u "java/lang/StringLatin1$CharsSpliterator")] 3

def k8m0 : Method := { name := "<init>", desc := "()V", sig := { parameters := [], returnType := none }, accessFlags := 0, code := none }
def k8c1 : Code := { maxStack := 2, maxLocals := 2, code := jdk_43_method_2_code, exceptionTable := #[], attributes := #[] }
def k8m1 : Method := { name := "charAt", desc := "([BI)C", sig := { parameters := [(.array .byte), .int], returnType := some .char }, accessFlags := 9, code := some k8c1 }
/-- java/lang/StringLatin1 -/
def k8 : Class := { plain "java/lang/StringLatin1" (some 0) with
  accessFlags := 48
  interfaces := #[]
  cf := some (fileOf pool8 14 #[.nestMembers #[390, 221]] #[{ accessFlags := 0, nameIndex := 7, descriptorIndex := 8, attributes := #[] }, { accessFlags := 9, nameIndex := 252, descriptorIndex := 53, attributes := #[] }] 48 4 #[] #[{ accessFlags := 4120, nameIndex := 121, descriptorIndex := 122, attributes := #[] }])
  fields := #[{ name := "$assertionsDisabled", type := .boolean, accessFlags := 4120, slot := 0, constantValue := 0 }]
  methods := #[k8m0, k8m1]
  instanceTypes := #[]
  staticTypes := #[.boolean]
  resolved := Array.replicate 395 none
  statics := none }

def pool9 : Array CpInfo := pool [(2, .class_ 4), (1, u "java/lang/Object"), (0, u "<init>"), (0, u "()V"), (17, .class_ 26), (1, u "jdk/internal/util/Preconditions"), (6, u "checkIndex"), (21, .class_ 56), (0, u "jdk/internal/util/Preconditions$4"), (57, .class_ 115), (0, u "jdk/internal/util/Preconditions$1"), (7, u "SIOOBE_FORMATTER"), (0, u "Ljava/util/function/BiFunction;"), (0, .class_ 126), (0, u "jdk/internal/util/Preconditions$2"), (3, u "AIOOBE_FORMATTER"), (0, .class_ 132), (0, u "jdk/internal/util/Preconditions$3"), (3, u "IOOBE_FORMATTER"), (41, u "(IILjava/util/function/BiFunction;)I")] 15

def k9m0 : Method := { name := "<init>", desc := "()V", sig := { parameters := [], returnType := none }, accessFlags := 1, code := none }
def k9c1 : Code := { maxStack := 3, maxLocals := 3, code := jdk_41_method_11_code, exceptionTable := #[], attributes := #[] }
def k9m1 : Method := { name := "checkIndex", desc := "(IILjava/util/function/BiFunction;)I", sig := { parameters := [.int, .int, (.object "java/util/function/BiFunction")], returnType := some .int }, accessFlags := 9, code := some k9c1 }
/-- jdk/internal/util/Preconditions -/
def k9 : Class := { plain "jdk/internal/util/Preconditions" (some 0) with
  accessFlags := 33
  interfaces := #[]
  cf := some (fileOf pool9 24 #[.nestMembers #[55, 131, 125, 114]] #[{ accessFlags := 1, nameIndex := 5, descriptorIndex := 6, attributes := #[] }, { accessFlags := 9, nameIndex := 33, descriptorIndex := 178, attributes := #[] }] 33 2 #[] #[{ accessFlags := 25, nameIndex := 123, descriptorIndex := 124, attributes := #[] }, { accessFlags := 25, nameIndex := 130, descriptorIndex := 124, attributes := #[] }, { accessFlags := 25, nameIndex := 136, descriptorIndex := 124, attributes := #[] }])
  fields := #[{ name := "SIOOBE_FORMATTER", type := (.object "java/util/function/BiFunction"), accessFlags := 25, slot := 0, constantValue := 0 }, { name := "AIOOBE_FORMATTER", type := (.object "java/util/function/BiFunction"), accessFlags := 25, slot := 1, constantValue := 0 }, { name := "IOOBE_FORMATTER", type := (.object "java/util/function/BiFunction"), accessFlags := 25, slot := 2, constantValue := 0 }]
  methods := #[k9m0, k9m1]
  instanceTypes := #[]
  staticTypes := #[(.object "java/util/function/BiFunction"), (.object "java/util/function/BiFunction"), (.object "java/util/function/BiFunction")]
  resolved := Array.replicate 194 none
  statics := some 1 }

def pool10 : Array CpInfo := pool [(2, .class_ 4), (1, u "java/lang/Object"), (5, .class_ 12), (1, u "com/example/triplewright/triplewright/rdf/TextScanner"), (0, u "text"), (0, u "Ljava/lang/String;"), (2, u "firstLine"), (0, u "I"), (2, u "firstColumn"), (2, u "source"), (40, u "pos"), (2, u "rest"), (0, u "Ljava/io/Reader;"), (6, u "piece"), (62, u "MORE_TEXT"), (0, u "Lcom/example/triplewright/triplewright/rdf/TextScanner$MoreText;"), (6, u "(I)I"), (121, .class_ 271), (1, u "com/example/triplewright/triplewright/rdf/TextScanner$IriReader"), (87, u "hexValue"), (54, .class_ 415), (0, u "com/example/triplewright/triplewright/rdf/TextScanner$MoreText"), (1, u "MALFORMED"), (1, u "LOCAL_ESCAPES")] 92

def k10c0 : Code := { maxStack := 2, maxLocals := 1, code := prog_54_method_53_code, exceptionTable := #[], attributes := #[] }
def k10m0 : Method := { name := "hexValue", desc := "(I)I", sig := { parameters := [.int], returnType := some .int }, accessFlags := 9, code := some k10c0 }
/-- com/example/triplewright/triplewright/rdf/TextScanner -/
def k10 : Class := { plain "com/example/triplewright/triplewright/rdf/TextScanner" (some 0) with
  accessFlags := 49
  interfaces := #[]
  cf := some (fileOf pool10 10 #[.nestMembers #[414, 269]] #[{ accessFlags := 9, nameIndex := 359, descriptorIndex := 147, attributes := #[] }] 49 2 #[] #[{ accessFlags := 25, nameIndex := 417, descriptorIndex := 14, attributes := #[] }, { accessFlags := 26, nameIndex := 419, descriptorIndex := 14, attributes := #[] }, { accessFlags := 26, nameIndex := 139, descriptorIndex := 140, attributes := #[] }, { accessFlags := 18, nameIndex := 24, descriptorIndex := 14, attributes := #[] }, { accessFlags := 2, nameIndex := 13, descriptorIndex := 14, attributes := #[] }, { accessFlags := 2, nameIndex := 17, descriptorIndex := 18, attributes := #[] }, { accessFlags := 2, nameIndex := 21, descriptorIndex := 18, attributes := #[] }, { accessFlags := 2, nameIndex := 65, descriptorIndex := 18, attributes := #[] }, { accessFlags := 2, nameIndex := 68, descriptorIndex := 69, attributes := #[] }, { accessFlags := 2, nameIndex := 76, descriptorIndex := 18, attributes := #[] }])
  fields := #[{ name := "MALFORMED", type := (.object "java/lang/String"), accessFlags := 25, slot := 0, constantValue := 0 }, { name := "LOCAL_ESCAPES", type := (.object "java/lang/String"), accessFlags := 26, slot := 1, constantValue := 0 }, { name := "MORE_TEXT", type := (.object "com/example/triplewright/triplewright/rdf/TextScanner$MoreText"), accessFlags := 26, slot := 2, constantValue := 0 }, { name := "source", type := (.object "java/lang/String"), accessFlags := 18, slot := 0, constantValue := 0 }, { name := "text", type := (.object "java/lang/String"), accessFlags := 2, slot := 1, constantValue := 0 }, { name := "firstLine", type := .int, accessFlags := 2, slot := 2, constantValue := 0 }, { name := "firstColumn", type := .int, accessFlags := 2, slot := 3, constantValue := 0 }, { name := "pos", type := .int, accessFlags := 2, slot := 4, constantValue := 0 }, { name := "rest", type := (.object "java/io/Reader"), accessFlags := 2, slot := 5, constantValue := 0 }, { name := "piece", type := .int, accessFlags := 2, slot := 6, constantValue := 0 }]
  methods := #[k10m0]
  instanceTypes := #[(.object "java/lang/String"), (.object "java/lang/String"), .int, .int, .int, (.object "java/io/Reader"), .int]
  staticTypes := #[(.object "java/lang/String"), (.object "java/lang/String"), (.object "com/example/triplewright/triplewright/rdf/TextScanner$MoreText")]
  resolved := Array.replicate 512 none
  statics := none }

def pool11 : Array CpInfo := pool [(9, u "<init>"), (6, .class_ 18), (1, u "java/lang/Object"), (0, u "()V"), (1, .class_ 23), (1, u "jdk/internal/util/ArraysSupport"), (0, u "LOG2_ARRAY_LONG_INDEX_SCALE"), (0, u "I"), (2, u "U"), (0, u "Ljdk/internal/misc/Unsafe;"), (8, u "BIG_ENDIAN"), (0, u "Z"), (8, u "LOG2_BYTE_BIT_SIZE"), (4, u "LOG2_ARRAY_INT_INDEX_SCALE"), (54, u "JLA"), (0, u "Ljdk/internal/access/JavaLangAccess;"), (11, u "LOG2_ARRAY_BOOLEAN_INDEX_SCALE"), (9, u "LOG2_ARRAY_BYTE_INDEX_SCALE"), (5, u "LOG2_ARRAY_CHAR_INDEX_SCALE"), (5, u "LOG2_ARRAY_SHORT_INDEX_SCALE"), (18, u "LOG2_ARRAY_FLOAT_INDEX_SCALE"), (24, u "LOG2_ARRAY_DOUBLE_INDEX_SCALE"), (89, u "T_BOOLEAN"), (2, u "T_CHAR"), (1, u "T_FLOAT"), (1, u "T_DOUBLE"), (1, u "T_BYTE"), (1, u "T_SHORT"), (1, u "T_INT"), (1, u "T_LONG"), (1, u "SOFT_MAX_ARRAY_LENGTH")] 83

def k11m0 : Method := { name := "<init>", desc := "()V", sig := { parameters := [], returnType := none }, accessFlags := 2, code := none }
/-- jdk/internal/util/ArraysSupport -/
def k11 : Class := { plain "jdk/internal/util/ArraysSupport" (some 0) with
  accessFlags := 33
  interfaces := #[]
  cf := some (fileOf pool11 21 #[] #[{ accessFlags := 2, nameIndex := 9, descriptorIndex := 19, attributes := #[] }] 33 16 #[] #[{ accessFlags := 24, nameIndex := 28, descriptorIndex := 29, attributes := #[] }, { accessFlags := 26, nameIndex := 38, descriptorIndex := 39, attributes := #[] }, { accessFlags := 25, nameIndex := 121, descriptorIndex := 25, attributes := #[] }, { accessFlags := 25, nameIndex := 131, descriptorIndex := 25, attributes := #[] }, { accessFlags := 25, nameIndex := 137, descriptorIndex := 25, attributes := #[] }, { accessFlags := 25, nameIndex := 143, descriptorIndex := 25, attributes := #[] }, { accessFlags := 25, nameIndex := 53, descriptorIndex := 25, attributes := #[] }, { accessFlags := 25, nameIndex := 24, descriptorIndex := 25, attributes := #[] }, { accessFlags := 25, nameIndex := 162, descriptorIndex := 25, attributes := #[] }, { accessFlags := 25, nameIndex := 187, descriptorIndex := 25, attributes := #[] }, { accessFlags := 26, nameIndex := 48, descriptorIndex := 25, attributes := #[] }, { accessFlags := 25, nameIndex := 277, descriptorIndex := 25, attributes := #[] }, { accessFlags := 25, nameIndex := 280, descriptorIndex := 25, attributes := #[] }, { accessFlags := 25, nameIndex := 282, descriptorIndex := 25, attributes := #[] }, { accessFlags := 25, nameIndex := 284, descriptorIndex := 25, attributes := #[] }, { accessFlags := 25, nameIndex := 286, descriptorIndex := 25, attributes := #[] }, { accessFlags := 25, nameIndex := 288, descriptorIndex := 25, attributes := #[] }, { accessFlags := 25, nameIndex := 290, descriptorIndex := 25, attributes := #[] }, { accessFlags := 25, nameIndex := 292, descriptorIndex := 25, attributes := #[] }, { accessFlags := 26, nameIndex := 108, descriptorIndex := 109, attributes := #[] }, { accessFlags := 25, nameIndex := 294, descriptorIndex := 25, attributes := #[] }])
  fields := #[{ name := "U", type := (.object "jdk/internal/misc/Unsafe"), accessFlags := 24, slot := 0, constantValue := 0 }, { name := "BIG_ENDIAN", type := .boolean, accessFlags := 26, slot := 1, constantValue := 0 }, { name := "LOG2_ARRAY_BOOLEAN_INDEX_SCALE", type := .int, accessFlags := 25, slot := 2, constantValue := 0 }, { name := "LOG2_ARRAY_BYTE_INDEX_SCALE", type := .int, accessFlags := 25, slot := 3, constantValue := 0 }, { name := "LOG2_ARRAY_CHAR_INDEX_SCALE", type := .int, accessFlags := 25, slot := 4, constantValue := 0 }, { name := "LOG2_ARRAY_SHORT_INDEX_SCALE", type := .int, accessFlags := 25, slot := 5, constantValue := 0 }, { name := "LOG2_ARRAY_INT_INDEX_SCALE", type := .int, accessFlags := 25, slot := 6, constantValue := 0 }, { name := "LOG2_ARRAY_LONG_INDEX_SCALE", type := .int, accessFlags := 25, slot := 7, constantValue := 0 }, { name := "LOG2_ARRAY_FLOAT_INDEX_SCALE", type := .int, accessFlags := 25, slot := 8, constantValue := 0 }, { name := "LOG2_ARRAY_DOUBLE_INDEX_SCALE", type := .int, accessFlags := 25, slot := 9, constantValue := 0 }, { name := "LOG2_BYTE_BIT_SIZE", type := .int, accessFlags := 26, slot := 10, constantValue := 0 }, { name := "T_BOOLEAN", type := .int, accessFlags := 25, slot := 11, constantValue := 0 }, { name := "T_CHAR", type := .int, accessFlags := 25, slot := 12, constantValue := 0 }, { name := "T_FLOAT", type := .int, accessFlags := 25, slot := 13, constantValue := 0 }, { name := "T_DOUBLE", type := .int, accessFlags := 25, slot := 14, constantValue := 0 }, { name := "T_BYTE", type := .int, accessFlags := 25, slot := 15, constantValue := 0 }, { name := "T_SHORT", type := .int, accessFlags := 25, slot := 16, constantValue := 0 }, { name := "T_INT", type := .int, accessFlags := 25, slot := 17, constantValue := 0 }, { name := "T_LONG", type := .int, accessFlags := 25, slot := 18, constantValue := 0 }, { name := "JLA", type := (.object "jdk/internal/access/JavaLangAccess"), accessFlags := 26, slot := 19, constantValue := 0 }, { name := "SOFT_MAX_ARRAY_LENGTH", type := .int, accessFlags := 25, slot := 20, constantValue := 0 }]
  methods := #[k11m0]
  instanceTypes := #[]
  staticTypes := #[(.object "jdk/internal/misc/Unsafe"), .boolean, .int, .int, .int, .int, .int, .int, .int, .int, .int, .int, .int, .int, .int, .int, .int, .int, .int, (.object "jdk/internal/access/JavaLangAccess"), .int]
  resolved := Array.replicate 378 none
  statics := none }

def pool12 : Array CpInfo := pool [(1, u "java/lang/Cloneable"), (0, .class_ 1), (0, u "java/lang/Object"), (0, .class_ 3)] 3

/-- java/lang/Cloneable -/
def k12 : Class := { plain "java/lang/Cloneable" (some 0) with
  accessFlags := 1537
  interfaces := #[]
  cf := some (fileOf pool12 2 #[] #[] 1537 4 #[] #[])
  fields := #[]
  methods := #[]
  instanceTypes := #[]
  staticTypes := #[]
  resolved := Array.replicate 8 none
  statics := none }

/-- the primitive byte -/
def k13 : Class := { plain "byte" none with kind := .primitive 'B', accessFlags := 0x411 }
/-- [B -/
def k14 : Class := { plain "[B" (some 0) with kind := .array 13 .byte, interfaces := #[12, 2], accessFlags := 1041 }

/-- the primitive int -/
def k15 : Class := { plain "int" none with kind := .primitive 'I', accessFlags := 0x411 }
/-- [I -/
def k16 : Class := { plain "[I" (some 0) with kind := .array 15 .int, interfaces := #[12, 2], accessFlags := 1041 }

def heap : Heap := #[{ cls := 7, slots := #[.long 0, .int 1, .null, .int 0, .null, .int 0, .int 0], vm := .statics 7 },
  { cls := 9, slots := #[.null, .null, .null], vm := .statics 9 }]
def classes : Array Class := #[k0, k1, k2, k3, k4, k5, k6, k7, k8, k9, k10, k11, k12, k13, k14, k15, k16]
def interned : List (Array UInt16 × Addr) := []
def slotsUsed : Nat := 10
def theMethod : MethodId := ⟨1, 1⟩
def args0 : Array Value := #[.int 5, .int 5]
def aboutOver (below : List Frame) : State where
  vm := { classes := classes, interned := interned.toArray }
  heap := heap
  slotsUsed := slotsUsed
  threads := #[{ frames := .invoking theMethod args0 :: below }]
def below0 : List Frame := [.native { method := ⟨0, 0⟩, args := #[] }]
def about1 : State := aboutOver below0
def p0 : Program := .bare "" "" ""
def e0 : Env := launch0.env 0 0 0
theorem w_frames : about1.frames = Frame.invoking theMethod args0 :: below0 := rfl
set_option maxRecDepth 65536 in
theorem w_args : argsFit about1.vm theMethod args0 = true := by decide +kernel
set_option maxRecDepth 65536 in
theorem w_heap : heapFits about1 = true := by decide +kernel
set_option maxRecDepth 65536 in
theorem w_runnable : about1.curStatus? = some .runnable := by decide +kernel
set_option maxRecDepth 65536 in
theorem w_alone : about1.alone = true := by decide +kernel
set_option maxRecDepth 65536 in
theorem w_named : about1.methodNamed? x = some theMethod := by decide +kernel
set_option maxRecDepth 65536 in
theorem w_hears : about1.hears theMethod below0 = true := by decide +kernel
set_option maxRecDepth 65536 in
theorem w_ripe : about1.ripe theMethod args0 below0 = true := by decide +kernel
theorem w_running : about1.status = .running := rfl
set_option maxRecDepth 65536 in
theorem w_room : about1.hasRoom e0.platform room_1 = true :=
  launch0.hasRoom_least _ room_1 (by decide +kernel) (by decide +kernel) (by decide +kernel) (by decide +kernel) (by decide +kernel) (by decide +kernel)
theorem allAtoms_all (ts : List Jvm.Cond) (a : Array Jvm.Value) (st : Jvm.State) : (allAtoms ts).before a st = ts.all (fun c => c.before a st) := by
  induction ts with
  | nil => rfl
  | cons c t ih =>
    show (Jvm.Cond.and c (allAtoms t)).before a st = _
    rw [Jvm.Cond.before_and, ih, List.all_cons]
def words1 : List Jvm.Cond := Jvm.Cond.code x code maxLocals ret :: tables_1
/-- a 'code' word, met by the world's own term for the bytes: nothing is compared byte by byte -/
theorem code_word {y : MethodName} {bytes : ByteArray} {mx : Nat} {rt : Option FieldType} {a : Array Value} {s : State} {m : MethodId} {meth : Method} {c : Code} (h1 : s.methodNamed? y = some m) (h2 : s.vm.method? m = some meth) (h3 : meth.code = some c) (h4 : c.code = bytes)
    (h5 : (c.maxLocals == mx && c.exceptionTable.isEmpty && decide (c.maxStack ≤ mostOperands) && decide (meth.sig.returnType = rt) && !meth.locks && decide (parseMethodDescriptor y.desc = some meth.sig)) = true) : (Jvm.Cond.code y bytes mx rt).before a s = true := by
  simp only [Bool.and_eq_true, beq_iff_eq, Bool.not_eq_true', decide_eq_true_eq] at h5
  obtain ⟨⟨⟨⟨⟨g1, g2⟩, g3⟩, g4⟩, g5⟩, g6⟩ := h5
  simp [Cond.before, Cond.holds, Cond.value, h1, h2, h3, h4, g1, g2, g3, g4, g5, g6]
def isCode : Jvm.Cond → Bool
  | .code _ _ _ _ => true
  | _ => false
theorem all_split {L : List Jvm.Cond} {P : Jvm.Cond → Bool} (h1 : L.all (fun c => isCode c || P c) = true) (h2 : ∀ c ∈ L.filter isCode, P c = true) : L.all P = true := by
  refine List.all_eq_true.mpr fun c hc => ?_
  have h := List.all_eq_true.mp h1 c hc
  rcases Bool.eq_false_or_eq_true (isCode c) with hi | hi
  · exact h2 c (List.mem_filter.mpr ⟨hc, hi⟩)
  · simpa [hi] using h
set_option maxRecDepth 65536 in
theorem w_c0 : (Jvm.Cond.code x code maxLocals ret).before args0 about1 = true := code_word (m := ⟨1, 1⟩) (meth := k1m1) (c := k1c1) (by decide +kernel) rfl rfl rfl (by decide +kernel)
set_option maxRecDepth 65536 in
theorem w_c1 : (Jvm.Cond.code ({ cls := "java/lang/String", name := "charAt", desc := "(I)C" } : Jvm.MethodName) jdk_42_method_56_code (2 : Nat) (Option.some Jvm.ClassFile.FieldType.char)).before args0 about1 = true := code_word (m := ⟨7, 1⟩) (meth := k7m1) (c := k7c1) (by decide +kernel) rfl rfl rfl (by decide +kernel)
set_option maxRecDepth 65536 in
theorem w_c2 : (Jvm.Cond.code ({ cls := "java/lang/String", name := "isLatin1", desc := "()Z" } : Jvm.MethodName) jdk_42_method_154_code (1 : Nat) (Option.some Jvm.ClassFile.FieldType.boolean)).before args0 about1 = true := code_word (m := ⟨7, 2⟩) (meth := k7m2) (c := k7c2) (by decide +kernel) rfl rfl rfl (by decide +kernel)
set_option maxRecDepth 65536 in
theorem w_c3 : (Jvm.Cond.code ({ cls := "java/lang/StringLatin1", name := "charAt", desc := "([BI)C" } : Jvm.MethodName) jdk_43_method_2_code (2 : Nat) (Option.some Jvm.ClassFile.FieldType.char)).before args0 about1 = true := code_word (m := ⟨8, 1⟩) (meth := k8m1) (c := k8c1) (by decide +kernel) rfl rfl rfl (by decide +kernel)
set_option maxRecDepth 65536 in
theorem w_c4 : (Jvm.Cond.code ({ cls := "java/lang/String", name := "checkIndex", desc := "(II)V" } : Jvm.MethodName) jdk_42_method_155_code (2 : Nat) (Option.none : Option Jvm.ClassFile.FieldType)).before args0 about1 = true := code_word (m := ⟨7, 3⟩) (meth := k7m3) (c := k7c3) (by decide +kernel) rfl rfl rfl (by decide +kernel)
set_option maxRecDepth 65536 in
theorem w_c5 : (Jvm.Cond.code ({ cls := "jdk/internal/util/Preconditions", name := "checkIndex", desc := "(IILjava/util/function/BiFunction;)I" } : Jvm.MethodName) jdk_41_method_11_code (3 : Nat) (Option.some Jvm.ClassFile.FieldType.int)).before args0 about1 = true := code_word (m := ⟨9, 1⟩) (meth := k9m1) (c := k9c1) (by decide +kernel) rfl rfl rfl (by decide +kernel)
set_option maxRecDepth 65536 in
theorem w_c6 : (Jvm.Cond.code ({ cls := "com/example/triplewright/triplewright/rdf/TextScanner", name := "hexValue", desc := "(I)I" } : Jvm.MethodName) prog_54_method_53_code (1 : Nat) (Option.some Jvm.ClassFile.FieldType.int)).before args0 about1 = true := code_word (m := ⟨10, 0⟩) (meth := k10m0) (c := k10c0) (by decide +kernel) rfl rfl rfl (by decide +kernel)
def codes1 : List Jvm.Cond := [Jvm.Cond.code x code maxLocals ret, Jvm.Cond.code ({ cls := "java/lang/String", name := "charAt", desc := "(I)C" } : Jvm.MethodName) jdk_42_method_56_code (2 : Nat) (Option.some Jvm.ClassFile.FieldType.char), Jvm.Cond.code ({ cls := "java/lang/String", name := "isLatin1", desc := "()Z" } : Jvm.MethodName) jdk_42_method_154_code (1 : Nat) (Option.some Jvm.ClassFile.FieldType.boolean), Jvm.Cond.code ({ cls := "java/lang/StringLatin1", name := "charAt", desc := "([BI)C" } : Jvm.MethodName) jdk_43_method_2_code (2 : Nat) (Option.some Jvm.ClassFile.FieldType.char), Jvm.Cond.code ({ cls := "java/lang/String", name := "checkIndex", desc := "(II)V" } : Jvm.MethodName) jdk_42_method_155_code (2 : Nat) (Option.none : Option Jvm.ClassFile.FieldType), Jvm.Cond.code ({ cls := "jdk/internal/util/Preconditions", name := "checkIndex", desc := "(IILjava/util/function/BiFunction;)I" } : Jvm.MethodName) jdk_41_method_11_code (3 : Nat) (Option.some Jvm.ClassFile.FieldType.int), Jvm.Cond.code ({ cls := "com/example/triplewright/triplewright/rdf/TextScanner", name := "hexValue", desc := "(I)I" } : Jvm.MethodName) prog_54_method_53_code (1 : Nat) (Option.some Jvm.ClassFile.FieldType.int)]
set_option maxRecDepth 65536 in
theorem codes_eq : words1.filter isCode = codes1 := rfl
theorem w_codes : ∀ c ∈ words1.filter isCode, c.before args0 about1 = true := by
  rw [codes_eq]
  intro c hc
  simp only [codes1, List.mem_cons, List.not_mem_nil, or_false] at hc
  rcases hc with rfl | rfl | rfl | rfl | rfl | rfl | rfl
  · exact w_c0
  · exact w_c1
  · exact w_c2
  · exact w_c3
  · exact w_c4
  · exact w_c5
  · exact w_c6
set_option maxRecDepth 65536 in
theorem w_t1 : (words1.take 24).all (fun c => isCode c || c.before args0 about1) = true := by decide +kernel
set_option maxRecDepth 65536 in
theorem w_t2 : (words1.drop 24).all (fun c => isCode c || c.before args0 about1) = true := by decide +kernel
theorem w_tables : (allAtoms (Jvm.Cond.code x code maxLocals ret :: tables_1)).before args0 about1 = true := by
  rw [allAtoms_all]
  show words1.all (fun c => c.before args0 about1) = true
  refine all_split ?_ w_codes
  rw [← List.take_append_drop 24 words1, List.all_append, w_t1, w_t2]
  rfl
set_option maxRecDepth 65536 in
theorem w_rest : rest_1_c.before args0 about1 = true := by decide +kernel
set_option maxRecDepth 65536 in
theorem w_case : (Jvm.Cond.and given_1 narrow_1).before args0 about1 = true := by decide +kernel
set_option maxRecDepth 65536 in
theorem w_consts : constsHeld consts_1 about1 := Jvm.Lit.constsHeldB_iff.mp (by decide +kernel)
theorem w_applies : (headSpec (Jvm.Cond.code x code maxLocals ret :: tables_1) room_1).applies x e0.platform about1 = true :=
  (Spec.applies_iff w_frames).mpr ⟨w_running, w_runnable, w_alone, w_named, w_hears, w_ripe, w_room, w_tables⟩
theorem atStart : AtStart classFile x code maxLocals ret World_1 tables_1 room_1 Calls_1 rest_1 Pre_1 launch0 p0 e0 about1 theMethod args0 below0 :=
  ⟨lists_1, trivial, launch0.admits_env _ _ _, launch0.least_env, fairChoices_fair.cas, fairChoices_fair.clock, w_frames, w_args, w_heap, w_applies, ⟨w_consts, trivial⟩, w_rest, w_case⟩
end start1
theorem witness_1 : WitnessClaimed_1 := ⟨start1.p0, start1.e0, start1.about1, start1.theMethod, start1.args0, start1.below0, start1.atStart⟩
end Jvm.Pilot.@@N@@
