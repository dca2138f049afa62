import JvmDerived
import JvmDerived.Pilot.@@N@@Statement
import JvmDerived.Pilot.@@N@@Code
set_option linter.unusedVariables false
set_option linter.unusedSimpArgs false
namespace Jvm.RoadKit
open Sem ClassFile Op Lib Jvm.Stand Jvm.Free Jvm.LawKit
section New
variable {p : Program} {l : Launch} {e : Env} {R : Room} {s : State} {m : MethodId} {args : Array Value} {below : List Frame} {meth : Method} {c : Code} {T : State} {locs : List Loc} {cells slots : Nat}
theorem retI (X : Stand p l e R s m args below meth c T locs cells slots) (hx : p.tables.exec = Jvm.exec) {pc : Nat} {Ls : Array Slot} {z : Int32} {rest : List Value} (hret : meth.sig.returnType = some .int) (hd : decode c.code pc = .ok (.ireturn, 1)) {fs : List Frame}
    (hl : ∀ (f : JFrame) (acts : List Action), f.method = m → f.locked = none → f.entered = [] → (doReturn e (T.setTop f) acts (some (.int z))).1 = T.setFrames fs) : Steps p.tables e below (T.setTop (mkF m pc Ls (.int z :: rest))) (T.setFrames fs) := by
  have hm' : T.vm.method? m = some meth := X.method'
  have hn : narrow .int (.int z) = .int z := rfl
  show Steps p.tables e below (T.setTop { method := m, pc := pc, locals := Ls, stack := _ :: rest, locked := none }) _
  jvm_step X.here [X.here.top, hx, hd, hm', hret, hn]
  first | (intro acts; rw [hl _ acts rfl rfl rfl]) | rw [hl _ _ rfl rfl rfl]
  exact Steps.refl _
end New
end Jvm.RoadKit
namespace Jvm.Pilot.@@N@@
open Jvm Jvm.ClassFile Sem Op Lib Jvm.Free Jvm.Stand Jvm.LawKit Jvm.RoadKit Bundle Jvm.Pilot.@@N@@.Jvm.D
theorem pd0 : parseMethodDescriptor "(Ljava/lang/Object;Ljava/lang/String;)Ljava/lang/Object;" = some ⟨[(.object "java/lang/Object"), (.object "java/lang/String")], some (.object "java/lang/Object")⟩ := by decide +kernel
theorem pd1 : parseMethodDescriptor "(III)V" = some ⟨[.int, .int, .int], none⟩ := by decide +kernel
theorem pd2 : parseMethodDescriptor "()V" = some ⟨[], none⟩ := by decide +kernel
theorem pd3 : parseMethodDescriptor "([BII)V" = some ⟨[(.array .byte), .int, .int], none⟩ := by decide +kernel
theorem pd4 : parseMethodDescriptor "(J)V" = some ⟨[.long], none⟩ := by decide +kernel
theorem pd5 : parseMethodDescriptor "(JJ)J" = some ⟨[.long, .long], some .long⟩ := by decide +kernel
theorem pd6 : parseMethodDescriptor "(JI)B" = some ⟨[.long, .int], some .byte⟩ := by decide +kernel
theorem pd7 : parseMethodDescriptor "(II)I" = some ⟨[.int, .int], some .int⟩ := by decide +kernel
theorem pd8 : parseMethodDescriptor "(J)J" = some ⟨[.long], some .long⟩ := by decide +kernel
theorem pd9 : parseMethodDescriptor "()B" = some ⟨[], some .byte⟩ := by decide +kernel
def ArrL (ty : FieldType) (Z : State) (h : Heap) (a : Addr) (vs : List Int32) : Prop := ∃ c : Cell, Arr Z h a c ty ∧ c.slots.size = vs.length ∧ ∀ i, i < vs.length → c.slots[i]? = some (.int (vs.getD i 0))
section OwnArrL
variable {p : Program} {l : Launch} {e : Env} {R : Room} {s : State} {m : MethodId} {args : Array Value} {below : List Frame} {meth : Method} {c : Code} {T : State} {locs : List Loc} {cells slots : Nat} {Z : State} {h h' : Heap} {a : Addr} {ty : FieldType} {vs : List Int32}
theorem ArrL.lt (V : ArrL ty Z h a vs) : a < h.size := by obtain ⟨c, A, -⟩ := V; exact A.lt
theorem ArrL.ext (V : ArrL ty Z h a vs) (E : Ext h h') : ArrL ty Z h' a vs := by obtain ⟨c, A, r⟩ := V; exact ⟨c, A.ext E, r⟩
theorem ArrL.other {b : Addr} {sl : Nat} {v : Value} (V : ArrL ty Z h a vs) (W : Wr h h' b sl v) (q : a ≠ b) : ArrL ty Z h' a vs := by obtain ⟨c, A, r⟩ := V; exact ⟨c, A.other W q, r⟩
theorem ArrL.keep {ws : List Addr} (V : ArrL ty Z h a vs) (K : Keep h h' ws) (q : a ∉ ws) : ArrL ty Z h' a vs := by obtain ⟨c, A, r⟩ := V; exact ⟨c, ⟨K.2.1 a c A.1 q, A.2⟩, r⟩
theorem ArrL.new {k : ClassId} {z : Int32} {n : Nat} (V : Arv Z h a k ty z [] (.int 0)) (hz : z.toNatClampNeg = n) : ArrL ty Z h a (List.replicate n 0) := by
  obtain ⟨c, A, -, S, -, H, -⟩ := V
  refine ⟨c, A, by rw [S, hz, List.length_replicate], fun i hi => ?_⟩
  rw [List.length_replicate] at hi
  rw [H i (by rw [S, hz]; exact hi)]
  simp [hi]
theorem ArrL.set {cl : Cell} {j : Nat} {v : Int32} (A : Arr Z h a cl ty) (S : cl.slots.size = vs.length) (H : ∀ i, i < vs.length → cl.slots[i]? = some (.int (vs.getD i 0))) (hj : j < vs.length) (W : Wr h h' a j (.int v)) : ArrL ty Z h' a (vs.set j v) := by
  refine ⟨_, A.same W, by rw [sz_set, List.length_set]; exact S, fun k hk => ?_⟩
  rw [List.length_set] at hk
  by_cases u : j = k
  · subst u; simp [Cell.setSlot, S, hk]
  · have q := H k hk
    simp only [Cell.setSlot]
    rw [Array.getElem?_setIfInBounds_ne u, q]
    simp [List.getD_eq_getElem?_getD, List.getElem?_set_ne u]
theorem own_al_in {cl : Cell} {n : Nat} {j : Int32} (S : cl.slots.size = n) (hj : ¬ j < 0) (hj2 : j.toNatClampNeg < n) : ¬ (j < 0 ∨ cl.slots.size ≤ j.toNatClampNeg) := by
  rw [S]; rintro (q | q)
  · exact hj q
  · omega
theorem own_al_stI (X : Stand p l e R s m args below meth c T locs cells slots) (hx : p.tables.exec = Jvm.exec) (hZ : Z.Warmed39 s.vm) (eT : T.heap = h) (V : ArrL .int Z h a vs) {i v : Int32} {g : JFrame} {rest : List Value} (hi : ¬ i < 0) (hi2 : i.toNatClampNeg < vs.length)
    (hg : g.method = m) (hs : g.stack = .int v :: .int i :: .ref a :: rest) (hd : decode c.code g.pc = .ok (.iastore, 1)) :
    ∃ T' h', Stand p l e R s m args below meth c T' (locs ++ [⟨a, i.toNatClampNeg⟩]) cells slots ∧ T'.heap = h' ∧ Wr h h' a i.toNatClampNeg (.int v) ∧ ArrL .int Z h' a (vs.set i.toNatClampNeg v) ∧ ∀ target, Steps p.tables e below (T'.setTop { g with pc := g.pc + 1, stack := rest }) target → Steps p.tables e below (T.setTop g) target := by
  obtain ⟨cl, A, S, H⟩ := V
  obtain ⟨T', h', X', e', W, st⟩ := stI X hx hZ eT A (own_al_in S hi hi2) hg hs hd
  exact ⟨T', h', X', e', W, ArrL.set A S H hi2 W, st⟩
theorem own_al_stB (X : Stand p l e R s m args below meth c T locs cells slots) (hx : p.tables.exec = Jvm.exec) (hZ : Z.Warmed39 s.vm) (eT : T.heap = h) (V : ArrL .byte Z h a vs) {i v : Int32} {g : JFrame} {rest : List Value} (hi : ¬ i < 0) (hi2 : i.toNatClampNeg < vs.length)
    (hg : g.method = m) (hs : g.stack = .int v :: .int i :: .ref a :: rest) (hd : decode c.code g.pc = .ok (.bastore, 1)) :
    ∃ T' h', Stand p l e R s m args below meth c T' (locs ++ [⟨a, i.toNatClampNeg⟩]) cells slots ∧ T'.heap = h' ∧ Wr h h' a i.toNatClampNeg (.int (nar .byte v)) ∧ ArrL .byte Z h' a (vs.set i.toNatClampNeg (nar .byte v)) ∧ ∀ target, Steps p.tables e below (T'.setTop { g with pc := g.pc + 1, stack := rest }) target → Steps p.tables e below (T.setTop g) target := by
  obtain ⟨cl, A, S, H⟩ := V
  obtain ⟨T', h', X', e', W, st⟩ := stB X hx hZ eT A (own_al_in S hi hi2) hg hs hd
  exact ⟨T', h', X', e', W, ArrL.set A S H hi2 W, st⟩
theorem own_al_ldI (X : Stand p l e R s m args below meth c T locs cells slots) (hx : p.tables.exec = Jvm.exec) (hZ : Z.Warmed39 s.vm) (eT : T.heap = h) (V : ArrL .int Z h a vs) {j : Int32} {g : JFrame} {rest : List Value} (hj : ¬ j < 0 ∧ j.toNatClampNeg < vs.length)
    (hg : g.method = m) (hs : g.stack = .int j :: .ref a :: rest) (hd : decode c.code g.pc = .ok (.iaload, 1)) (target : State) (k : Steps p.tables e below (T.setTop { g with pc := g.pc + 1, stack := .int (vs.getD j.toNatClampNeg 0) :: rest }) target) : Steps p.tables e below (T.setTop g) target := by
  obtain ⟨cl, A, S, H⟩ := V
  exact X.iaload hx (by rw [eT]; exact A.1) (State.isArrayOf_alike hZ.alike A.2.1) A.2.2 (own_al_in S hj.1 hj.2) (H _ hj.2) hg hs hd target k
theorem own_al_ldB (X : Stand p l e R s m args below meth c T locs cells slots) (hx : p.tables.exec = Jvm.exec) (hZ : Z.Warmed39 s.vm) (eT : T.heap = h) (V : ArrL .byte Z h a vs) {j : Int32} {g : JFrame} {rest : List Value} (hj : ¬ j < 0 ∧ j.toNatClampNeg < vs.length)
    (hg : g.method = m) (hs : g.stack = .int j :: .ref a :: rest) (hd : decode c.code g.pc = .ok (.baload, 1)) (target : State) (k : Steps p.tables e below (T.setTop { g with pc := g.pc + 1, stack := .int (vs.getD j.toNatClampNeg 0) :: rest }) target) : Steps p.tables e below (T.setTop g) target := by
  obtain ⟨cl, A, S, H⟩ := V
  exact X.baloadBytes hx (by rw [eT]; exact A.1) (State.isArrayOf_alike hZ.alike A.2.1) A.2.2 (own_al_in S hj.1 hj.2) (H _ hj.2) hg hs hd target k
theorem own_al_len (X : Stand p l e R s m args below meth c T locs cells slots) (hx : p.tables.exec = Jvm.exec) (hZ : Z.Warmed39 s.vm) (eT : T.heap = h) (V : ArrL ty Z h a vs) {g : JFrame} {rest : List Value} {z : Int32} (hz : vs.length.toInt32 = z)
    (hg : g.method = m) (hs : g.stack = .ref a :: rest) (hd : decode c.code g.pc = .ok (.arraylength, 1)) (target : State) (k : Steps p.tables e below (T.setTop { g with pc := g.pc + 1, stack := .int z :: rest }) target) : Steps p.tables e below (T.setTop g) target := by
  obtain ⟨cl, A, S, H⟩ := V
  refine X.arraylength hx (by rw [eT]; exact A.1) (State.isArrayOf_alike hZ.alike A.2.1) hg hs hd _ ?_
  rw [S, hz]; exact k
end OwnArrL
section OwnUp
variable {p : Program} {l : Launch} {e : Env} {R : Room} {s : State} {m : MethodId} {args : Array Value} {below : List Frame} {meth : Method} {c : Code} {T : State} {locs : List Loc} {cells slots : Nat}
theorem own_callUp (X : Stand p l e R s m args below meth c T locs cells slots) (hexec : p.tables.exec = Jvm.exec) {own owner : String} {index : Nat} {x : MethodName} {bytes : ByteArray} {maxL : Nat} {ret : Option FieldType}
    (hown : s.vm.findClass own = some m.cls) (hlink : (Jvm.Cond.methodLink own index x).before args s = true) (hsame : (Jvm.Cond.sameMethod x.cls owner x.name x.desc).before args s = true) (hstat : (Jvm.Cond.static ⟨owner, x.name, x.desc⟩).before args s = true) (hinit : (Jvm.Cond.initialized owner).before args s = true)
    (hcode : (Jvm.Cond.code ⟨owner, x.name, x.desc⟩ bytes maxL ret).before args s = true) (hy : owner ≠ "java/lang/invoke/MethodHandle" ∧ owner ≠ "java/lang/invoke/VarHandle")
    {W : Nat} {Pre : Pt → Array Value → Prop} {Post : Pt → Array Value → Option Value → Pt → Prop} (hK : Back l R p e below s args ⟨owner, x.name, x.desc⟩ 3 W Pre Post)
    {g : JFrame} (hg : g.method = m) (hsize : g.locals.size = c.maxLocals) {argsL rest : List Value} (hlen : ∀ sig, parseMethodDescriptor x.desc = some sig → argsL.length = sig.parameters.length)
    (hstack : g.stack = argsL.reverse ++ rest) (hW : 2 * g.monitorRoom + (rest.map fun v => v.category).sum ≤ W) (hdg : decode c.code g.pc = .ok (.invokestatic index, 3))
    (hpre : ∀ vm₁, s.WarmedH vm₁ → Pre ⟨T.setVm vm₁, locs, cells, slots⟩ argsL.toArray) :
    ∃ (v : Option Value) (vm₁ : Vm) (B : Pt), s.WarmedH vm₁ ∧ Stand p l e R s m args below meth c B.U B.locs B.cells B.slots ∧ Post ⟨T.setVm vm₁, locs, cells, slots⟩ argsL.toArray v B ∧
      ∀ target, Steps p.tables e below (B.U.setTop { g with pc := g.pc + 3, stack := v.toList ++ rest }) target → Steps p.tables e below (T.setTop g) target := by
  obtain ⟨mk, hnamed⟩ := Cond.code_named hcode
  obtain ⟨methM, cM, hmethM, -, -, -, -, -, -, hsig⟩ := Cond.code_spec hnamed hcode
  obtain ⟨v, vm₁, B, h1, h2, h3, h4⟩ := X.staticBackUp hexec hown hlink hsame hstat hinit hnamed hmethM hsig hy hK hg hsize (Steps.refl _) hlen hstack hW hdg hpre
  exact ⟨v, vm₁, B, h1, h2, h3, fun target k => h4.trans k⟩
end OwnUp

theorem own_strw : ∀ d ∈ Bundle.stringAtoms, d ∈ tables_1 := by
  intro d hd
  simp only [Bundle.stringAtoms, List.mem_cons, List.not_mem_nil, or_false] at hd
  rcases hd with rfl | rfl | rfl | rfl | rfl | rfl | rfl
  · first | exact List.mem_of_getElem? (i := 25) rfl | exact List.mem_of_getElem? (i := 26) rfl | exact List.mem_of_getElem? (i := 0) rfl | exact List.mem_of_getElem? (i := 27) rfl | exact List.mem_of_getElem? (i := 28) rfl | exact List.mem_of_getElem? (i := 29) rfl | exact List.mem_of_getElem? (i := 30) rfl
  · first | exact List.mem_of_getElem? (i := 25) rfl | exact List.mem_of_getElem? (i := 26) rfl | exact List.mem_of_getElem? (i := 0) rfl | exact List.mem_of_getElem? (i := 27) rfl | exact List.mem_of_getElem? (i := 28) rfl | exact List.mem_of_getElem? (i := 29) rfl | exact List.mem_of_getElem? (i := 30) rfl
  · first | exact List.mem_of_getElem? (i := 25) rfl | exact List.mem_of_getElem? (i := 26) rfl | exact List.mem_of_getElem? (i := 0) rfl | exact List.mem_of_getElem? (i := 27) rfl | exact List.mem_of_getElem? (i := 28) rfl | exact List.mem_of_getElem? (i := 29) rfl | exact List.mem_of_getElem? (i := 30) rfl
  · first | exact List.mem_of_getElem? (i := 25) rfl | exact List.mem_of_getElem? (i := 26) rfl | exact List.mem_of_getElem? (i := 0) rfl | exact List.mem_of_getElem? (i := 27) rfl | exact List.mem_of_getElem? (i := 28) rfl | exact List.mem_of_getElem? (i := 29) rfl | exact List.mem_of_getElem? (i := 30) rfl
  · first | exact List.mem_of_getElem? (i := 25) rfl | exact List.mem_of_getElem? (i := 26) rfl | exact List.mem_of_getElem? (i := 0) rfl | exact List.mem_of_getElem? (i := 27) rfl | exact List.mem_of_getElem? (i := 28) rfl | exact List.mem_of_getElem? (i := 29) rfl | exact List.mem_of_getElem? (i := 30) rfl
  · first | exact List.mem_of_getElem? (i := 25) rfl | exact List.mem_of_getElem? (i := 26) rfl | exact List.mem_of_getElem? (i := 0) rfl | exact List.mem_of_getElem? (i := 27) rfl | exact List.mem_of_getElem? (i := 28) rfl | exact List.mem_of_getElem? (i := 29) rfl | exact List.mem_of_getElem? (i := 30) rfl
  · first | exact List.mem_of_getElem? (i := 25) rfl | exact List.mem_of_getElem? (i := 26) rfl | exact List.mem_of_getElem? (i := 0) rfl | exact List.mem_of_getElem? (i := 27) rfl | exact List.mem_of_getElem? (i := 28) rfl | exact List.mem_of_getElem? (i := 29) rfl | exact List.mem_of_getElem? (i := 30) rfl
theorem d1_0 : decode method_2_code 0 = .ok (.lload_n 0, 1) := by decide +kernel
theorem d1_1 : decode method_2_code 1 = .ok (.bipush 8, 2) := by decide +kernel
theorem d1_3 : decode method_2_code 3 = .ok (.iload_n 2, 1) := by decide +kernel
theorem d1_4 : decode method_2_code 4 = .ok (.imul, 1) := by decide +kernel
theorem d1_5 : decode method_2_code 5 = .ok (.lushr, 1) := by decide +kernel
theorem d1_6 : decode method_2_code 6 = .ok (.l2i, 1) := by decide +kernel
theorem d1_7 : decode method_2_code 7 = .ok (.i2b, 1) := by decide +kernel
theorem d1_8 : decode method_2_code 8 = .ok (.ireturn, 1) := by decide +kernel
def F1_0 (v0 : Int64) (v2 : Int32) : Int32 := (((((v0.toUInt64 >>> (((8 : Int32) * v2) &&& 0x3f).toInt64.toUInt64).toInt64).toInt32).toInt8.toInt32).toInt8.toInt32)
theorem b1_0 {p : Program} {l : Launch} {e : Env} {R : Room} {s : State} {m : MethodId} {args : Array Value} {below : List Frame} {meth : Method} {c : Code} {T : State} {locs : List Loc} {cells slots : Nat} {Z : State} {a0 : Array Value} (X : Stand p l e R s m args below meth c T locs cells slots) (hx : p.tables.exec = Jvm.exec) (hZ : Z.Warmed39 s.vm) (hw : ∀ d ∈ tables_1, d.before a0 Z = true) (hby : c.code = method_2_code) (hown : s.vm.findClass "com/example/packwise/packwise/ByteArraySourceReadBytePinLaw" = some m.cls) (v0 : Int64) (v2 : Int32) (hret : meth.sig.returnType = some .byte) {fs : List Frame} (hr : ∀ (f : JFrame) (acts : List Action), f.method = m → f.locked = none → f.entered = [] → (doReturn e (T.setTop f) acts (some (.int (F1_0 v0 v2)))).1 = T.setFrames fs) : Steps p.tables e below (T.setTop (mkF m 0 #[.val (.long v0), .second, .val (.int v2)] [])) (T.setFrames fs) := by
  show Steps p.tables e below (T.setTop (mkF m 0 #[.val (.long v0), .second, .val (.int v2)] [])) _
  refine XS.lloadN X.here hx rfl (hb hby d1_0) rfl ?_
  show Steps p.tables e below (T.setTop (mkF m 1 #[.val (.long v0), .second, .val (.int v2)] [(.long v0)])) _
  refine XS.bipush X.here hx rfl (hb hby d1_1) ?_
  show Steps p.tables e below (T.setTop (mkF m 3 #[.val (.long v0), .second, .val (.int v2)] [(.int (8 : Int32)), (.long v0)])) _
  refine XS.iloadN X.here hx rfl (hb hby d1_3) rfl ?_
  show Steps p.tables e below (T.setTop (mkF m 4 #[.val (.long v0), .second, .val (.int v2)] [(.int v2), (.int (8 : Int32)), (.long v0)])) _
  refine XS.imul X.here hx rfl (hb hby d1_4) rfl ?_
  show Steps p.tables e below (T.setTop (mkF m 5 #[.val (.long v0), .second, .val (.int v2)] [(.int ((8 : Int32) * v2)), (.long v0)])) _
  refine XS.lushr X.here hx rfl (hb hby d1_5) rfl ?_
  show Steps p.tables e below (T.setTop (mkF m 6 #[.val (.long v0), .second, .val (.int v2)] [(.long ((v0.toUInt64 >>> (((8 : Int32) * v2) &&& 0x3f).toInt64.toUInt64).toInt64))])) _
  refine XS.l2i X.here hx rfl (hb hby d1_6) rfl ?_
  show Steps p.tables e below (T.setTop (mkF m 7 #[.val (.long v0), .second, .val (.int v2)] [(.int (((v0.toUInt64 >>> (((8 : Int32) * v2) &&& 0x3f).toInt64.toUInt64).toInt64).toInt32))])) _
  refine XS.i2b X.here hx rfl (hb hby d1_7) rfl ?_
  show Steps p.tables e below (T.setTop (mkF m 8 #[.val (.long v0), .second, .val (.int v2)] [(.int ((((v0.toUInt64 >>> (((8 : Int32) * v2) &&& 0x3f).toInt64.toUInt64).toInt64).toInt32).toInt8.toInt32))])) _
  rw [show (F1_0 v0 v2) = nar .byte ((((v0.toUInt64 >>> (((8 : Int32) * v2) &&& 0x3f).toInt64.toUInt64).toInt64).toInt32).toInt8.toInt32) from rfl] at hr
  exact retN X hx (t := .byte) hret (by simp) (hb hby d1_8) hr
theorem pn_1 : plainName "com/example/packwise/packwise/ByteArraySourceReadBytePinLaw" = true := by first | (simp [plainName, overriddenIn]; done) | decide +kernel
theorem ef_1 (m : MethodId) (q0 : Int64) (p1 : Int32) : entryFrame m #[(.long q0), (.int p1)] 3 = mkF m 0 #[.val (.long q0), .second, .val (.int p1)] [] := by first | (simp [entryFrame, mkF, argsToLocals, Value.category]; done) | rfl
def Q_rm1 (Z : State) (q0 : Int64) (p1 : Int32) (h0 : Heap) (n0 : Nat) (v : Option Value) (h : Heap) (L : List Loc) : Prop := (v = some (.int (F1_0 q0 p1)) ∧ Fr n0 L ∧ h = h0)
set_option maxRecDepth 65536 in
set_option maxHeartbeats 40000000 in
theorem rm1 (l : Launch) (Z : State) (a0 : Array Value) (hw : ∀ d ∈ tables_1, d.before a0 Z = true) (ws : List Jvm.Cond) (q0 : Int64) (p1 : Int32) (h0 : Heap) (n0 : Nat) (Z0 : n0 ≤ h0.size) :
    MetFree l (⟨"com/example/packwise/packwise/ByteArraySourceReadBytePinLaw", "at", "(JI)B"⟩ : MethodName) (head1 (Jvm.Cond.code (⟨"com/example/packwise/packwise/ByteArraySourceReadBytePinLaw", "at", "(JI)B"⟩ : MethodName) method_2_code 3 (some .byte) :: ws) ({ frames := 0, cells := 0, slots := 0, locals := 0 } : Room)) (fun a U => a = #[(.long q0), (.int p1)] ∧ Z.Warmed39 U.vm ∧ U.heap = h0) (fun _ _ _ _ _ => True) (fun _ U o U' => ∃ v L, o = .returned v ∧ Q_rm1 Z q0 p1 h0 n0 v U'.heap L ∧ FrameEnd U o U' L ({ frames := 0, cells := 0, slots := 0, locals := 0 } : Room).cells ({ frames := 0, cells := 0, slots := 0, locals := 0 } : Room).slots) := by
  refine MetFree.of_bodySF (plainFor_of_name pn_1) hisR ?_
  intro p e s m args below meth c s₁ Bd hml0 hP hK
  obtain ⟨rfl, hZ, hh⟩ := hP
  have hx := Bd.exec
  have hby := Bd.bytes
  have hml : c.maxLocals = 3 := hml0
  have hown : s.vm.findClass "com/example/packwise/packwise/ByteArraySourceReadBytePinLaw" = some m.cls := findClass_of_methodNamed Bd.named
  have hnm := (name_of_methodNamed Bd.named Bd.method).1
  have X0 : Stand p l e ({ frames := 0, cells := 0, slots := 0, locals := 0 } : Room) s m #[(.long q0), (.int p1)] below meth c s₁ [] 0 0 := Stand.of_body Bd
  have e0 : s₁.heap = h0 := by rw [← hh, Bd.state]; rfl
  have N0 := Fr.nil n0
  have pre0 : ∀ t, Steps p.tables e below (s₁.setTop (mkF m 0 #[.val (.long q0), .second, .val (.int p1)] [])) t → Steps p.tables e below (s₁.setTop (entryFrame m #[(.long q0), (.int p1)] 3)) t := fun t k => castTop (ef_1 m q0 p1) k
  obtain ⟨fs, hr, hrun, hended, hW, hsame⟩ := X0.leave (v := some (.int (F1_0 q0 p1))) (fun h => by rw [Bd.returns] at h; cases h)
  refine ⟨_, _, pre0 _ ?_, hrun, hended, _, _, rfl, ⟨rfl, N0, e0⟩, ⟨_, rfl⟩, hW, hsame.mono (by decide) (by decide)⟩
  exact b1_0 X0 hx hZ hw hby hown q0 p1 Bd.returns hr
theorem d2_0 : decode jdk_29_method_69_code 0 = .ok (.iload_n 0, 1) := by decide +kernel
theorem d2_1 : decode jdk_29_method_69_code 1 = .ok (.iload_n 1, 1) := by decide +kernel
theorem d2_2 : decode jdk_29_method_69_code 2 = .ok (.if_icmp .gt 7, 3) := by decide +kernel
theorem d2_5 : decode jdk_29_method_69_code 5 = .ok (.iload_n 0, 1) := by decide +kernel
theorem d2_6 : decode jdk_29_method_69_code 6 = .ok (.goto 4, 3) := by decide +kernel
theorem d2_9 : decode jdk_29_method_69_code 9 = .ok (.iload_n 1, 1) := by decide +kernel
theorem d2_10 : decode jdk_29_method_69_code 10 = .ok (.ireturn, 1) := by decide +kernel
def F2_9 (v1 : Int32) : Int32 := v1
theorem b2_9 {p : Program} {l : Launch} {e : Env} {R : Room} {s : State} {m : MethodId} {args : Array Value} {below : List Frame} {meth : Method} {c : Code} {T : State} {locs : List Loc} {cells slots : Nat} {Z : State} {a0 : Array Value} (X : Stand p l e R s m args below meth c T locs cells slots) (hx : p.tables.exec = Jvm.exec) (hZ : Z.Warmed39 s.vm) (hw : ∀ d ∈ tables_1, d.before a0 Z = true) (hby : c.code = jdk_29_method_69_code) (hown : s.vm.findClass "java/lang/Math" = some m.cls) (v0 : Int32) (v1 : Int32) (hret : meth.sig.returnType = some .int) {fs : List Frame} (hr : ∀ (f : JFrame) (acts : List Action), f.method = m → f.locked = none → f.entered = [] → (doReturn e (T.setTop f) acts (some (.int (F2_9 v1)))).1 = T.setFrames fs) : Steps p.tables e below (T.setTop (mkF m 9 #[.val (.int v0), .val (.int v1)] [])) (T.setFrames fs) := by
  show Steps p.tables e below (T.setTop (mkF m 9 #[.val (.int v0), .val (.int v1)] [])) _
  refine XS.iloadN X.here hx rfl (hb hby d2_9) rfl ?_
  show Steps p.tables e below (T.setTop (mkF m 10 #[.val (.int v0), .val (.int v1)] [(.int v1)])) _
  rw [show (F2_9 v1) = v1 from rfl] at hr
  exact retI X hx hret (hb hby d2_10) hr
def F2_5 (v0 : Int32) : Int32 := v0
theorem b2_5 {p : Program} {l : Launch} {e : Env} {R : Room} {s : State} {m : MethodId} {args : Array Value} {below : List Frame} {meth : Method} {c : Code} {T : State} {locs : List Loc} {cells slots : Nat} {Z : State} {a0 : Array Value} (X : Stand p l e R s m args below meth c T locs cells slots) (hx : p.tables.exec = Jvm.exec) (hZ : Z.Warmed39 s.vm) (hw : ∀ d ∈ tables_1, d.before a0 Z = true) (hby : c.code = jdk_29_method_69_code) (hown : s.vm.findClass "java/lang/Math" = some m.cls) (v0 : Int32) (v1 : Int32) (hret : meth.sig.returnType = some .int) {fs : List Frame} (hr : ∀ (f : JFrame) (acts : List Action), f.method = m → f.locked = none → f.entered = [] → (doReturn e (T.setTop f) acts (some (.int (F2_5 v0)))).1 = T.setFrames fs) : Steps p.tables e below (T.setTop (mkF m 5 #[.val (.int v0), .val (.int v1)] [])) (T.setFrames fs) := by
  show Steps p.tables e below (T.setTop (mkF m 5 #[.val (.int v0), .val (.int v1)] [])) _
  refine XS.iloadN X.here hx rfl (hb hby d2_5) rfl ?_
  show Steps p.tables e below (T.setTop (mkF m 6 #[.val (.int v0), .val (.int v1)] [(.int v0)])) _
  refine XS.goto X.here hx rfl (pc0 := 6) (pc' := 10) rfl (hb hby d2_6) (by decide) (by decide) ?_
  show Steps p.tables e below (T.setTop (mkF m 10 #[.val (.int v0), .val (.int v1)] [(.int v0)])) _
  rw [show (F2_5 v0) = v0 from rfl] at hr
  exact retI X hx hret (hb hby d2_10) hr
def F2_0 (v0 : Int32) (v1 : Int32) : Int32 := if v1 < v0 then (F2_9 v1) else (F2_5 v0)
theorem b2_0 {p : Program} {l : Launch} {e : Env} {R : Room} {s : State} {m : MethodId} {args : Array Value} {below : List Frame} {meth : Method} {c : Code} {T : State} {locs : List Loc} {cells slots : Nat} {Z : State} {a0 : Array Value} (X : Stand p l e R s m args below meth c T locs cells slots) (hx : p.tables.exec = Jvm.exec) (hZ : Z.Warmed39 s.vm) (hw : ∀ d ∈ tables_1, d.before a0 Z = true) (hby : c.code = jdk_29_method_69_code) (hown : s.vm.findClass "java/lang/Math" = some m.cls) (v0 : Int32) (v1 : Int32) (hret : meth.sig.returnType = some .int) {fs : List Frame} (hr : ∀ (f : JFrame) (acts : List Action), f.method = m → f.locked = none → f.entered = [] → (doReturn e (T.setTop f) acts (some (.int (F2_0 v0 v1)))).1 = T.setFrames fs) : Steps p.tables e below (T.setTop (mkF m 0 #[.val (.int v0), .val (.int v1)] [])) (T.setFrames fs) := by
  show Steps p.tables e below (T.setTop (mkF m 0 #[.val (.int v0), .val (.int v1)] [])) _
  refine XS.iloadN X.here hx rfl (hb hby d2_0) rfl ?_
  show Steps p.tables e below (T.setTop (mkF m 1 #[.val (.int v0), .val (.int v1)] [(.int v0)])) _
  refine XS.iloadN X.here hx rfl (hb hby d2_1) rfl ?_
  show Steps p.tables e below (T.setTop (mkF m 2 #[.val (.int v0), .val (.int v1)] [(.int v1), (.int v0)])) _
  by_cases hc : v1 < v0
  · rw [show (F2_0 v0 v1) = (F2_9 v1) from if_pos hc] at hr
    refine XS.icmpYes X.here hx rfl (pc0 := 2) (pc' := 9) rfl (hb hby d2_2) rfl (tlt hc).2.2.1 (by decide) (by decide) ?_
    exact b2_9 X hx hZ hw hby hown v0 v1 hret hr
  · rw [show (F2_0 v0 v1) = (F2_5 v0) from if_neg hc] at hr
    refine XS.icmpNo X.here hx rfl (hb hby d2_2) rfl (flt hc).2.2.1 ?_
    exact b2_5 X hx hZ hw hby hown v0 v1 hret hr
theorem ef_2 (m : MethodId) (p0 : Int32) (p1 : Int32) : entryFrame m #[(.int p0), (.int p1)] 2 = mkF m 0 #[.val (.int p0), .val (.int p1)] [] := by first | (simp [entryFrame, mkF, argsToLocals, Value.category]; done) | rfl
def Q_rm2 (Z : State) (p0 : Int32) (p1 : Int32) (h0 : Heap) (n0 : Nat) (v : Option Value) (h : Heap) (L : List Loc) : Prop := (v = some (.int (F2_0 p0 p1)) ∧ Fr n0 L ∧ h = h0)
set_option maxRecDepth 65536 in
set_option maxHeartbeats 40000000 in
theorem rm2 (l : Launch) (Z : State) (a0 : Array Value) (hw : ∀ d ∈ tables_1, d.before a0 Z = true) (ws : List Jvm.Cond) (p0 : Int32) (p1 : Int32) (h0 : Heap) (n0 : Nat) (Z0 : n0 ≤ h0.size) :
    MetFree l (⟨"java/lang/Math", "min", "(II)I"⟩ : MethodName) (head1 (Jvm.Cond.code (⟨"java/lang/Math", "min", "(II)I"⟩ : MethodName) jdk_29_method_69_code 2 (some .int) :: ws) ({ frames := 0, cells := 0, slots := 0, locals := 0 } : Room)) (fun a U => a = #[(.int p0), (.int p1)] ∧ Z.Warmed39 U.vm ∧ U.heap = h0) (fun _ _ _ _ _ => True) (fun _ U o U' => ∃ v L, o = .returned v ∧ Q_rm2 Z p0 p1 h0 n0 v U'.heap L ∧ FrameEnd U o U' L ({ frames := 0, cells := 0, slots := 0, locals := 0 } : Room).cells ({ frames := 0, cells := 0, slots := 0, locals := 0 } : Room).slots) := by
  refine MetFree.of_bodySF (Jvm.Free.JP.mathPlain rfl (by decide +kernel)) hisR ?_
  intro p e s m args below meth c s₁ Bd hml0 hP hK
  obtain ⟨rfl, hZ, hh⟩ := hP
  have hx := Bd.exec
  have hby := Bd.bytes
  have hml : c.maxLocals = 2 := hml0
  have hown : s.vm.findClass "java/lang/Math" = some m.cls := findClass_of_methodNamed Bd.named
  have hnm := (name_of_methodNamed Bd.named Bd.method).1
  have X0 : Stand p l e ({ frames := 0, cells := 0, slots := 0, locals := 0 } : Room) s m #[(.int p0), (.int p1)] below meth c s₁ [] 0 0 := Stand.of_body Bd
  have e0 : s₁.heap = h0 := by rw [← hh, Bd.state]; rfl
  have N0 := Fr.nil n0
  have pre0 : ∀ t, Steps p.tables e below (s₁.setTop (mkF m 0 #[.val (.int p0), .val (.int p1)] [])) t → Steps p.tables e below (s₁.setTop (entryFrame m #[(.int p0), (.int p1)] 2)) t := fun t k => castTop (ef_2 m p0 p1) k
  obtain ⟨fs, hr, hrun, hended, hW, hsame⟩ := X0.leave (v := some (.int (F2_0 p0 p1))) (fun h => by rw [Bd.returns] at h; cases h)
  refine ⟨_, _, pre0 _ ?_, hrun, hended, _, _, rfl, ⟨rfl, N0, e0⟩, ⟨_, rfl⟩, hW, hsame.mono (by decide) (by decide)⟩
  exact b2_0 X0 hx hZ hw hby hown p0 p1 Bd.returns hr
theorem d11_0 : decode jdk_29_method_70_code 0 = .ok (.lload_n 0, 1) := by decide +kernel
theorem d11_1 : decode jdk_29_method_70_code 1 = .ok (.lload_n 2, 1) := by decide +kernel
theorem d11_2 : decode jdk_29_method_70_code 2 = .ok (.lcmp, 1) := by decide +kernel
theorem d11_3 : decode jdk_29_method_70_code 3 = .ok (.ifCond .gt 7, 3) := by decide +kernel
theorem d11_6 : decode jdk_29_method_70_code 6 = .ok (.lload_n 0, 1) := by decide +kernel
theorem d11_7 : decode jdk_29_method_70_code 7 = .ok (.goto 4, 3) := by decide +kernel
theorem d11_10 : decode jdk_29_method_70_code 10 = .ok (.lload_n 2, 1) := by decide +kernel
theorem d11_11 : decode jdk_29_method_70_code 11 = .ok (.lreturn, 1) := by decide +kernel
def F11_10 (v2 : Int64) : Int64 := v2
theorem b11_10 {p : Program} {l : Launch} {e : Env} {R : Room} {s : State} {m : MethodId} {args : Array Value} {below : List Frame} {meth : Method} {c : Code} {T : State} {locs : List Loc} {cells slots : Nat} {Z : State} {a0 : Array Value} (X : Stand p l e R s m args below meth c T locs cells slots) (hx : p.tables.exec = Jvm.exec) (hZ : Z.Warmed39 s.vm) (hw : ∀ d ∈ tables_1, d.before a0 Z = true) (hby : c.code = jdk_29_method_70_code) (hown : s.vm.findClass "java/lang/Math" = some m.cls) (v0 : Int64) (v2 : Int64) (hret : meth.sig.returnType = some .long) {fs : List Frame} (hr : ∀ (f : JFrame) (acts : List Action), f.method = m → f.locked = none → f.entered = [] → (doReturn e (T.setTop f) acts (some (.long (F11_10 v2)))).1 = T.setFrames fs) : Steps p.tables e below (T.setTop (mkF m 10 #[.val (.long v0), .second, .val (.long v2), .second] [])) (T.setFrames fs) := by
  show Steps p.tables e below (T.setTop (mkF m 10 #[.val (.long v0), .second, .val (.long v2), .second] [])) _
  refine XS.lloadN X.here hx rfl (hb hby d11_10) rfl ?_
  show Steps p.tables e below (T.setTop (mkF m 11 #[.val (.long v0), .second, .val (.long v2), .second] [(.long v2)])) _
  rw [show (F11_10 v2) = v2 from rfl] at hr
  exact X.lreturnOut hx hret (hb hby d11_11) hr
def F11_6 (v0 : Int64) : Int64 := v0
theorem b11_6 {p : Program} {l : Launch} {e : Env} {R : Room} {s : State} {m : MethodId} {args : Array Value} {below : List Frame} {meth : Method} {c : Code} {T : State} {locs : List Loc} {cells slots : Nat} {Z : State} {a0 : Array Value} (X : Stand p l e R s m args below meth c T locs cells slots) (hx : p.tables.exec = Jvm.exec) (hZ : Z.Warmed39 s.vm) (hw : ∀ d ∈ tables_1, d.before a0 Z = true) (hby : c.code = jdk_29_method_70_code) (hown : s.vm.findClass "java/lang/Math" = some m.cls) (v0 : Int64) (v2 : Int64) (hret : meth.sig.returnType = some .long) {fs : List Frame} (hr : ∀ (f : JFrame) (acts : List Action), f.method = m → f.locked = none → f.entered = [] → (doReturn e (T.setTop f) acts (some (.long (F11_6 v0)))).1 = T.setFrames fs) : Steps p.tables e below (T.setTop (mkF m 6 #[.val (.long v0), .second, .val (.long v2), .second] [])) (T.setFrames fs) := by
  show Steps p.tables e below (T.setTop (mkF m 6 #[.val (.long v0), .second, .val (.long v2), .second] [])) _
  refine XS.lloadN X.here hx rfl (hb hby d11_6) rfl ?_
  show Steps p.tables e below (T.setTop (mkF m 7 #[.val (.long v0), .second, .val (.long v2), .second] [(.long v0)])) _
  refine XS.goto X.here hx rfl (pc0 := 7) (pc' := 11) rfl (hb hby d11_7) (by decide) (by decide) ?_
  show Steps p.tables e below (T.setTop (mkF m 11 #[.val (.long v0), .second, .val (.long v2), .second] [(.long v0)])) _
  rw [show (F11_6 v0) = v0 from rfl] at hr
  exact X.lreturnOut hx hret (hb hby d11_11) hr
def F11_0 (v0 : Int64) (v2 : Int64) : Int64 := if v2 < v0 then (F11_10 v2) else (F11_6 v0)
theorem b11_0 {p : Program} {l : Launch} {e : Env} {R : Room} {s : State} {m : MethodId} {args : Array Value} {below : List Frame} {meth : Method} {c : Code} {T : State} {locs : List Loc} {cells slots : Nat} {Z : State} {a0 : Array Value} (X : Stand p l e R s m args below meth c T locs cells slots) (hx : p.tables.exec = Jvm.exec) (hZ : Z.Warmed39 s.vm) (hw : ∀ d ∈ tables_1, d.before a0 Z = true) (hby : c.code = jdk_29_method_70_code) (hown : s.vm.findClass "java/lang/Math" = some m.cls) (v0 : Int64) (v2 : Int64) (hret : meth.sig.returnType = some .long) {fs : List Frame} (hr : ∀ (f : JFrame) (acts : List Action), f.method = m → f.locked = none → f.entered = [] → (doReturn e (T.setTop f) acts (some (.long (F11_0 v0 v2)))).1 = T.setFrames fs) : Steps p.tables e below (T.setTop (mkF m 0 #[.val (.long v0), .second, .val (.long v2), .second] [])) (T.setFrames fs) := by
  show Steps p.tables e below (T.setTop (mkF m 0 #[.val (.long v0), .second, .val (.long v2), .second] [])) _
  refine XS.lloadN X.here hx rfl (hb hby d11_0) rfl ?_
  show Steps p.tables e below (T.setTop (mkF m 1 #[.val (.long v0), .second, .val (.long v2), .second] [(.long v0)])) _
  refine XS.lloadN X.here hx rfl (hb hby d11_1) rfl ?_
  show Steps p.tables e below (T.setTop (mkF m 2 #[.val (.long v0), .second, .val (.long v2), .second] [(.long v2), (.long v0)])) _
  refine XS.lcmp X.here hx rfl (hb hby d11_2) rfl ?_
  show Steps p.tables e below (T.setTop (mkF m 3 #[.val (.long v0), .second, .val (.long v2), .second] [(.int (lcmpW v0 v2))])) _
  by_cases hc : v2 < v0
  · rw [show (F11_0 v0 v2) = (F11_10 v2) from if_pos hc] at hr
    refine XS.ifYes X.here hx rfl (pc0 := 3) (pc' := 10) rfl (hb hby d11_3) rfl ((if0 _ _).trans (tlt ((lw_gt _ _).mpr hc)).2.2.1) (by decide) (by decide) ?_
    exact b11_10 X hx hZ hw hby hown v0 v2 hret hr
  · rw [show (F11_0 v0 v2) = (F11_6 v0) from if_neg hc] at hr
    refine XS.ifNo X.here hx rfl (hb hby d11_3) rfl ((if0 _ _).trans (flt (fun q => hc ((lw_gt _ _).mp q))).2.2.1) ?_
    exact b11_6 X hx hZ hw hby hown v0 v2 hret hr
theorem ef_11 (m : MethodId) (q0 : Int64) (q1 : Int64) : entryFrame m #[(.long q0), (.long q1)] 4 = mkF m 0 #[.val (.long q0), .second, .val (.long q1), .second] [] := by first | (simp [entryFrame, mkF, argsToLocals, Value.category]; done) | rfl
def Q_rm11 (Z : State) (q0 : Int64) (q1 : Int64) (h0 : Heap) (n0 : Nat) (v : Option Value) (h : Heap) (L : List Loc) : Prop := (v = some (.long (F11_0 q0 q1)) ∧ Fr n0 L ∧ h = h0)
set_option maxRecDepth 65536 in
set_option maxHeartbeats 40000000 in
theorem rm11 (l : Launch) (Z : State) (a0 : Array Value) (hw : ∀ d ∈ tables_1, d.before a0 Z = true) (ws : List Jvm.Cond) (q0 : Int64) (q1 : Int64) (h0 : Heap) (n0 : Nat) (Z0 : n0 ≤ h0.size) :
    MetFree l (⟨"java/lang/Math", "min", "(JJ)J"⟩ : MethodName) (head1 (Jvm.Cond.code (⟨"java/lang/Math", "min", "(JJ)J"⟩ : MethodName) jdk_29_method_70_code 4 (some .long) :: ws) ({ frames := 0, cells := 0, slots := 0, locals := 0 } : Room)) (fun a U => a = #[(.long q0), (.long q1)] ∧ Z.Warmed39 U.vm ∧ U.heap = h0) (fun _ _ _ _ _ => True) (fun _ U o U' => ∃ v L, o = .returned v ∧ Q_rm11 Z q0 q1 h0 n0 v U'.heap L ∧ FrameEnd U o U' L ({ frames := 0, cells := 0, slots := 0, locals := 0 } : Room).cells ({ frames := 0, cells := 0, slots := 0, locals := 0 } : Room).slots) := by
  refine MetFree.of_bodySF (Jvm.Free.JP.mathPlain rfl (by decide +kernel)) hisR ?_
  intro p e s m args below meth c s₁ Bd hml0 hP hK
  obtain ⟨rfl, hZ, hh⟩ := hP
  have hx := Bd.exec
  have hby := Bd.bytes
  have hml : c.maxLocals = 4 := hml0
  have hown : s.vm.findClass "java/lang/Math" = some m.cls := findClass_of_methodNamed Bd.named
  have hnm := (name_of_methodNamed Bd.named Bd.method).1
  have X0 : Stand p l e ({ frames := 0, cells := 0, slots := 0, locals := 0 } : Room) s m #[(.long q0), (.long q1)] below meth c s₁ [] 0 0 := Stand.of_body Bd
  have e0 : s₁.heap = h0 := by rw [← hh, Bd.state]; rfl
  have N0 := Fr.nil n0
  have pre0 : ∀ t, Steps p.tables e below (s₁.setTop (mkF m 0 #[.val (.long q0), .second, .val (.long q1), .second] [])) t → Steps p.tables e below (s₁.setTop (entryFrame m #[(.long q0), (.long q1)] 4)) t := fun t k => castTop (ef_11 m q0 q1) k
  obtain ⟨fs, hr, hrun, hended, hW, hsame⟩ := X0.leave (v := some (.long (F11_0 q0 q1))) (fun h => by rw [Bd.returns] at h; cases h)
  refine ⟨_, _, pre0 _ ?_, hrun, hended, _, _, rfl, ⟨rfl, N0, e0⟩, ⟨_, rfl⟩, hW, hsame.mono (by decide) (by decide)⟩
  exact b11_0 X0 hx hZ hw hby hown q0 q1 Bd.returns hr
theorem d4_0 : decode prog_11_method_1_code 0 = .ok (.aload_n 0, 1) := by decide +kernel
theorem d4_1 : decode prog_11_method_1_code 1 = .ok (.invokespecial 1, 3) := by decide +kernel
theorem d4_4 : decode prog_11_method_1_code 4 = .ok (.return_, 1) := by decide +kernel
theorem pn_4 : plainName "com/example/packwise/packwise/ByteSource" = true := by first | (simp [plainName, overriddenIn]; done) | decide +kernel
theorem ef_4 (m : MethodId) (r0 : Addr) : entryFrame m #[(.ref r0)] 1 = mkF m 0 #[.val (.ref r0)] [] := by first | (simp [entryFrame, mkF, argsToLocals, Value.category]; done) | rfl
def Q_rm4 (Z : State) (r0 : Addr) (h0 : Heap) (n0 : Nat) (v : Option Value) (h : Heap) (L : List Loc) : Prop := (v = none ∧ Fr n0 L ∧ h = h0)
set_option maxRecDepth 65536 in
set_option maxHeartbeats 40000000 in
theorem rm4 (l : Launch) (Z : State) (a0 : Array Value) (hw : ∀ d ∈ tables_1, d.before a0 Z = true) (ws : List Jvm.Cond) (r0 : Addr) (h0 : Heap) (n0 : Nat) (Z0 : n0 ≤ h0.size) :
    MetFree l (⟨"com/example/packwise/packwise/ByteSource", "<init>", "()V"⟩ : MethodName) (head1 (Jvm.Cond.code (⟨"com/example/packwise/packwise/ByteSource", "<init>", "()V"⟩ : MethodName) prog_11_method_1_code 1 none :: ws) ({ frames := 1, cells := 0, slots := 0, locals := 12 } : Room)) (fun a U => a = #[(.ref r0)] ∧ Z.Warmed39 U.vm ∧ U.heap = h0) (fun _ _ _ _ _ => True) (fun _ U o U' => ∃ v L, o = .returned v ∧ Q_rm4 Z r0 h0 n0 v U'.heap L ∧ FrameEnd U o U' L ({ frames := 1, cells := 0, slots := 0, locals := 12 } : Room).cells ({ frames := 1, cells := 0, slots := 0, locals := 12 } : Room).slots) := by
  refine MetFree.of_bodySF (plainFor_of_name pn_4) hisR ?_
  intro p e s m args below meth c s₁ Bd hml0 hP hK
  obtain ⟨rfl, hZ, hh⟩ := hP
  have hx := Bd.exec
  have hby := Bd.bytes
  have hml : c.maxLocals = 1 := hml0
  have hown : s.vm.findClass "com/example/packwise/packwise/ByteSource" = some m.cls := findClass_of_methodNamed Bd.named
  have hnm := (name_of_methodNamed Bd.named Bd.method).1
  have X0 : Stand p l e ({ frames := 1, cells := 0, slots := 0, locals := 12 } : Room) s m #[(.ref r0)] below meth c s₁ [] 0 0 := Stand.of_body Bd
  have e0 : s₁.heap = h0 := by rw [← hh, Bd.state]; rfl
  have N0 := Fr.nil n0
  have pre0 : ∀ t, Steps p.tables e below (s₁.setTop (mkF m 0 #[.val (.ref r0)] [])) t → Steps p.tables e below (s₁.setTop (entryFrame m #[(.ref r0)] 1)) t := fun t k => castTop (ef_4 m r0) k
  obtain ⟨T1, X1, e1, st1⟩ := initO X0 hx hZ hown (hw _ (List.mem_of_getElem? (i := 21) rfl)) (hw _ (List.mem_of_getElem? (i := 22) rfl)) (hw _ (List.mem_of_getElem? (i := 23) rfl)) e0 (g := (mkF m 1 #[.val (.ref r0)] [(.ref r0)])) rfl (by rw [hml]; rfl) rfl (hb hby d4_1) (by decide) (W := 0) (by show 2 * 0 + _ ≤ _; exact Nat.le_of_eq rfl) (by decide)
  obtain ⟨fs, hr, hrun, hended, hW, hsame⟩ := X1.leave (v := none) (fun _ => rfl)
  refine ⟨_, _, pre0 _ ?_, hrun, hended, _, _, rfl, ⟨rfl, N0, e1⟩, ⟨_, rfl⟩, hW, hsame.mono (by decide) (by decide)⟩
  show Steps p.tables e below (s₁.setTop (mkF m 0 #[.val (.ref r0)] [])) _
  refine XS.aloadN X0.here hx rfl (hb hby d4_0) rfl rfl ?_
  show Steps p.tables e below (s₁.setTop (mkF m 1 #[.val (.ref r0)] [(.ref r0)])) _
  refine st1 _ ?_
  show Steps p.tables e below (T1.setTop (mkF m 4 #[.val (.ref r0)] [])) _
  exact X1.returnOut hx Bd.returns (hb hby d4_4) hr
theorem d6_0 : decode jdk_31_method_11_code 0 = .ok (.aload_n 0, 1) := by decide +kernel
theorem d6_1 : decode jdk_31_method_11_code 1 = .ok (.ifnonnull 12, 3) := by decide +kernel
theorem d6_13 : decode jdk_31_method_11_code 13 = .ok (.aload_n 0, 1) := by decide +kernel
theorem d6_14 : decode jdk_31_method_11_code 14 = .ok (.areturn, 1) := by decide +kernel
theorem pn_6 : plainName "java/util/Objects" = true := by first | (simp [plainName, overriddenIn]; done) | decide +kernel
theorem ef_6 (m : MethodId) (r0 : Addr) (r1 : Addr) : entryFrame m #[(.ref r0), (.ref r1)] 2 = mkF m 0 #[.val (.ref r0), .val (.ref r1)] [] := by first | (simp [entryFrame, mkF, argsToLocals, Value.category]; done) | rfl
def Q_rm6 (Z : State) (r0 : Addr) (r1 : Addr) (h0 : Heap) (n0 : Nat) (v : Option Value) (h : Heap) (L : List Loc) : Prop := (v = some (.ref r0) ∧ Fr n0 L ∧ h = h0)
set_option maxRecDepth 65536 in
set_option maxHeartbeats 40000000 in
theorem rm6 (l : Launch) (Z : State) (a0 : Array Value) (hw : ∀ d ∈ tables_1, d.before a0 Z = true) (ws : List Jvm.Cond) (r0 : Addr) (r1 : Addr) (h0 : Heap) (n0 : Nat) (Z0 : n0 ≤ h0.size) :
    MetFree l (⟨"java/util/Objects", "requireNonNull", "(Ljava/lang/Object;Ljava/lang/String;)Ljava/lang/Object;"⟩ : MethodName) (head1 (Jvm.Cond.code (⟨"java/util/Objects", "requireNonNull", "(Ljava/lang/Object;Ljava/lang/String;)Ljava/lang/Object;"⟩ : MethodName) jdk_31_method_11_code 2 (some (.object "java/lang/Object")) :: ws) ({ frames := 0, cells := 0, slots := 0, locals := 0 } : Room)) (fun a U => a = #[(.ref r0), (.ref r1)] ∧ Z.Warmed39 U.vm ∧ U.heap = h0) (fun _ _ _ _ _ => True) (fun _ U o U' => ∃ v L, o = .returned v ∧ Q_rm6 Z r0 r1 h0 n0 v U'.heap L ∧ FrameEnd U o U' L ({ frames := 0, cells := 0, slots := 0, locals := 0 } : Room).cells ({ frames := 0, cells := 0, slots := 0, locals := 0 } : Room).slots) := by
  refine MetFree.of_bodySF (plainFor_of_name pn_6) hisR ?_
  intro p e s m args below meth c s₁ Bd hml0 hP hK
  obtain ⟨rfl, hZ, hh⟩ := hP
  have hx := Bd.exec
  have hby := Bd.bytes
  have hml : c.maxLocals = 2 := hml0
  have hown : s.vm.findClass "java/util/Objects" = some m.cls := findClass_of_methodNamed Bd.named
  have hnm := (name_of_methodNamed Bd.named Bd.method).1
  have X0 : Stand p l e ({ frames := 0, cells := 0, slots := 0, locals := 0 } : Room) s m #[(.ref r0), (.ref r1)] below meth c s₁ [] 0 0 := Stand.of_body Bd
  have e0 : s₁.heap = h0 := by rw [← hh, Bd.state]; rfl
  have N0 := Fr.nil n0
  have pre0 : ∀ t, Steps p.tables e below (s₁.setTop (mkF m 0 #[.val (.ref r0), .val (.ref r1)] [])) t → Steps p.tables e below (s₁.setTop (entryFrame m #[(.ref r0), (.ref r1)] 2)) t := fun t k => castTop (ef_6 m r0 r1) k
  obtain ⟨fs, hr, hrun, hended, hW, hsame⟩ := X0.leave (v := some (.ref r0)) (fun h => by rw [Bd.returns] at h; cases h)
  refine ⟨_, _, pre0 _ ?_, hrun, hended, _, _, rfl, ⟨rfl, N0, e0⟩, ⟨_, rfl⟩, hW, hsame.mono (by decide) (by decide)⟩
  show Steps p.tables e below (s₁.setTop (mkF m 0 #[.val (.ref r0), .val (.ref r1)] [])) _
  refine XS.aloadN X0.here hx rfl (hb hby d6_0) rfl rfl ?_
  show Steps p.tables e below (s₁.setTop (mkF m 1 #[.val (.ref r0), .val (.ref r1)] [(.ref r0)])) _
  refine XS.ifnonnullYes X0.here hx rfl (pc0 := 1) (pc' := 13) rfl (hb hby d6_1) rfl (by decide) (by decide) ?_
  show Steps p.tables e below (s₁.setTop (mkF m 13 #[.val (.ref r0), .val (.ref r1)] [])) _
  refine XS.aloadN X0.here hx rfl (hb hby d6_13) rfl rfl ?_
  show Steps p.tables e below (s₁.setTop (mkF m 14 #[.val (.ref r0), .val (.ref r1)] [(.ref r0)])) _
  jvm_step X0.here [X0.here.top, hx, (hb hby d6_14), X0.method', Bd.returns, Value.isRef, FieldType.isReference]
  first | (intro acts; rw [hr _ acts rfl rfl rfl]) | rw [hr _ _ rfl rfl rfl]
  exact Steps.refl _
theorem d8_0 : decode prog_1_method_6_code 0 = .ok (.iload_n 1, 1) := by decide +kernel
theorem d8_1 : decode prog_1_method_6_code 1 = .ok (.ifCond .lt 14, 3) := by decide +kernel
theorem d8_4 : decode prog_1_method_6_code 4 = .ok (.iload_n 2, 1) := by decide +kernel
theorem d8_5 : decode prog_1_method_6_code 5 = .ok (.ifCond .lt 10, 3) := by decide +kernel
theorem d8_8 : decode prog_1_method_6_code 8 = .ok (.iload_n 2, 1) := by decide +kernel
theorem d8_9 : decode prog_1_method_6_code 9 = .ok (.iload_n 0, 1) := by decide +kernel
theorem d8_10 : decode prog_1_method_6_code 10 = .ok (.iload_n 1, 1) := by decide +kernel
theorem d8_11 : decode prog_1_method_6_code 11 = .ok (.isub, 1) := by decide +kernel
theorem d8_12 : decode prog_1_method_6_code 12 = .ok (.if_icmp .le 41, 3) := by decide +kernel
theorem d8_53 : decode prog_1_method_6_code 53 = .ok (.return_, 1) := by decide +kernel
theorem pn_8 : plainName "com/example/packwise/packwise/ArrayRegion" = true := by first | (simp [plainName, overriddenIn]; done) | decide +kernel
theorem ef_8 (m : MethodId) (p0 : Int32) (p1 : Int32) (p2 : Int32) : entryFrame m #[(.int p0), (.int p1), (.int p2)] 3 = mkF m 0 #[.val (.int p0), .val (.int p1), .val (.int p2)] [] := by first | (simp [entryFrame, mkF, argsToLocals, Value.category]; done) | rfl
def Q_rm8 (Z : State) (p0 : Int32) (p1 : Int32) (p2 : Int32) (h0 : Heap) (n0 : Nat) (v : Option Value) (h : Heap) (L : List Loc) : Prop := (v = none ∧ Fr n0 L ∧ h = h0)
set_option maxRecDepth 65536 in
set_option maxHeartbeats 40000000 in
theorem rm8 (l : Launch) (Z : State) (a0 : Array Value) (hw : ∀ d ∈ tables_1, d.before a0 Z = true) (ws : List Jvm.Cond) (p0 : Int32) (p1 : Int32) (p2 : Int32) (h0 : Heap) (n0 : Nat) (Z0 : n0 ≤ h0.size) (hc1 : ¬ (p1 < (0 : Int32))) (hc5 : ¬ (p2 < (0 : Int32))) (hc12 : ¬ ((p0 - p1) < p2)) :
    MetFree l (⟨"com/example/packwise/packwise/ArrayRegion", "check", "(III)V"⟩ : MethodName) (head1 (Jvm.Cond.code (⟨"com/example/packwise/packwise/ArrayRegion", "check", "(III)V"⟩ : MethodName) prog_1_method_6_code 3 none :: ws) ({ frames := 0, cells := 0, slots := 0, locals := 0 } : Room)) (fun a U => a = #[(.int p0), (.int p1), (.int p2)] ∧ Z.Warmed39 U.vm ∧ U.heap = h0) (fun _ _ _ _ _ => True) (fun _ U o U' => ∃ v L, o = .returned v ∧ Q_rm8 Z p0 p1 p2 h0 n0 v U'.heap L ∧ FrameEnd U o U' L ({ frames := 0, cells := 0, slots := 0, locals := 0 } : Room).cells ({ frames := 0, cells := 0, slots := 0, locals := 0 } : Room).slots) := by
  refine MetFree.of_bodySF (plainFor_of_name pn_8) hisR ?_
  intro p e s m args below meth c s₁ Bd hml0 hP hK
  obtain ⟨rfl, hZ, hh⟩ := hP
  have hx := Bd.exec
  have hby := Bd.bytes
  have hml : c.maxLocals = 3 := hml0
  have hown : s.vm.findClass "com/example/packwise/packwise/ArrayRegion" = some m.cls := findClass_of_methodNamed Bd.named
  have hnm := (name_of_methodNamed Bd.named Bd.method).1
  have X0 : Stand p l e ({ frames := 0, cells := 0, slots := 0, locals := 0 } : Room) s m #[(.int p0), (.int p1), (.int p2)] below meth c s₁ [] 0 0 := Stand.of_body Bd
  have e0 : s₁.heap = h0 := by rw [← hh, Bd.state]; rfl
  have N0 := Fr.nil n0
  have pre0 : ∀ t, Steps p.tables e below (s₁.setTop (mkF m 0 #[.val (.int p0), .val (.int p1), .val (.int p2)] [])) t → Steps p.tables e below (s₁.setTop (entryFrame m #[(.int p0), (.int p1), (.int p2)] 3)) t := fun t k => castTop (ef_8 m p0 p1 p2) k
  obtain ⟨fs, hr, hrun, hended, hW, hsame⟩ := X0.leave (v := none) (fun _ => rfl)
  refine ⟨_, _, pre0 _ ?_, hrun, hended, _, _, rfl, ⟨rfl, N0, e0⟩, ⟨_, rfl⟩, hW, hsame.mono (by decide) (by decide)⟩
  show Steps p.tables e below (s₁.setTop (mkF m 0 #[.val (.int p0), .val (.int p1), .val (.int p2)] [])) _
  refine XS.iloadN X0.here hx rfl (hb hby d8_0) rfl ?_
  show Steps p.tables e below (s₁.setTop (mkF m 1 #[.val (.int p0), .val (.int p1), .val (.int p2)] [(.int p1)])) _
  refine XS.ifNo X0.here hx rfl (hb hby d8_1) rfl ((if0 _ _).trans (flt hc1).1) ?_
  show Steps p.tables e below (s₁.setTop (mkF m 4 #[.val (.int p0), .val (.int p1), .val (.int p2)] [])) _
  refine XS.iloadN X0.here hx rfl (hb hby d8_4) rfl ?_
  show Steps p.tables e below (s₁.setTop (mkF m 5 #[.val (.int p0), .val (.int p1), .val (.int p2)] [(.int p2)])) _
  refine XS.ifNo X0.here hx rfl (hb hby d8_5) rfl ((if0 _ _).trans (flt hc5).1) ?_
  show Steps p.tables e below (s₁.setTop (mkF m 8 #[.val (.int p0), .val (.int p1), .val (.int p2)] [])) _
  refine XS.iloadN X0.here hx rfl (hb hby d8_8) rfl ?_
  show Steps p.tables e below (s₁.setTop (mkF m 9 #[.val (.int p0), .val (.int p1), .val (.int p2)] [(.int p2)])) _
  refine XS.iloadN X0.here hx rfl (hb hby d8_9) rfl ?_
  show Steps p.tables e below (s₁.setTop (mkF m 10 #[.val (.int p0), .val (.int p1), .val (.int p2)] [(.int p0), (.int p2)])) _
  refine XS.iloadN X0.here hx rfl (hb hby d8_10) rfl ?_
  show Steps p.tables e below (s₁.setTop (mkF m 11 #[.val (.int p0), .val (.int p1), .val (.int p2)] [(.int p1), (.int p0), (.int p2)])) _
  refine XS.isub X0.here hx rfl (hb hby d8_11) rfl ?_
  show Steps p.tables e below (s₁.setTop (mkF m 12 #[.val (.int p0), .val (.int p1), .val (.int p2)] [(.int (p0 - p1)), (.int p2)])) _
  refine XS.icmpYes X0.here hx rfl (pc0 := 12) (pc' := 53) rfl (hb hby d8_12) rfl (flt hc12).2.2.2 (by decide) (by decide) ?_
  show Steps p.tables e below (s₁.setTop (mkF m 53 #[.val (.int p0), .val (.int p1), .val (.int p2)] [])) _
  exact X0.returnOut hx Bd.returns (hb hby d8_53) hr
theorem d10_0 : decode prog_11_method_5_code 0 = .ok (.lload_n 0, 1) := by decide +kernel
theorem d10_1 : decode prog_11_method_5_code 1 = .ok (.lconst 0, 1) := by decide +kernel
theorem d10_2 : decode prog_11_method_5_code 2 = .ok (.lcmp, 1) := by decide +kernel
theorem d10_3 : decode prog_11_method_5_code 3 = .ok (.ifCond .ge 17, 3) := by decide +kernel
theorem d10_20 : decode prog_11_method_5_code 20 = .ok (.return_, 1) := by decide +kernel
theorem pn_10 : plainName "com/example/packwise/packwise/ByteSource" = true := by first | (simp [plainName, overriddenIn]; done) | decide +kernel
theorem ef_10 (m : MethodId) (q0 : Int64) : entryFrame m #[(.long q0)] 2 = mkF m 0 #[.val (.long q0), .second] [] := by first | (simp [entryFrame, mkF, argsToLocals, Value.category]; done) | rfl
def Q_rm10 (Z : State) (q0 : Int64) (h0 : Heap) (n0 : Nat) (v : Option Value) (h : Heap) (L : List Loc) : Prop := (v = none ∧ Fr n0 L ∧ h = h0)
set_option maxRecDepth 65536 in
set_option maxHeartbeats 40000000 in
theorem rm10 (l : Launch) (Z : State) (a0 : Array Value) (hw : ∀ d ∈ tables_1, d.before a0 Z = true) (ws : List Jvm.Cond) (q0 : Int64) (h0 : Heap) (n0 : Nat) (Z0 : n0 ≤ h0.size) (hc3 : ¬ (q0 < (0 : Int64))) :
    MetFree l (⟨"com/example/packwise/packwise/ByteSource", "checkSkipLength", "(J)V"⟩ : MethodName) (head1 (Jvm.Cond.code (⟨"com/example/packwise/packwise/ByteSource", "checkSkipLength", "(J)V"⟩ : MethodName) prog_11_method_5_code 2 none :: ws) ({ frames := 0, cells := 0, slots := 0, locals := 0 } : Room)) (fun a U => a = #[(.long q0)] ∧ Z.Warmed39 U.vm ∧ U.heap = h0) (fun _ _ _ _ _ => True) (fun _ U o U' => ∃ v L, o = .returned v ∧ Q_rm10 Z q0 h0 n0 v U'.heap L ∧ FrameEnd U o U' L ({ frames := 0, cells := 0, slots := 0, locals := 0 } : Room).cells ({ frames := 0, cells := 0, slots := 0, locals := 0 } : Room).slots) := by
  refine MetFree.of_bodySF (plainFor_of_name pn_10) hisR ?_
  intro p e s m args below meth c s₁ Bd hml0 hP hK
  obtain ⟨rfl, hZ, hh⟩ := hP
  have hx := Bd.exec
  have hby := Bd.bytes
  have hml : c.maxLocals = 2 := hml0
  have hown : s.vm.findClass "com/example/packwise/packwise/ByteSource" = some m.cls := findClass_of_methodNamed Bd.named
  have hnm := (name_of_methodNamed Bd.named Bd.method).1
  have X0 : Stand p l e ({ frames := 0, cells := 0, slots := 0, locals := 0 } : Room) s m #[(.long q0)] below meth c s₁ [] 0 0 := Stand.of_body Bd
  have e0 : s₁.heap = h0 := by rw [← hh, Bd.state]; rfl
  have N0 := Fr.nil n0
  have pre0 : ∀ t, Steps p.tables e below (s₁.setTop (mkF m 0 #[.val (.long q0), .second] [])) t → Steps p.tables e below (s₁.setTop (entryFrame m #[(.long q0)] 2)) t := fun t k => castTop (ef_10 m q0) k
  obtain ⟨fs, hr, hrun, hended, hW, hsame⟩ := X0.leave (v := none) (fun _ => rfl)
  refine ⟨_, _, pre0 _ ?_, hrun, hended, _, _, rfl, ⟨rfl, N0, e0⟩, ⟨_, rfl⟩, hW, hsame.mono (by decide) (by decide)⟩
  show Steps p.tables e below (s₁.setTop (mkF m 0 #[.val (.long q0), .second] [])) _
  refine XS.lloadN X0.here hx rfl (hb hby d10_0) rfl ?_
  show Steps p.tables e below (s₁.setTop (mkF m 1 #[.val (.long q0), .second] [(.long q0)])) _
  refine XS.lconst X0.here hx rfl (hb hby d10_1) ?_
  show Steps p.tables e below (s₁.setTop (mkF m 2 #[.val (.long q0), .second] [(.long (0 : Int64)), (.long q0)])) _
  refine XS.lcmp X0.here hx rfl (hb hby d10_2) rfl ?_
  show Steps p.tables e below (s₁.setTop (mkF m 3 #[.val (.long q0), .second] [(.int (lcmpW q0 (0 : Int64)))])) _
  refine XS.ifYes X0.here hx rfl (pc0 := 3) (pc' := 20) rfl (hb hby d10_3) rfl ((if0 _ _).trans (flt (fun q => hc3 ((lw_lt _ _).mp q))).2.1) (by decide) (by decide) ?_
  show Steps p.tables e below (s₁.setTop (mkF m 20 #[.val (.long q0), .second] [])) _
  exact X0.returnOut hx Bd.returns (hb hby d10_20) hr
theorem d7_0 : decode prog_1_method_2_code 0 = .ok (.aload_n 0, 1) := by decide +kernel
theorem d7_1 : decode prog_1_method_2_code 1 = .ok (.ldc 7, 2) := by decide +kernel
theorem d7_3 : decode prog_1_method_2_code 3 = .ok (.invokestatic 9, 3) := by decide +kernel
theorem d7_6 : decode prog_1_method_2_code 6 = .ok (.checkcast 15, 3) := by decide +kernel
theorem d7_9 : decode prog_1_method_2_code 9 = .ok (.arraylength, 1) := by decide +kernel
theorem d7_10 : decode prog_1_method_2_code 10 = .ok (.iload_n 1, 1) := by decide +kernel
theorem d7_11 : decode prog_1_method_2_code 11 = .ok (.iload_n 2, 1) := by decide +kernel
theorem d7_12 : decode prog_1_method_2_code 12 = .ok (.invokestatic 17, 3) := by decide +kernel
theorem d7_15 : decode prog_1_method_2_code 15 = .ok (.return_, 1) := by decide +kernel
theorem pn_7 : plainName "com/example/packwise/packwise/ArrayRegion" = true := by first | (simp [plainName, overriddenIn]; done) | decide +kernel
theorem ef_7 (m : MethodId) (r0 : Addr) (p1 : Int32) (p2 : Int32) : entryFrame m #[(.ref r0), (.int p1), (.int p2)] 3 = mkF m 0 #[.val (.ref r0), .val (.int p1), .val (.int p2)] [] := by first | (simp [entryFrame, mkF, argsToLocals, Value.category]; done) | rfl
def Q_rm7 (Z : State) (r0 : Addr) (p1 : Int32) (p2 : Int32) (vs : List Int32) (h0 : Heap) (n0 : Nat) (v : Option Value) (h : Heap) (L : List Loc) : Prop := (v = none ∧ Fr n0 L ∧ Keep h0 h [])
set_option maxRecDepth 65536 in
set_option maxHeartbeats 40000000 in
theorem rm7 (l : Launch) (Z : State) (a0 : Array Value) (hw : ∀ d ∈ tables_1, d.before a0 Z = true) (ws : List Jvm.Cond) (r0 : Addr) (p1 : Int32) (p2 : Int32) (vs : List Int32) (h0 : Heap) (n0 : Nat) (Z0 : n0 ≤ h0.size) (E0 : Exa Z h0 r0 "[B") (V0 : ArrL .byte Z h0 r0 vs) (hl : vs.length = 8) (q1 : ¬ p1 < (0 : Int32)) (q2 : ¬ p2 < (0 : Int32)) (q3 : ¬ (((8 : Int32) - p1) < p2)) :
    MetFree l (⟨"com/example/packwise/packwise/ArrayRegion", "check", "([BII)V"⟩ : MethodName) (head1 (Jvm.Cond.code (⟨"com/example/packwise/packwise/ArrayRegion", "check", "([BII)V"⟩ : MethodName) prog_1_method_2_code 3 none :: ws) ({ frames := 1, cells := 2, slots := 24, locals := 14 } : Room)) (fun a U => a = #[(.ref r0), (.int p1), (.int p2)] ∧ Z.Warmed39 U.vm ∧ U.heap = h0) (fun _ _ _ _ _ => True) (fun _ U o U' => ∃ v L, o = .returned v ∧ Q_rm7 Z r0 p1 p2 vs h0 n0 v U'.heap L ∧ ReturnedEndW U o U' L ({ frames := 1, cells := 2, slots := 24, locals := 14 } : Room).cells ({ frames := 1, cells := 2, slots := 24, locals := 14 } : Room).slots) := by
  refine MetFree.of_bodySF (plainFor_of_name pn_7) hisR ?_
  intro p e s m args below meth c s₁ Bd hml0 hP hK
  obtain ⟨rfl, hZ, hh⟩ := hP
  have hx := Bd.exec
  have hby := Bd.bytes
  have hml : c.maxLocals = 3 := hml0
  have hown : s.vm.findClass "com/example/packwise/packwise/ArrayRegion" = some m.cls := findClass_of_methodNamed Bd.named
  have hnm := (name_of_methodNamed Bd.named Bd.method).1
  have X0 : Stand p l e ({ frames := 1, cells := 2, slots := 24, locals := 14 } : Room) s m #[(.ref r0), (.int p1), (.int p2)] below meth c s₁ [] 0 0 := Stand.of_body Bd
  have e0 : s₁.heap = h0 := by rw [← hh, Bd.state]; rfl
  have N0 := Fr.nil n0
  have pre0 : ∀ t, Steps p.tables e below (s₁.setTop (mkF m 0 #[.val (.ref r0), .val (.int p1), .val (.int p2)] [])) t → Steps p.tables e below (s₁.setTop (entryFrame m #[(.ref r0), (.int p1), (.int p2)] 3)) t := fun t k => castTop (ef_7 m r0 p1 p2) k
  obtain ⟨b1, T1, h1, k1, X1, e1, E1, S1, kp1, hZ1, hown1, st1⟩ := ldcS (s := s) (vm0 := s.vm) X0 hx hZ hown (hw _ (List.mem_of_getElem? (i := 39) rfl)) (fun d hd => hw d (own_strw d hd)) e0 ((State.WarmedH.refl s).since 0) (Nat.zero_le _) (g := (mkF m 1 #[.val (.ref r0), .val (.int p1), .val (.int p2)] [(.ref r0)])) rfl (hb hby d7_1) (n := 20) (by decide) (by decide) (by decide) (by decide)
  have f1_E_r0 : Exa Z h1 r0 "[B" := E0.ext E1
  have f1_V_r0 : ArrL .byte Z h1 r0 vs := V0.ext E1
  have f1_K : Keep h0 h1 [] := (Keep.refl h0 []).ext E1
  have Z1 : n0 ≤ Array.size h1 := Nat.le_trans Z0 E1.1
  obtain ⟨_, _, ⟨T2, L2, k2, n2⟩, -, X2, ⟨Lc2, hQ2, l2, y2, z2⟩, st2⟩ := Jvm.LawKit.callS X1 hx (y := (⟨"java/util/Objects", "requireNonNull", "(Ljava/lang/Object;Ljava/lang/String;)Ljava/lang/Object;"⟩ : MethodName)) hown1 (mvT hZ1 (hw _ (List.mem_of_getElem? (i := 40) rfl))) (mvT hZ1 (hw _ (List.mem_of_getElem? (i := 32) rfl))) (mvT hZ1 (hw _ (List.mem_of_getElem? (i := 33) rfl))) (mvT hZ1 (hw _ (List.mem_of_getElem? (i := 34) rfl))) (by decide) (backOf (W := 0) (rm6 l Z a0 hw [] r0 b1 h1 n0 Z1) hZ1 (hw _ (List.mem_of_getElem? (i := 34) rfl)) (hw _ (List.mem_of_getElem? (i := 33) rfl)) (by decide) (by decide)) (g := (mkF m 3 #[.val (.ref r0), .val (.int p1), .val (.int p2)] [(.ref b1), (.ref r0)])) rfl (by rw [hml]; rfl) (argsL := [(.ref r0), (.ref b1)]) (rest := []) (lenOf pd0 rfl) rfl (by show 2 * 0 + _ ≤ _; exact Nat.le_of_eq rfl) (hb hby d7_3) (fun _ _ => ⟨rfl, e1, (by decide : 2 + 0 ≤ _), (by decide : 24 + 0 ≤ _)⟩)
  dsimp only [Pt.U, Pt.locs, Pt.cells, Pt.slots] at X2 l2 y2 z2 st2 hQ2
  subst y2 z2
  obtain ⟨rfl, N2q, e2⟩ := hQ2
  have N2 : Fr n0 L2 := by rw [l2]; exact Fr.app N0 N2q
  obtain ⟨T3, X3, e3, st3⟩ := castY X2 hx hZ1 hown1 (hw _ (List.mem_of_getElem? (i := 41) rfl)) e2 (Ins.self f1_E_r0) (g := (mkF m 6 #[.val (.ref r0), .val (.int p1), .val (.int p2)] [(.ref r0)])) rfl rfl (hb hby d7_6)
  obtain ⟨_, _, ⟨T4, L4, k4, n4⟩, -, X4, ⟨Lc4, hQ4, l4, y4, z4⟩, st4⟩ := Jvm.LawKit.callS X3 hx (y := (⟨"com/example/packwise/packwise/ArrayRegion", "check", "(III)V"⟩ : MethodName)) hown1 (mvT hZ1 (hw _ (List.mem_of_getElem? (i := 43) rfl))) (mvT hZ1 (hw _ (List.mem_of_getElem? (i := 44) rfl))) (mvT hZ1 (hw _ (List.mem_of_getElem? (i := 37) rfl))) (mvT hZ1 (hw _ (List.mem_of_getElem? (i := 45) rfl))) (by decide) (backOf (W := 0) (rm8 l Z a0 hw [] (8 : Int32) p1 p2 h1 n0 Z1 q1 q2 q3) hZ1 (hw _ (List.mem_of_getElem? (i := 45) rfl)) (hw _ (List.mem_of_getElem? (i := 37) rfl)) (by decide) (by decide)) (g := (mkF m 12 #[.val (.ref r0), .val (.int p1), .val (.int p2)] [(.int p2), (.int p1), (.int (8 : Int32))])) rfl (by rw [hml]; rfl) (argsL := [(.int (8 : Int32)), (.int p1), (.int p2)]) (rest := []) (lenOf pd1 rfl) rfl (by show 2 * 0 + _ ≤ _; exact Nat.le_of_eq rfl) (hb hby d7_12) (fun _ _ => ⟨rfl, e3, (by decide : 2 + 0 ≤ _), (by decide : 24 + 0 ≤ _)⟩)
  dsimp only [Pt.U, Pt.locs, Pt.cells, Pt.slots] at X4 l4 y4 z4 st4 hQ4
  subst y4 z4
  obtain ⟨rfl, N4q, e4⟩ := hQ4
  have N4 : Fr n0 L4 := by rw [l4]; exact Fr.app N2 N4q
  obtain ⟨fs, hr, hrun, hended, hEnd⟩ := X4.leaveW (s := s) (vm₁ := T1.vm) S1 (by rw [e4]; exact kp1) (v := none) (fun _ => rfl)
  refine ⟨_, _, pre0 _ ?_, hrun, hended, _, _, rfl, ⟨rfl, N4, (show Keep h0 T4.heap [] from by rw [e4]; exact f1_K)⟩, hEnd.1, hEnd.2.1, hEnd.2.2.1, hEnd.2.2.2.mono (by decide) (by decide)⟩
  show Steps p.tables e below (s₁.setTop (mkF m 0 #[.val (.ref r0), .val (.int p1), .val (.int p2)] [])) _
  refine XS.aloadN X0.here hx rfl (hb hby d7_0) rfl rfl ?_
  show Steps p.tables e below (s₁.setTop (mkF m 1 #[.val (.ref r0), .val (.int p1), .val (.int p2)] [(.ref r0)])) _
  refine st1 _ ?_
  show Steps p.tables e below (T1.setTop (mkF m 3 #[.val (.ref r0), .val (.int p1), .val (.int p2)] [(.ref b1), (.ref r0)])) _
  refine st2 _ ?_
  show Steps p.tables e below (T2.setTop (mkF m 6 #[.val (.ref r0), .val (.int p1), .val (.int p2)] [(.ref r0)])) _
  refine st3 _ ?_
  show Steps p.tables e below (T3.setTop (mkF m 9 #[.val (.ref r0), .val (.int p1), .val (.int p2)] [(.ref r0)])) _
  refine own_al_len X3 hx hZ1 e3 f1_V_r0 (g := (mkF m 9 #[.val (.ref r0), .val (.int p1), .val (.int p2)] [(.ref r0)])) (z := (8 : Int32)) (by rw [hl]; rfl) rfl rfl (hb hby d7_9) _ ?_
  show Steps p.tables e below (T3.setTop (mkF m 10 #[.val (.ref r0), .val (.int p1), .val (.int p2)] [(.int (8 : Int32))])) _
  refine XS.iloadN X3.here hx rfl (hb hby d7_10) rfl ?_
  show Steps p.tables e below (T3.setTop (mkF m 11 #[.val (.ref r0), .val (.int p1), .val (.int p2)] [(.int p1), (.int (8 : Int32))])) _
  refine XS.iloadN X3.here hx rfl (hb hby d7_11) rfl ?_
  show Steps p.tables e below (T3.setTop (mkF m 12 #[.val (.ref r0), .val (.int p1), .val (.int p2)] [(.int p2), (.int p1), (.int (8 : Int32))])) _
  refine st4 _ ?_
  show Steps p.tables e below (T4.setTop (mkF m 15 #[.val (.ref r0), .val (.int p1), .val (.int p2)] [])) _
  exact X4.returnOut hx Bd.returns (hb hby d7_15) hr
theorem d3_0 : decode prog_7_method_2_code 0 = .ok (.aload_n 0, 1) := by decide +kernel
theorem d3_1 : decode prog_7_method_2_code 1 = .ok (.invokespecial 7, 3) := by decide +kernel
theorem d3_4 : decode prog_7_method_2_code 4 = .ok (.aload_n 1, 1) := by decide +kernel
theorem d3_5 : decode prog_7_method_2_code 5 = .ok (.ldc 12, 2) := by decide +kernel
theorem d3_7 : decode prog_7_method_2_code 7 = .ok (.invokestatic 14, 3) := by decide +kernel
theorem d3_10 : decode prog_7_method_2_code 10 = .ok (.pop, 1) := by decide +kernel
theorem d3_11 : decode prog_7_method_2_code 11 = .ok (.aload_n 1, 1) := by decide +kernel
theorem d3_12 : decode prog_7_method_2_code 12 = .ok (.iload_n 2, 1) := by decide +kernel
theorem d3_13 : decode prog_7_method_2_code 13 = .ok (.iload_n 3, 1) := by decide +kernel
theorem d3_14 : decode prog_7_method_2_code 14 = .ok (.invokestatic 20, 3) := by decide +kernel
theorem d3_17 : decode prog_7_method_2_code 17 = .ok (.aload_n 0, 1) := by decide +kernel
theorem d3_18 : decode prog_7_method_2_code 18 = .ok (.aload_n 1, 1) := by decide +kernel
theorem d3_19 : decode prog_7_method_2_code 19 = .ok (.putfield 25, 3) := by decide +kernel
theorem d3_22 : decode prog_7_method_2_code 22 = .ok (.aload_n 0, 1) := by decide +kernel
theorem d3_23 : decode prog_7_method_2_code 23 = .ok (.iload_n 2, 1) := by decide +kernel
theorem d3_24 : decode prog_7_method_2_code 24 = .ok (.iload_n 3, 1) := by decide +kernel
theorem d3_25 : decode prog_7_method_2_code 25 = .ok (.iadd, 1) := by decide +kernel
theorem d3_26 : decode prog_7_method_2_code 26 = .ok (.putfield 28, 3) := by decide +kernel
theorem d3_29 : decode prog_7_method_2_code 29 = .ok (.aload_n 0, 1) := by decide +kernel
theorem d3_30 : decode prog_7_method_2_code 30 = .ok (.iload_n 2, 1) := by decide +kernel
theorem d3_31 : decode prog_7_method_2_code 31 = .ok (.putfield 32, 3) := by decide +kernel
theorem d3_34 : decode prog_7_method_2_code 34 = .ok (.return_, 1) := by decide +kernel
theorem pn_3 : plainName "com/example/packwise/packwise/ByteArraySource" = true := by first | (simp [plainName, overriddenIn]; done) | decide +kernel
theorem ef_3 (m : MethodId) (r0 : Addr) (r1 : Addr) (p2 : Int32) (p3 : Int32) : entryFrame m #[(.ref r0), (.ref r1), (.int p2), (.int p3)] 4 = mkF m 0 #[.val (.ref r0), .val (.ref r1), .val (.int p2), .val (.int p3)] [] := by first | (simp [entryFrame, mkF, argsToLocals, Value.category]; done) | rfl
def Q_rm3 (Z : State) (r0 : Addr) (r1 : Addr) (p2 : Int32) (p3 : Int32) (vs : List Int32) (h0 : Heap) (n0 : Nat) (v : Option Value) (h : Heap) (L : List Loc) : Prop := (v = none ∧ Fr n0 L ∧ Keep h0 h [r0] ∧ Exa Z h r0 "com/example/packwise/packwise/ByteArraySource" ∧ Fld Z h r0 "com/example/packwise/packwise/ByteArraySource" "bytes" "[B" (.ref r1) ∧ Fld Z h r0 "com/example/packwise/packwise/ByteArraySource" "end" "I" (.int (p2 + p3)) ∧ Fld Z h r0 "com/example/packwise/packwise/ByteArraySource" "position" "I" (.int p2))
set_option maxRecDepth 65536 in
set_option maxHeartbeats 40000000 in
theorem rm3 (l : Launch) (Z : State) (a0 : Array Value) (hw : ∀ d ∈ tables_1, d.before a0 Z = true) (ws : List Jvm.Cond) (r0 : Addr) (r1 : Addr) (p2 : Int32) (p3 : Int32) (vs : List Int32) (h0 : Heap) (n0 : Nat) (Z0 : n0 ≤ h0.size) (E0 : Exa Z h0 r0 "com/example/packwise/packwise/ByteArraySource") (F0_bytes : Fld Z h0 r0 "com/example/packwise/packwise/ByteArraySource" "bytes" "[B" .null) (F0_end : Fld Z h0 r0 "com/example/packwise/packwise/ByteArraySource" "end" "I" (.int (0 : Int32))) (F0_position : Fld Z h0 r0 "com/example/packwise/packwise/ByteArraySource" "position" "I" (.int (0 : Int32))) (G0 : n0 ≤ r0) (EA : Exa Z h0 r1 "[B") (VA : ArrL .byte Z h0 r1 vs) (hne : r0 ≠ r1) (hl : vs.length = 8) (q1 : ¬ p2 < (0 : Int32)) (q2 : ¬ p3 < (0 : Int32)) (q3 : ¬ (((8 : Int32) - p2) < p3)) :
    MetFree l (⟨"com/example/packwise/packwise/ByteArraySource", "<init>", "([BII)V"⟩ : MethodName) (head1 (Jvm.Cond.code (⟨"com/example/packwise/packwise/ByteArraySource", "<init>", "([BII)V"⟩ : MethodName) prog_7_method_2_code 4 none :: ws) ({ frames := 2, cells := 4, slots := 48, locals := 28 } : Room)) (fun a U => a = #[(.ref r0), (.ref r1), (.int p2), (.int p3)] ∧ Z.Warmed39 U.vm ∧ U.heap = h0) (fun _ _ _ _ _ => True) (fun _ U o U' => ∃ v L, o = .returned v ∧ Q_rm3 Z r0 r1 p2 p3 vs h0 n0 v U'.heap L ∧ ReturnedEndW U o U' L ({ frames := 2, cells := 4, slots := 48, locals := 28 } : Room).cells ({ frames := 2, cells := 4, slots := 48, locals := 28 } : Room).slots) := by
  refine MetFree.of_bodySF (plainFor_of_name pn_3) hisR ?_
  intro p e s m args below meth c s₁ Bd hml0 hP hK
  obtain ⟨rfl, hZ, hh⟩ := hP
  have hx := Bd.exec
  have hby := Bd.bytes
  have hml : c.maxLocals = 4 := hml0
  have hown : s.vm.findClass "com/example/packwise/packwise/ByteArraySource" = some m.cls := findClass_of_methodNamed Bd.named
  have hnm := (name_of_methodNamed Bd.named Bd.method).1
  have X0 : Stand p l e ({ frames := 2, cells := 4, slots := 48, locals := 28 } : Room) s m #[(.ref r0), (.ref r1), (.int p2), (.int p3)] below meth c s₁ [] 0 0 := Stand.of_body Bd
  have e0 : s₁.heap = h0 := by rw [← hh, Bd.state]; rfl
  have N0 := Fr.nil n0
  have pre0 : ∀ t, Steps p.tables e below (s₁.setTop (mkF m 0 #[.val (.ref r0), .val (.ref r1), .val (.int p2), .val (.int p3)] [])) t → Steps p.tables e below (s₁.setTop (entryFrame m #[(.ref r0), (.ref r1), (.int p2), (.int p3)] 4)) t := fun t k => castTop (ef_3 m r0 r1 p2 p3) k
  obtain ⟨_, _, ⟨T1, L1, k1, n1⟩, -, X1, ⟨Lc1, hQ1, l1, y1, z1⟩, st1⟩ := X0.specialBack hx (y := (⟨"com/example/packwise/packwise/ByteSource", "<init>", "()V"⟩ : MethodName)) rfl hown (mvT hZ (hw _ (List.mem_of_getElem? (i := 16) rfl))) (mvT hZ (hw _ (List.mem_of_getElem? (i := 17) rfl))) (mvT hZ (hw _ (List.mem_of_getElem? (i := 20) rfl))) (by decide) (backOf (W := 0) (rm4 l Z a0 hw [] r0 h0 n0 Z0) hZ (hw _ (List.mem_of_getElem? (i := 20) rfl)) (hw _ (List.mem_of_getElem? (i := 19) rfl)) (by decide) (by decide)) (g := (mkF m 1 #[.val (.ref r0), .val (.ref r1), .val (.int p2), .val (.int p3)] [(.ref r0)])) rfl (by rw [hml]; rfl) (Steps.refl _) (a := r0) (argsL := []) (rest := []) (lenOf pd2 rfl) rfl (by show 2 * 0 + _ ≤ _; exact Nat.le_of_eq rfl) (hb hby d3_1) (fun _ _ => ⟨rfl, e0, (by decide : 0 + 0 ≤ _), (by decide : 0 + 0 ≤ _)⟩)
  dsimp only [Pt.U, Pt.locs, Pt.cells, Pt.slots] at X1 l1 y1 z1 st1 hQ1
  subst y1 z1
  obtain ⟨rfl, N1q, e1⟩ := hQ1
  have N1 : Fr n0 L1 := by rw [l1]; exact Fr.app N0 N1q
  obtain ⟨b2, T2, h2, k2, X2, e2, E2, S2, kp2, hZ2, hown2, st2⟩ := ldcS (s := s) (vm0 := s.vm) X1 hx hZ hown (hw _ (List.mem_of_getElem? (i := 24) rfl)) (fun d hd => hw d (own_strw d hd)) e1 ((State.WarmedH.refl s).since 0) (Nat.zero_le _) (g := (mkF m 5 #[.val (.ref r0), .val (.ref r1), .val (.int p2), .val (.int p3)] [(.ref r1)])) rfl (hb hby d3_5) (n := 20) (by decide) (by decide) (by decide) (by decide)
  have f2_E_r0 : Exa Z h2 r0 "com/example/packwise/packwise/ByteArraySource" := E0.ext E2
  have f2_K : Keep h0 h2 [r0] := (Keep.refl h0 [r0]).ext E2
  have f2_F_r0_bytes : Fld Z h2 r0 "com/example/packwise/packwise/ByteArraySource" "bytes" "[B" .null := F0_bytes.ext E2
  have f2_F_r0_end : Fld Z h2 r0 "com/example/packwise/packwise/ByteArraySource" "end" "I" (.int (0 : Int32)) := F0_end.ext E2
  have f2_F_r0_position : Fld Z h2 r0 "com/example/packwise/packwise/ByteArraySource" "position" "I" (.int (0 : Int32)) := F0_position.ext E2
  have f2_E_r1 : Exa Z h2 r1 "[B" := EA.ext E2
  have f2_V_r1 : ArrL .byte Z h2 r1 vs := VA.ext E2
  have Z2 : n0 ≤ Array.size h2 := Nat.le_trans Z0 E2.1
  obtain ⟨_, _, ⟨T3, L3, k3, n3⟩, -, X3, ⟨Lc3, hQ3, l3, y3, z3⟩, st3⟩ := Jvm.LawKit.callS X2 hx (y := (⟨"java/util/Objects", "requireNonNull", "(Ljava/lang/Object;Ljava/lang/String;)Ljava/lang/Object;"⟩ : MethodName)) hown2 (mvT hZ2 (hw _ (List.mem_of_getElem? (i := 31) rfl))) (mvT hZ2 (hw _ (List.mem_of_getElem? (i := 32) rfl))) (mvT hZ2 (hw _ (List.mem_of_getElem? (i := 33) rfl))) (mvT hZ2 (hw _ (List.mem_of_getElem? (i := 34) rfl))) (by decide) (backOf (W := 0) (rm6 l Z a0 hw [] r1 b2 h2 n0 Z2) hZ2 (hw _ (List.mem_of_getElem? (i := 34) rfl)) (hw _ (List.mem_of_getElem? (i := 33) rfl)) (by decide) (by decide)) (g := (mkF m 7 #[.val (.ref r0), .val (.ref r1), .val (.int p2), .val (.int p3)] [(.ref b2), (.ref r1)])) rfl (by rw [hml]; rfl) (argsL := [(.ref r1), (.ref b2)]) (rest := []) (lenOf pd0 rfl) rfl (by show 2 * 0 + _ ≤ _; exact Nat.le_of_eq rfl) (hb hby d3_7) (fun _ _ => ⟨rfl, e2, (by decide : 2 + 0 ≤ _), (by decide : 24 + 0 ≤ _)⟩)
  dsimp only [Pt.U, Pt.locs, Pt.cells, Pt.slots] at X3 l3 y3 z3 st3 hQ3
  subst y3 z3
  obtain ⟨rfl, N3q, e3⟩ := hQ3
  have N3 : Fr n0 L3 := by rw [l3]; exact Fr.app N1 N3q
  obtain ⟨_, _, ⟨T4, L4, k4, n4⟩, -, X4', S4', hge4, ⟨Lc4, hQ4, l4, y4, z4⟩, st4⟩ := callSS X3 hx (y := (⟨"com/example/packwise/packwise/ArrayRegion", "check", "([BII)V"⟩ : MethodName)) hown2 (mvT hZ2 (hw _ (List.mem_of_getElem? (i := 35) rfl))) (mvT hZ2 (hw _ (List.mem_of_getElem? (i := 36) rfl))) (mvT hZ2 (hw _ (List.mem_of_getElem? (i := 37) rfl))) (mvT hZ2 (hw _ (List.mem_of_getElem? (i := 38) rfl))) (by decide) (backOfS (W := 0) (rm7 l Z a0 hw [] r1 p2 p3 vs h2 n0 Z2 f2_E_r1 f2_V_r1 hl q1 q2 q3) hZ2 (hw _ (List.mem_of_getElem? (i := 38) rfl)) (hw _ (List.mem_of_getElem? (i := 37) rfl)) (by decide) (by decide)) (g := (mkF m 14 #[.val (.ref r0), .val (.ref r1), .val (.int p2), .val (.int p3)] [(.int p3), (.int p2), (.ref r1)])) rfl (by rw [hml]; rfl) (argsL := [(.ref r1), (.int p2), (.int p3)]) (rest := []) (lenOf pd3 rfl) rfl (by show 2 * 0 + _ ≤ _; exact Nat.le_of_eq rfl) (hb hby d3_14) (fun _ _ => ⟨rfl, e3, (by decide : 2 + 2 ≤ _), (by decide : 24 + 24 ≤ _)⟩)
  dsimp only [Pt.U, Pt.locs, Pt.cells, Pt.slots] at X4' S4' hge4 l4 y4 z4 st4 hQ4
  subst y4 z4
  obtain ⟨X4, S4, hZ4, hown4⟩ := rebS (s := s) (vm0 := T2.vm) S2 (by rw [e3]; exact kp2) X4' S4' hge4 hZ2 hown2
  obtain ⟨rfl, N4q, K4⟩ := hQ4
  have f4_E_r0 : Exa Z T4.heap r0 "com/example/packwise/packwise/ByteArraySource" := f2_E_r0.keep K4
  have f4_K : Keep h0 T4.heap [r0] := f2_K.trans K4 all0
  have f4_F_r0_bytes : Fld Z T4.heap r0 "com/example/packwise/packwise/ByteArraySource" "bytes" "[B" .null := f2_F_r0_bytes.keep K4 nin0
  have f4_F_r0_end : Fld Z T4.heap r0 "com/example/packwise/packwise/ByteArraySource" "end" "I" (.int (0 : Int32)) := f2_F_r0_end.keep K4 nin0
  have f4_F_r0_position : Fld Z T4.heap r0 "com/example/packwise/packwise/ByteArraySource" "position" "I" (.int (0 : Int32)) := f2_F_r0_position.keep K4 nin0
  have f4_E_r1 : Exa Z T4.heap r1 "[B" := f2_E_r1.keep K4
  have f4_V_r1 : ArrL .byte Z T4.heap r1 vs := f2_V_r1.keep K4 nin0
  have Z4 : n0 ≤ Array.size T4.heap := Nat.le_trans Z2 K4.1
  have N4 : Fr n0 L4 := by rw [l4]; exact Fr.app N3 N4q
  obtain ⟨T5, h5, X5, e5, W5, st5⟩ := putF X4 hx hZ4 hown4 (host := "") (Or.inl (hw _ (List.mem_of_getElem? (i := 46) rfl))) Via.refl rfl f4_F_r0_bytes f4_E_r0 (Or.inr ⟨(hw _ (List.mem_of_getElem? (i := 47) rfl)), rfl, hnm⟩) (hw _ (List.mem_of_getElem? (i := 11) rfl)) (ty := (.array .byte)) (by decide) rfl rfl (g := (mkF m 19 #[.val (.ref r0), .val (.ref r1), .val (.int p2), .val (.int p3)] [(.ref r1), (.ref r0)])) rfl rfl (hb hby d3_19)
  have Fw5 : Fld Z h5 r0 "com/example/packwise/packwise/ByteArraySource" "bytes" "[B" (.ref r1) := f4_F_r0_bytes.same W5
  have N5 := Fr.snoc X5 N4 G0
  have f5_E_r0 : Exa Z h5 r0 "com/example/packwise/packwise/ByteArraySource" := f4_E_r0.wr W5
  have f5_K : Keep h0 h5 [r0] := f4_K.wr W5 (Or.inl (List.mem_of_getElem? (i := 0) rfl))
  have f5_F_r0_end : Fld Z h5 r0 "com/example/packwise/packwise/ByteArraySource" "end" "I" (.int (0 : Int32)) := f4_F_r0_end.other W5 (Or.inr (slot_ne (Or.inr (hw _ (List.mem_of_getElem? (i := 49) rfl))) (Or.inr (hw _ (List.mem_of_getElem? (i := 47) rfl))) (by decide) (t := .int) (t' := (.array .byte)) (by decide) (by decide)))
  have f5_F_r0_position : Fld Z h5 r0 "com/example/packwise/packwise/ByteArraySource" "position" "I" (.int (0 : Int32)) := f4_F_r0_position.other W5 (Or.inr (slot_ne (Or.inl (hw _ (List.mem_of_getElem? (i := 51) rfl))) (Or.inr (hw _ (List.mem_of_getElem? (i := 47) rfl))) (by decide) (t := .int) (t' := (.array .byte)) (by decide) (by decide)))
  have f5_E_r1 : Exa Z h5 r1 "[B" := f4_E_r1.wr W5
  have f5_V_r1 : ArrL .byte Z h5 r1 vs := f4_V_r1.other W5 (Ne.symm hne)
  have Z5 : n0 ≤ Array.size h5 := Nat.le_trans Z4 (Keep.of_wr W5).1
  have kp5 : T4.heap.size ≤ Array.size h5 := Nat.le_trans (Nat.le_refl _) (Keep.of_wr W5).1
  obtain ⟨T6, h6, X6, e6, W6, st6⟩ := putF X5 hx hZ4 hown4 (host := "") (Or.inl (hw _ (List.mem_of_getElem? (i := 48) rfl))) Via.refl e5 f5_F_r0_end f5_E_r0 (Or.inr ⟨(hw _ (List.mem_of_getElem? (i := 49) rfl)), rfl, hnm⟩) (hw _ (List.mem_of_getElem? (i := 11) rfl)) (ty := .int) (by decide) rfl rfl (g := (mkF m 26 #[.val (.ref r0), .val (.ref r1), .val (.int p2), .val (.int p3)] [(.int (p2 + p3)), (.ref r0)])) rfl rfl (hb hby d3_26)
  have Fw6 : Fld Z h6 r0 "com/example/packwise/packwise/ByteArraySource" "end" "I" (.int (p2 + p3)) := f5_F_r0_end.same W6
  have N6 := Fr.snoc X6 N5 G0
  have f6_E_r0 : Exa Z h6 r0 "com/example/packwise/packwise/ByteArraySource" := f5_E_r0.wr W6
  have f6_K : Keep h0 h6 [r0] := f5_K.wr W6 (Or.inl (List.mem_of_getElem? (i := 0) rfl))
  have f6_F_r0_bytes : Fld Z h6 r0 "com/example/packwise/packwise/ByteArraySource" "bytes" "[B" (.ref r1) := Fw5.other W6 (Or.inr (slot_ne (Or.inr (hw _ (List.mem_of_getElem? (i := 47) rfl))) (Or.inr (hw _ (List.mem_of_getElem? (i := 49) rfl))) (by decide) (t := (.array .byte)) (t' := .int) (by decide) (by decide)))
  have f6_F_r0_position : Fld Z h6 r0 "com/example/packwise/packwise/ByteArraySource" "position" "I" (.int (0 : Int32)) := f5_F_r0_position.other W6 (Or.inr (slot_ne (Or.inl (hw _ (List.mem_of_getElem? (i := 51) rfl))) (Or.inr (hw _ (List.mem_of_getElem? (i := 49) rfl))) (by decide) (t := .int) (t' := .int) (by decide) (by decide)))
  have f6_E_r1 : Exa Z h6 r1 "[B" := f5_E_r1.wr W6
  have f6_V_r1 : ArrL .byte Z h6 r1 vs := f5_V_r1.other W6 (Ne.symm hne)
  have Z6 : n0 ≤ Array.size h6 := Nat.le_trans Z5 (Keep.of_wr W6).1
  have kp6 : T4.heap.size ≤ Array.size h6 := Nat.le_trans kp5 (Keep.of_wr W6).1
  obtain ⟨T7, h7, X7, e7, W7, st7⟩ := putF X6 hx hZ4 hown4 (host := "") (Or.inl (hw _ (List.mem_of_getElem? (i := 50) rfl))) Via.refl e6 f6_F_r0_position f6_E_r0 (Or.inl (hw _ (List.mem_of_getElem? (i := 51) rfl))) (hw _ (List.mem_of_getElem? (i := 11) rfl)) (ty := .int) (by decide) rfl rfl (g := (mkF m 31 #[.val (.ref r0), .val (.ref r1), .val (.int p2), .val (.int p3)] [(.int p2), (.ref r0)])) rfl rfl (hb hby d3_31)
  have Fw7 : Fld Z h7 r0 "com/example/packwise/packwise/ByteArraySource" "position" "I" (.int p2) := f6_F_r0_position.same W7
  have N7 := Fr.snoc X7 N6 G0
  have f7_E_r0 : Exa Z h7 r0 "com/example/packwise/packwise/ByteArraySource" := f6_E_r0.wr W7
  have f7_K : Keep h0 h7 [r0] := f6_K.wr W7 (Or.inl (List.mem_of_getElem? (i := 0) rfl))
  have f7_F_r0_bytes : Fld Z h7 r0 "com/example/packwise/packwise/ByteArraySource" "bytes" "[B" (.ref r1) := f6_F_r0_bytes.other W7 (Or.inr (slot_ne (Or.inr (hw _ (List.mem_of_getElem? (i := 47) rfl))) (Or.inl (hw _ (List.mem_of_getElem? (i := 51) rfl))) (by decide) (t := (.array .byte)) (t' := .int) (by decide) (by decide)))
  have f7_F_r0_end : Fld Z h7 r0 "com/example/packwise/packwise/ByteArraySource" "end" "I" (.int (p2 + p3)) := Fw6.other W7 (Or.inr (slot_ne (Or.inr (hw _ (List.mem_of_getElem? (i := 49) rfl))) (Or.inl (hw _ (List.mem_of_getElem? (i := 51) rfl))) (by decide) (t := .int) (t' := .int) (by decide) (by decide)))
  have f7_E_r1 : Exa Z h7 r1 "[B" := f6_E_r1.wr W7
  have f7_V_r1 : ArrL .byte Z h7 r1 vs := f6_V_r1.other W7 (Ne.symm hne)
  have Z7 : n0 ≤ Array.size h7 := Nat.le_trans Z6 (Keep.of_wr W7).1
  have kp7 : T4.heap.size ≤ Array.size h7 := Nat.le_trans kp6 (Keep.of_wr W7).1
  obtain ⟨fs, hr, hrun, hended, hEnd⟩ := X7.leaveW (s := s) (vm₁ := T4.vm) S4 (by rw [e7]; exact kp7) (v := none) (fun _ => rfl)
  refine ⟨_, _, pre0 _ ?_, hrun, hended, _, _, rfl, ⟨rfl, N7, (show Keep h0 T7.heap [r0] from by rw [e7]; exact f7_K), (show Exa Z T7.heap r0 "com/example/packwise/packwise/ByteArraySource" from by rw [e7]; exact f7_E_r0), (show Fld Z T7.heap r0 "com/example/packwise/packwise/ByteArraySource" "bytes" "[B" (.ref r1) from by rw [e7]; exact f7_F_r0_bytes), (show Fld Z T7.heap r0 "com/example/packwise/packwise/ByteArraySource" "end" "I" (.int (p2 + p3)) from by rw [e7]; exact f7_F_r0_end), (show Fld Z T7.heap r0 "com/example/packwise/packwise/ByteArraySource" "position" "I" (.int p2) from by rw [e7]; exact Fw7)⟩, hEnd.1, hEnd.2.1, hEnd.2.2.1, hEnd.2.2.2.mono (by decide) (by decide)⟩
  show Steps p.tables e below (s₁.setTop (mkF m 0 #[.val (.ref r0), .val (.ref r1), .val (.int p2), .val (.int p3)] [])) _
  refine XS.aloadN X0.here hx rfl (hb hby d3_0) rfl rfl ?_
  show Steps p.tables e below (s₁.setTop (mkF m 1 #[.val (.ref r0), .val (.ref r1), .val (.int p2), .val (.int p3)] [(.ref r0)])) _
  refine st1.trans ?_
  show Steps p.tables e below (T1.setTop (mkF m 4 #[.val (.ref r0), .val (.ref r1), .val (.int p2), .val (.int p3)] [])) _
  refine XS.aloadN X1.here hx rfl (hb hby d3_4) rfl rfl ?_
  show Steps p.tables e below (T1.setTop (mkF m 5 #[.val (.ref r0), .val (.ref r1), .val (.int p2), .val (.int p3)] [(.ref r1)])) _
  refine st2 _ ?_
  show Steps p.tables e below (T2.setTop (mkF m 7 #[.val (.ref r0), .val (.ref r1), .val (.int p2), .val (.int p3)] [(.ref b2), (.ref r1)])) _
  refine st3 _ ?_
  show Steps p.tables e below (T3.setTop (mkF m 10 #[.val (.ref r0), .val (.ref r1), .val (.int p2), .val (.int p3)] [(.ref r1)])) _
  refine XS.pop X3.here hx rfl (hb hby d3_10) rfl rfl ?_
  show Steps p.tables e below (T3.setTop (mkF m 11 #[.val (.ref r0), .val (.ref r1), .val (.int p2), .val (.int p3)] [])) _
  refine XS.aloadN X3.here hx rfl (hb hby d3_11) rfl rfl ?_
  show Steps p.tables e below (T3.setTop (mkF m 12 #[.val (.ref r0), .val (.ref r1), .val (.int p2), .val (.int p3)] [(.ref r1)])) _
  refine XS.iloadN X3.here hx rfl (hb hby d3_12) rfl ?_
  show Steps p.tables e below (T3.setTop (mkF m 13 #[.val (.ref r0), .val (.ref r1), .val (.int p2), .val (.int p3)] [(.int p2), (.ref r1)])) _
  refine XS.iloadN X3.here hx rfl (hb hby d3_13) rfl ?_
  show Steps p.tables e below (T3.setTop (mkF m 14 #[.val (.ref r0), .val (.ref r1), .val (.int p2), .val (.int p3)] [(.int p3), (.int p2), (.ref r1)])) _
  refine st4.trans ?_
  show Steps p.tables e below (T4.setTop (mkF m 17 #[.val (.ref r0), .val (.ref r1), .val (.int p2), .val (.int p3)] [])) _
  refine XS.aloadN X4.here hx rfl (hb hby d3_17) rfl rfl ?_
  show Steps p.tables e below (T4.setTop (mkF m 18 #[.val (.ref r0), .val (.ref r1), .val (.int p2), .val (.int p3)] [(.ref r0)])) _
  refine XS.aloadN X4.here hx rfl (hb hby d3_18) rfl rfl ?_
  show Steps p.tables e below (T4.setTop (mkF m 19 #[.val (.ref r0), .val (.ref r1), .val (.int p2), .val (.int p3)] [(.ref r1), (.ref r0)])) _
  refine st5 _ ?_
  show Steps p.tables e below (T5.setTop (mkF m 22 #[.val (.ref r0), .val (.ref r1), .val (.int p2), .val (.int p3)] [])) _
  refine XS.aloadN X5.here hx rfl (hb hby d3_22) rfl rfl ?_
  show Steps p.tables e below (T5.setTop (mkF m 23 #[.val (.ref r0), .val (.ref r1), .val (.int p2), .val (.int p3)] [(.ref r0)])) _
  refine XS.iloadN X5.here hx rfl (hb hby d3_23) rfl ?_
  show Steps p.tables e below (T5.setTop (mkF m 24 #[.val (.ref r0), .val (.ref r1), .val (.int p2), .val (.int p3)] [(.int p2), (.ref r0)])) _
  refine XS.iloadN X5.here hx rfl (hb hby d3_24) rfl ?_
  show Steps p.tables e below (T5.setTop (mkF m 25 #[.val (.ref r0), .val (.ref r1), .val (.int p2), .val (.int p3)] [(.int p3), (.int p2), (.ref r0)])) _
  refine XS.iadd X5.here hx rfl (hb hby d3_25) rfl ?_
  show Steps p.tables e below (T5.setTop (mkF m 26 #[.val (.ref r0), .val (.ref r1), .val (.int p2), .val (.int p3)] [(.int (p2 + p3)), (.ref r0)])) _
  refine st6 _ ?_
  show Steps p.tables e below (T6.setTop (mkF m 29 #[.val (.ref r0), .val (.ref r1), .val (.int p2), .val (.int p3)] [])) _
  refine XS.aloadN X6.here hx rfl (hb hby d3_29) rfl rfl ?_
  show Steps p.tables e below (T6.setTop (mkF m 30 #[.val (.ref r0), .val (.ref r1), .val (.int p2), .val (.int p3)] [(.ref r0)])) _
  refine XS.iloadN X6.here hx rfl (hb hby d3_30) rfl ?_
  show Steps p.tables e below (T6.setTop (mkF m 31 #[.val (.ref r0), .val (.ref r1), .val (.int p2), .val (.int p3)] [(.int p2), (.ref r0)])) _
  refine st7 _ ?_
  show Steps p.tables e below (T7.setTop (mkF m 34 #[.val (.ref r0), .val (.ref r1), .val (.int p2), .val (.int p3)] [])) _
  exact X7.returnOut hx Bd.returns (hb hby d3_34) hr
theorem d12_0 : decode prog_7_method_3_code 0 = .ok (.aload_n 0, 1) := by decide +kernel
theorem d12_1 : decode prog_7_method_3_code 1 = .ok (.getfield 32, 3) := by decide +kernel
theorem d12_4 : decode prog_7_method_3_code 4 = .ok (.aload_n 0, 1) := by decide +kernel
theorem d12_5 : decode prog_7_method_3_code 5 = .ok (.getfield 28, 3) := by decide +kernel
theorem d12_8 : decode prog_7_method_3_code 8 = .ok (.if_icmp .ne 13, 3) := by decide +kernel
theorem d12_21 : decode prog_7_method_3_code 21 = .ok (.aload_n 0, 1) := by decide +kernel
theorem d12_22 : decode prog_7_method_3_code 22 = .ok (.getfield 25, 3) := by decide +kernel
theorem d12_25 : decode prog_7_method_3_code 25 = .ok (.aload_n 0, 1) := by decide +kernel
theorem d12_26 : decode prog_7_method_3_code 26 = .ok (.dup, 1) := by decide +kernel
theorem d12_27 : decode prog_7_method_3_code 27 = .ok (.getfield 32, 3) := by decide +kernel
theorem d12_30 : decode prog_7_method_3_code 30 = .ok (.dup_x1, 1) := by decide +kernel
theorem d12_31 : decode prog_7_method_3_code 31 = .ok (.iconst 1, 1) := by decide +kernel
theorem d12_32 : decode prog_7_method_3_code 32 = .ok (.iadd, 1) := by decide +kernel
theorem d12_33 : decode prog_7_method_3_code 33 = .ok (.putfield 32, 3) := by decide +kernel
theorem d12_36 : decode prog_7_method_3_code 36 = .ok (.baload, 1) := by decide +kernel
theorem d12_37 : decode prog_7_method_3_code 37 = .ok (.ireturn, 1) := by decide +kernel
theorem pn_12 : plainName "com/example/packwise/packwise/ByteArraySource" = true := by first | (simp [plainName, overriddenIn]; done) | decide +kernel
theorem ef_12 (m : MethodId) (r0 : Addr) : entryFrame m #[(.ref r0)] 1 = mkF m 0 #[.val (.ref r0)] [] := by first | (simp [entryFrame, mkF, argsToLocals, Value.category]; done) | rfl
def Q_rm12 (Z : State) (r0 : Addr) (w_bytes : Addr) (w_end : Int32) (w_position : Int32) (vs : List Int32) (h0 : Heap) (n0 : Nat) (v : Option Value) (h : Heap) (L : List Loc) : Prop := (v = some (.int ((vs.getD w_position.toNatClampNeg 0).toInt8.toInt32)) ∧ Fr n0 L ∧ Keep h0 h [r0] ∧ Exa Z h r0 "com/example/packwise/packwise/ByteArraySource" ∧ Fld Z h r0 "com/example/packwise/packwise/ByteArraySource" "bytes" "[B" (.ref w_bytes) ∧ Fld Z h r0 "com/example/packwise/packwise/ByteArraySource" "end" "I" (.int w_end) ∧ Fld Z h r0 "com/example/packwise/packwise/ByteArraySource" "position" "I" (.int (w_position + (1 : Int32))))
set_option maxRecDepth 65536 in
set_option maxHeartbeats 40000000 in
theorem rm12 (l : Launch) (Z : State) (a0 : Array Value) (hw : ∀ d ∈ tables_1, d.before a0 Z = true) (ws : List Jvm.Cond) (r0 : Addr) (w_bytes : Addr) (w_end : Int32) (w_position : Int32) (vs : List Int32) (h0 : Heap) (n0 : Nat) (Z0 : n0 ≤ h0.size) (E0 : Exa Z h0 r0 "com/example/packwise/packwise/ByteArraySource") (F0_bytes : Fld Z h0 r0 "com/example/packwise/packwise/ByteArraySource" "bytes" "[B" (.ref w_bytes)) (F0_end : Fld Z h0 r0 "com/example/packwise/packwise/ByteArraySource" "end" "I" (.int w_end)) (F0_position : Fld Z h0 r0 "com/example/packwise/packwise/ByteArraySource" "position" "I" (.int w_position)) (G0 : n0 ≤ r0) (VA : ArrL .byte Z h0 w_bytes vs) (hne : r0 ≠ w_bytes) (hj : ¬ w_position < 0 ∧ w_position.toNatClampNeg < vs.length) (hc8 : ¬ (w_position = w_end)) :
    MetFree l (⟨"com/example/packwise/packwise/ByteArraySource", "readByte", "()B"⟩ : MethodName) (head1 (Jvm.Cond.code (⟨"com/example/packwise/packwise/ByteArraySource", "readByte", "()B"⟩ : MethodName) prog_7_method_3_code 1 (some .byte) :: ws) ({ frames := 0, cells := 0, slots := 0, locals := 0 } : Room)) (fun a U => a = #[(.ref r0)] ∧ Z.Warmed39 U.vm ∧ U.heap = h0) (fun _ _ _ _ _ => True) (fun _ U o U' => ∃ v L, o = .returned v ∧ Q_rm12 Z r0 w_bytes w_end w_position vs h0 n0 v U'.heap L ∧ FrameEnd U o U' L ({ frames := 0, cells := 0, slots := 0, locals := 0 } : Room).cells ({ frames := 0, cells := 0, slots := 0, locals := 0 } : Room).slots) := by
  refine MetFree.of_bodySF (plainFor_of_name pn_12) hisR ?_
  intro p e s m args below meth c s₁ Bd hml0 hP hK
  obtain ⟨rfl, hZ, hh⟩ := hP
  have hx := Bd.exec
  have hby := Bd.bytes
  have hml : c.maxLocals = 1 := hml0
  have hown : s.vm.findClass "com/example/packwise/packwise/ByteArraySource" = some m.cls := findClass_of_methodNamed Bd.named
  have hnm := (name_of_methodNamed Bd.named Bd.method).1
  have X0 : Stand p l e ({ frames := 0, cells := 0, slots := 0, locals := 0 } : Room) s m #[(.ref r0)] below meth c s₁ [] 0 0 := Stand.of_body Bd
  have e0 : s₁.heap = h0 := by rw [← hh, Bd.state]; rfl
  have N0 := Fr.nil n0
  have pre0 : ∀ t, Steps p.tables e below (s₁.setTop (mkF m 0 #[.val (.ref r0)] [])) t → Steps p.tables e below (s₁.setTop (entryFrame m #[(.ref r0)] 1)) t := fun t k => castTop (ef_12 m r0) k
  obtain ⟨T1, X1, e1, st1⟩ := getF X0 hx hZ hown (host := "") (Or.inl (hw _ (List.mem_of_getElem? (i := 50) rfl))) Via.refl e0 F0_position (g := (mkF m 1 #[.val (.ref r0)] [(.ref r0)])) rfl rfl (hb hby d12_1)
  obtain ⟨T2, X2, e2, st2⟩ := getF X1 hx hZ hown (host := "") (Or.inl (hw _ (List.mem_of_getElem? (i := 48) rfl))) Via.refl e1 F0_end (g := (mkF m 5 #[.val (.ref r0)] [(.ref r0), (.int w_position)])) rfl rfl (hb hby d12_5)
  obtain ⟨T3, X3, e3, st3⟩ := getF X2 hx hZ hown (host := "") (Or.inl (hw _ (List.mem_of_getElem? (i := 46) rfl))) Via.refl e2 F0_bytes (g := (mkF m 22 #[.val (.ref r0)] [(.ref r0)])) rfl rfl (hb hby d12_22)
  obtain ⟨T4, X4, e4, st4⟩ := getF X3 hx hZ hown (host := "") (Or.inl (hw _ (List.mem_of_getElem? (i := 50) rfl))) Via.refl e3 F0_position (g := (mkF m 27 #[.val (.ref r0)] [(.ref r0), (.ref r0), (.ref w_bytes)])) rfl rfl (hb hby d12_27)
  obtain ⟨T5, h5, X5, e5, W5, st5⟩ := putF X4 hx hZ hown (host := "") (Or.inl (hw _ (List.mem_of_getElem? (i := 50) rfl))) Via.refl e4 F0_position E0 (Or.inl (hw _ (List.mem_of_getElem? (i := 51) rfl))) (hw _ (List.mem_of_getElem? (i := 11) rfl)) (ty := .int) (by decide) rfl rfl (g := (mkF m 33 #[.val (.ref r0)] [(.int (w_position + (1 : Int32))), (.ref r0), (.int w_position), (.ref w_bytes)])) rfl rfl (hb hby d12_33)
  have Fw5 : Fld Z h5 r0 "com/example/packwise/packwise/ByteArraySource" "position" "I" (.int (w_position + (1 : Int32))) := F0_position.same W5
  have N5 := Fr.snoc X5 N0 G0
  have f5_E_r0 : Exa Z h5 r0 "com/example/packwise/packwise/ByteArraySource" := E0.wr W5
  have f5_K : Keep h0 h5 [r0] := (Keep.refl h0 [r0]).wr W5 (Or.inl (List.mem_of_getElem? (i := 0) rfl))
  have f5_F_r0_bytes : Fld Z h5 r0 "com/example/packwise/packwise/ByteArraySource" "bytes" "[B" (.ref w_bytes) := F0_bytes.other W5 (Or.inr (slot_ne (Or.inr (hw _ (List.mem_of_getElem? (i := 47) rfl))) (Or.inl (hw _ (List.mem_of_getElem? (i := 51) rfl))) (by decide) (t := (.array .byte)) (t' := .int) (by decide) (by decide)))
  have f5_F_r0_end : Fld Z h5 r0 "com/example/packwise/packwise/ByteArraySource" "end" "I" (.int w_end) := F0_end.other W5 (Or.inr (slot_ne (Or.inr (hw _ (List.mem_of_getElem? (i := 49) rfl))) (Or.inl (hw _ (List.mem_of_getElem? (i := 51) rfl))) (by decide) (t := .int) (t' := .int) (by decide) (by decide)))
  have f5_V_w_bytes : ArrL .byte Z h5 w_bytes vs := VA.other W5 (Ne.symm hne)
  have Z5 : n0 ≤ Array.size h5 := Nat.le_trans Z0 (Keep.of_wr W5).1
  obtain ⟨fs, hr, hrun, hended, hW, hsame⟩ := X5.leave (v := some (.int ((vs.getD w_position.toNatClampNeg 0).toInt8.toInt32))) (fun h => by rw [Bd.returns] at h; cases h)
  refine ⟨_, _, pre0 _ ?_, hrun, hended, _, _, rfl, ⟨rfl, N5, (show Keep h0 T5.heap [r0] from by rw [e5]; exact f5_K), (show Exa Z T5.heap r0 "com/example/packwise/packwise/ByteArraySource" from by rw [e5]; exact f5_E_r0), (show Fld Z T5.heap r0 "com/example/packwise/packwise/ByteArraySource" "bytes" "[B" (.ref w_bytes) from by rw [e5]; exact f5_F_r0_bytes), (show Fld Z T5.heap r0 "com/example/packwise/packwise/ByteArraySource" "end" "I" (.int w_end) from by rw [e5]; exact f5_F_r0_end), (show Fld Z T5.heap r0 "com/example/packwise/packwise/ByteArraySource" "position" "I" (.int (w_position + (1 : Int32))) from by rw [e5]; exact Fw5)⟩, ⟨_, rfl⟩, hW, hsame.mono (by decide) (by decide)⟩
  show Steps p.tables e below (s₁.setTop (mkF m 0 #[.val (.ref r0)] [])) _
  refine XS.aloadN X0.here hx rfl (hb hby d12_0) rfl rfl ?_
  show Steps p.tables e below (s₁.setTop (mkF m 1 #[.val (.ref r0)] [(.ref r0)])) _
  refine st1 _ ?_
  show Steps p.tables e below (T1.setTop (mkF m 4 #[.val (.ref r0)] [(.int w_position)])) _
  refine XS.aloadN X1.here hx rfl (hb hby d12_4) rfl rfl ?_
  show Steps p.tables e below (T1.setTop (mkF m 5 #[.val (.ref r0)] [(.ref r0), (.int w_position)])) _
  refine st2 _ ?_
  show Steps p.tables e below (T2.setTop (mkF m 8 #[.val (.ref r0)] [(.int w_end), (.int w_position)])) _
  refine XS.icmpYes X2.here hx rfl (pc0 := 8) (pc' := 21) rfl (hb hby d12_8) rfl (feq hc8).2 (by decide) (by decide) ?_
  show Steps p.tables e below (T2.setTop (mkF m 21 #[.val (.ref r0)] [])) _
  refine XS.aloadN X2.here hx rfl (hb hby d12_21) rfl rfl ?_
  show Steps p.tables e below (T2.setTop (mkF m 22 #[.val (.ref r0)] [(.ref r0)])) _
  refine st3 _ ?_
  show Steps p.tables e below (T3.setTop (mkF m 25 #[.val (.ref r0)] [(.ref w_bytes)])) _
  refine XS.aloadN X3.here hx rfl (hb hby d12_25) rfl rfl ?_
  show Steps p.tables e below (T3.setTop (mkF m 26 #[.val (.ref r0)] [(.ref r0), (.ref w_bytes)])) _
  refine XS.dup X3.here hx rfl (hb hby d12_26) rfl rfl ?_
  show Steps p.tables e below (T3.setTop (mkF m 27 #[.val (.ref r0)] [(.ref r0), (.ref r0), (.ref w_bytes)])) _
  refine st4 _ ?_
  show Steps p.tables e below (T4.setTop (mkF m 30 #[.val (.ref r0)] [(.int w_position), (.ref r0), (.ref w_bytes)])) _
  refine XS.dupX1 X4.here hx rfl (hb hby d12_30) rfl rfl rfl ?_
  show Steps p.tables e below (T4.setTop (mkF m 31 #[.val (.ref r0)] [(.int w_position), (.ref r0), (.int w_position), (.ref w_bytes)])) _
  refine XS.iconst X4.here hx rfl (hb hby d12_31) ?_
  show Steps p.tables e below (T4.setTop (mkF m 32 #[.val (.ref r0)] [(.int (1 : Int32)), (.int w_position), (.ref r0), (.int w_position), (.ref w_bytes)])) _
  refine XS.iadd X4.here hx rfl (hb hby d12_32) rfl ?_
  show Steps p.tables e below (T4.setTop (mkF m 33 #[.val (.ref r0)] [(.int (w_position + (1 : Int32))), (.ref r0), (.int w_position), (.ref w_bytes)])) _
  refine st5 _ ?_
  show Steps p.tables e below (T5.setTop (mkF m 36 #[.val (.ref r0)] [(.int w_position), (.ref w_bytes)])) _
  refine own_al_ldB X5 hx hZ e5 f5_V_w_bytes (g := (mkF m 36 #[.val (.ref r0)] [(.int w_position), (.ref w_bytes)])) hj rfl rfl (hb hby d12_36) _ ?_
  show Steps p.tables e below (T5.setTop (mkF m 37 #[.val (.ref r0)] [(.int (vs.getD w_position.toNatClampNeg 0))])) _
  exact retN X5 hx (t := .byte) Bd.returns (by simp) (hb hby d12_37) hr
theorem d9_0 : decode prog_7_method_5_code 0 = .ok (.lload_n 1, 1) := by decide +kernel
theorem d9_1 : decode prog_7_method_5_code 1 = .ok (.invokestatic 54, 3) := by decide +kernel
theorem d9_4 : decode prog_7_method_5_code 4 = .ok (.lload_n 1, 1) := by decide +kernel
theorem d9_5 : decode prog_7_method_5_code 5 = .ok (.aload_n 0, 1) := by decide +kernel
theorem d9_6 : decode prog_7_method_5_code 6 = .ok (.getfield 28, 3) := by decide +kernel
theorem d9_9 : decode prog_7_method_5_code 9 = .ok (.aload_n 0, 1) := by decide +kernel
theorem d9_10 : decode prog_7_method_5_code 10 = .ok (.getfield 32, 3) := by decide +kernel
theorem d9_13 : decode prog_7_method_5_code 13 = .ok (.isub, 1) := by decide +kernel
theorem d9_14 : decode prog_7_method_5_code 14 = .ok (.i2l, 1) := by decide +kernel
theorem d9_15 : decode prog_7_method_5_code 15 = .ok (.invokestatic 58, 3) := by decide +kernel
theorem d9_18 : decode prog_7_method_5_code 18 = .ok (.l2i, 1) := by decide +kernel
theorem d9_19 : decode prog_7_method_5_code 19 = .ok (.istore_n 3, 1) := by decide +kernel
theorem d9_20 : decode prog_7_method_5_code 20 = .ok (.aload_n 0, 1) := by decide +kernel
theorem d9_21 : decode prog_7_method_5_code 21 = .ok (.dup, 1) := by decide +kernel
theorem d9_22 : decode prog_7_method_5_code 22 = .ok (.getfield 32, 3) := by decide +kernel
theorem d9_25 : decode prog_7_method_5_code 25 = .ok (.iload_n 3, 1) := by decide +kernel
theorem d9_26 : decode prog_7_method_5_code 26 = .ok (.iadd, 1) := by decide +kernel
theorem d9_27 : decode prog_7_method_5_code 27 = .ok (.putfield 32, 3) := by decide +kernel
theorem d9_30 : decode prog_7_method_5_code 30 = .ok (.iload_n 3, 1) := by decide +kernel
theorem d9_31 : decode prog_7_method_5_code 31 = .ok (.i2l, 1) := by decide +kernel
theorem d9_32 : decode prog_7_method_5_code 32 = .ok (.lreturn, 1) := by decide +kernel
theorem pn_9 : plainName "com/example/packwise/packwise/ByteArraySource" = true := by first | (simp [plainName, overriddenIn]; done) | decide +kernel
theorem ef_9 (m : MethodId) (r0 : Addr) (q1 : Int64) : entryFrame m #[(.ref r0), (.long q1)] 4 = mkF m 0 #[.val (.ref r0), .val (.long q1), .second, .unset] [] := by first | (simp [entryFrame, mkF, argsToLocals, Value.category]; done) | rfl
def Q_rm9 (Z : State) (r0 : Addr) (q1 : Int64) (w_end : Int32) (w_position : Int32) (h0 : Heap) (n0 : Nat) (v : Option Value) (h : Heap) (L : List Loc) : Prop := (v = some (.long (((F11_0 q1 ((w_end - w_position).toInt64)).toInt32).toInt64)) ∧ Fr n0 L ∧ Keep h0 h [r0] ∧ Exa Z h r0 "com/example/packwise/packwise/ByteArraySource" ∧ Fld Z h r0 "com/example/packwise/packwise/ByteArraySource" "end" "I" (.int w_end) ∧ Fld Z h r0 "com/example/packwise/packwise/ByteArraySource" "position" "I" (.int (w_position + ((F11_0 q1 ((w_end - w_position).toInt64)).toInt32))))
set_option maxRecDepth 65536 in
set_option maxHeartbeats 40000000 in
theorem rm9 (l : Launch) (Z : State) (a0 : Array Value) (hw : ∀ d ∈ tables_1, d.before a0 Z = true) (ws : List Jvm.Cond) (r0 : Addr) (q1 : Int64) (w_end : Int32) (w_position : Int32) (h0 : Heap) (n0 : Nat) (Z0 : n0 ≤ h0.size) (E0 : Exa Z h0 r0 "com/example/packwise/packwise/ByteArraySource") (F0_end : Fld Z h0 r0 "com/example/packwise/packwise/ByteArraySource" "end" "I" (.int w_end)) (F0_position : Fld Z h0 r0 "com/example/packwise/packwise/ByteArraySource" "position" "I" (.int w_position)) (G0 : n0 ≤ r0) (hq : ¬ q1 < (0 : Int64)) :
    MetFree l (⟨"com/example/packwise/packwise/ByteArraySource", "skipBytes", "(J)J"⟩ : MethodName) (head1 (Jvm.Cond.code (⟨"com/example/packwise/packwise/ByteArraySource", "skipBytes", "(J)J"⟩ : MethodName) prog_7_method_5_code 4 (some .long) :: ws) ({ frames := 1, cells := 0, slots := 0, locals := 15 } : Room)) (fun a U => a = #[(.ref r0), (.long q1)] ∧ Z.Warmed39 U.vm ∧ U.heap = h0) (fun _ _ _ _ _ => True) (fun _ U o U' => ∃ v L, o = .returned v ∧ Q_rm9 Z r0 q1 w_end w_position h0 n0 v U'.heap L ∧ FrameEnd U o U' L ({ frames := 1, cells := 0, slots := 0, locals := 15 } : Room).cells ({ frames := 1, cells := 0, slots := 0, locals := 15 } : Room).slots) := by
  refine MetFree.of_bodySF (plainFor_of_name pn_9) hisR ?_
  intro p e s m args below meth c s₁ Bd hml0 hP hK
  obtain ⟨rfl, hZ, hh⟩ := hP
  have hx := Bd.exec
  have hby := Bd.bytes
  have hml : c.maxLocals = 4 := hml0
  have hown : s.vm.findClass "com/example/packwise/packwise/ByteArraySource" = some m.cls := findClass_of_methodNamed Bd.named
  have hnm := (name_of_methodNamed Bd.named Bd.method).1
  have X0 : Stand p l e ({ frames := 1, cells := 0, slots := 0, locals := 15 } : Room) s m #[(.ref r0), (.long q1)] below meth c s₁ [] 0 0 := Stand.of_body Bd
  have e0 : s₁.heap = h0 := by rw [← hh, Bd.state]; rfl
  have N0 := Fr.nil n0
  have pre0 : ∀ t, Steps p.tables e below (s₁.setTop (mkF m 0 #[.val (.ref r0), .val (.long q1), .second, .unset] [])) t → Steps p.tables e below (s₁.setTop (entryFrame m #[(.ref r0), (.long q1)] 4)) t := fun t k => castTop (ef_9 m r0 q1) k
  obtain ⟨_, _, ⟨T1, L1, k1, n1⟩, -, X1, ⟨Lc1, hQ1, l1, y1, z1⟩, st1⟩ := own_callUp X0 hx (x := (⟨"com/example/packwise/packwise/ByteArraySource", "checkSkipLength", "(J)V"⟩ : MethodName)) (owner := "com/example/packwise/packwise/ByteSource") hown (mvT hZ (hw _ (List.mem_of_getElem? (i := 58) rfl))) (mvT hZ (hw _ (List.mem_of_getElem? (i := 59) rfl))) (mvT hZ (hw _ (List.mem_of_getElem? (i := 60) rfl))) (mvT hZ (hw _ (List.mem_of_getElem? (i := 19) rfl))) (mvT hZ (hw _ (List.mem_of_getElem? (i := 61) rfl))) (by decide) (backOf (W := 0) (rm10 l Z a0 hw [] q1 h0 n0 Z0 hq) hZ (hw _ (List.mem_of_getElem? (i := 61) rfl)) (hw _ (List.mem_of_getElem? (i := 19) rfl)) (by decide) (by decide)) (g := (mkF m 1 #[.val (.ref r0), .val (.long q1), .second, .unset] [(.long q1)])) rfl (by rw [hml]; rfl) (argsL := [(.long q1)]) (rest := []) (lenOf pd4 rfl) rfl (by show 2 * 0 + _ ≤ _; exact Nat.le_of_eq rfl) (hb hby d9_1) (fun _ _ => ⟨rfl, e0, (by decide : 0 + 0 ≤ _), (by decide : 0 + 0 ≤ _)⟩)
  dsimp only [Pt.U, Pt.locs, Pt.cells, Pt.slots] at X1 l1 y1 z1 st1 hQ1
  subst y1 z1
  obtain ⟨rfl, N1q, e1⟩ := hQ1
  have N1 : Fr n0 L1 := by rw [l1]; exact Fr.app N0 N1q
  obtain ⟨T2, X2, e2, st2⟩ := getF X1 hx hZ hown (host := "") (Or.inl (hw _ (List.mem_of_getElem? (i := 48) rfl))) Via.refl e1 F0_end (g := (mkF m 6 #[.val (.ref r0), .val (.long q1), .second, .unset] [(.ref r0), (.long q1)])) rfl rfl (hb hby d9_6)
  obtain ⟨T3, X3, e3, st3⟩ := getF X2 hx hZ hown (host := "") (Or.inl (hw _ (List.mem_of_getElem? (i := 50) rfl))) Via.refl e2 F0_position (g := (mkF m 10 #[.val (.ref r0), .val (.long q1), .second, .unset] [(.ref r0), (.int w_end), (.long q1)])) rfl rfl (hb hby d9_10)
  obtain ⟨_, _, ⟨T4, L4, k4, n4⟩, -, X4, ⟨Lc4, hQ4, l4, y4, z4⟩, st4⟩ := Jvm.LawKit.callS X3 hx (y := (⟨"java/lang/Math", "min", "(JJ)J"⟩ : MethodName)) hown (mvT hZ (hw _ (List.mem_of_getElem? (i := 62) rfl))) (mvT hZ (hw _ (List.mem_of_getElem? (i := 63) rfl))) (mvT hZ (hw _ (List.mem_of_getElem? (i := 8) rfl))) (mvT hZ (hw _ (List.mem_of_getElem? (i := 64) rfl))) (by decide) (backOf (W := 0) (rm11 l Z a0 hw [] q1 ((w_end - w_position).toInt64) h0 n0 Z0) hZ (hw _ (List.mem_of_getElem? (i := 64) rfl)) (hw _ (List.mem_of_getElem? (i := 8) rfl)) (by decide) (by decide)) (g := (mkF m 15 #[.val (.ref r0), .val (.long q1), .second, .unset] [(.long ((w_end - w_position).toInt64)), (.long q1)])) rfl (by rw [hml]; rfl) (argsL := [(.long q1), (.long ((w_end - w_position).toInt64))]) (rest := []) (lenOf pd5 rfl) rfl (by show 2 * 0 + _ ≤ _; exact Nat.le_of_eq rfl) (hb hby d9_15) (fun _ _ => ⟨rfl, e3, (by decide : 0 + 0 ≤ _), (by decide : 0 + 0 ≤ _)⟩)
  dsimp only [Pt.U, Pt.locs, Pt.cells, Pt.slots] at X4 l4 y4 z4 st4 hQ4
  subst y4 z4
  obtain ⟨rfl, N4q, e4⟩ := hQ4
  have N4 : Fr n0 L4 := by rw [l4]; exact Fr.app N1 N4q
  obtain ⟨T5, X5, e5, st5⟩ := getF X4 hx hZ hown (host := "") (Or.inl (hw _ (List.mem_of_getElem? (i := 50) rfl))) Via.refl e4 F0_position (g := (mkF m 22 #[.val (.ref r0), .val (.long q1), .second, .val (.int ((F11_0 q1 ((w_end - w_position).toInt64)).toInt32))] [(.ref r0), (.ref r0)])) rfl rfl (hb hby d9_22)
  obtain ⟨T6, h6, X6, e6, W6, st6⟩ := putF X5 hx hZ hown (host := "") (Or.inl (hw _ (List.mem_of_getElem? (i := 50) rfl))) Via.refl e5 F0_position E0 (Or.inl (hw _ (List.mem_of_getElem? (i := 51) rfl))) (hw _ (List.mem_of_getElem? (i := 11) rfl)) (ty := .int) (by decide) rfl rfl (g := (mkF m 27 #[.val (.ref r0), .val (.long q1), .second, .val (.int ((F11_0 q1 ((w_end - w_position).toInt64)).toInt32))] [(.int (w_position + ((F11_0 q1 ((w_end - w_position).toInt64)).toInt32))), (.ref r0)])) rfl rfl (hb hby d9_27)
  have Fw6 : Fld Z h6 r0 "com/example/packwise/packwise/ByteArraySource" "position" "I" (.int (w_position + ((F11_0 q1 ((w_end - w_position).toInt64)).toInt32))) := F0_position.same W6
  have N6 := Fr.snoc X6 N4 G0
  have f6_E_r0 : Exa Z h6 r0 "com/example/packwise/packwise/ByteArraySource" := E0.wr W6
  have f6_K : Keep h0 h6 [r0] := (Keep.refl h0 [r0]).wr W6 (Or.inl (List.mem_of_getElem? (i := 0) rfl))
  have f6_F_r0_end : Fld Z h6 r0 "com/example/packwise/packwise/ByteArraySource" "end" "I" (.int w_end) := F0_end.other W6 (Or.inr (slot_ne (Or.inr (hw _ (List.mem_of_getElem? (i := 49) rfl))) (Or.inl (hw _ (List.mem_of_getElem? (i := 51) rfl))) (by decide) (t := .int) (t' := .int) (by decide) (by decide)))
  have Z6 : n0 ≤ Array.size h6 := Nat.le_trans Z0 (Keep.of_wr W6).1
  obtain ⟨fs, hr, hrun, hended, hW, hsame⟩ := X6.leave (v := some (.long (((F11_0 q1 ((w_end - w_position).toInt64)).toInt32).toInt64))) (fun h => by rw [Bd.returns] at h; cases h)
  refine ⟨_, _, pre0 _ ?_, hrun, hended, _, _, rfl, ⟨rfl, N6, (show Keep h0 T6.heap [r0] from by rw [e6]; exact f6_K), (show Exa Z T6.heap r0 "com/example/packwise/packwise/ByteArraySource" from by rw [e6]; exact f6_E_r0), (show Fld Z T6.heap r0 "com/example/packwise/packwise/ByteArraySource" "end" "I" (.int w_end) from by rw [e6]; exact f6_F_r0_end), (show Fld Z T6.heap r0 "com/example/packwise/packwise/ByteArraySource" "position" "I" (.int (w_position + ((F11_0 q1 ((w_end - w_position).toInt64)).toInt32))) from by rw [e6]; exact Fw6)⟩, ⟨_, rfl⟩, hW, hsame.mono (by decide) (by decide)⟩
  show Steps p.tables e below (s₁.setTop (mkF m 0 #[.val (.ref r0), .val (.long q1), .second, .unset] [])) _
  refine XS.lloadN X0.here hx rfl (hb hby d9_0) rfl ?_
  show Steps p.tables e below (s₁.setTop (mkF m 1 #[.val (.ref r0), .val (.long q1), .second, .unset] [(.long q1)])) _
  refine st1 _ ?_
  show Steps p.tables e below (T1.setTop (mkF m 4 #[.val (.ref r0), .val (.long q1), .second, .unset] [])) _
  refine XS.lloadN X1.here hx rfl (hb hby d9_4) rfl ?_
  show Steps p.tables e below (T1.setTop (mkF m 5 #[.val (.ref r0), .val (.long q1), .second, .unset] [(.long q1)])) _
  refine XS.aloadN X1.here hx rfl (hb hby d9_5) rfl rfl ?_
  show Steps p.tables e below (T1.setTop (mkF m 6 #[.val (.ref r0), .val (.long q1), .second, .unset] [(.ref r0), (.long q1)])) _
  refine st2 _ ?_
  show Steps p.tables e below (T2.setTop (mkF m 9 #[.val (.ref r0), .val (.long q1), .second, .unset] [(.int w_end), (.long q1)])) _
  refine XS.aloadN X2.here hx rfl (hb hby d9_9) rfl rfl ?_
  show Steps p.tables e below (T2.setTop (mkF m 10 #[.val (.ref r0), .val (.long q1), .second, .unset] [(.ref r0), (.int w_end), (.long q1)])) _
  refine st3 _ ?_
  show Steps p.tables e below (T3.setTop (mkF m 13 #[.val (.ref r0), .val (.long q1), .second, .unset] [(.int w_position), (.int w_end), (.long q1)])) _
  refine XS.isub X3.here hx rfl (hb hby d9_13) rfl ?_
  show Steps p.tables e below (T3.setTop (mkF m 14 #[.val (.ref r0), .val (.long q1), .second, .unset] [(.int (w_end - w_position)), (.long q1)])) _
  refine XS.i2l X3.here hx rfl (hb hby d9_14) rfl ?_
  show Steps p.tables e below (T3.setTop (mkF m 15 #[.val (.ref r0), .val (.long q1), .second, .unset] [(.long ((w_end - w_position).toInt64)), (.long q1)])) _
  refine st4 _ ?_
  show Steps p.tables e below (T4.setTop (mkF m 18 #[.val (.ref r0), .val (.long q1), .second, .unset] [(.long (F11_0 q1 ((w_end - w_position).toInt64)))])) _
  refine XS.l2i X4.here hx rfl (hb hby d9_18) rfl ?_
  show Steps p.tables e below (T4.setTop (mkF m 19 #[.val (.ref r0), .val (.long q1), .second, .unset] [(.int ((F11_0 q1 ((w_end - w_position).toInt64)).toInt32))])) _
  refine XS.istoreN X4.here hx rfl (hb hby d9_19) rfl (l' := #[.val (.ref r0), .val (.long q1), .second, .val (.int ((F11_0 q1 ((w_end - w_position).toInt64)).toInt32))]) rfl ?_
  show Steps p.tables e below (T4.setTop (mkF m 20 #[.val (.ref r0), .val (.long q1), .second, .val (.int ((F11_0 q1 ((w_end - w_position).toInt64)).toInt32))] [])) _
  refine XS.aloadN X4.here hx rfl (hb hby d9_20) rfl rfl ?_
  show Steps p.tables e below (T4.setTop (mkF m 21 #[.val (.ref r0), .val (.long q1), .second, .val (.int ((F11_0 q1 ((w_end - w_position).toInt64)).toInt32))] [(.ref r0)])) _
  refine XS.dup X4.here hx rfl (hb hby d9_21) rfl rfl ?_
  show Steps p.tables e below (T4.setTop (mkF m 22 #[.val (.ref r0), .val (.long q1), .second, .val (.int ((F11_0 q1 ((w_end - w_position).toInt64)).toInt32))] [(.ref r0), (.ref r0)])) _
  refine st5 _ ?_
  show Steps p.tables e below (T5.setTop (mkF m 25 #[.val (.ref r0), .val (.long q1), .second, .val (.int ((F11_0 q1 ((w_end - w_position).toInt64)).toInt32))] [(.int w_position), (.ref r0)])) _
  refine XS.iloadN X5.here hx rfl (hb hby d9_25) rfl ?_
  show Steps p.tables e below (T5.setTop (mkF m 26 #[.val (.ref r0), .val (.long q1), .second, .val (.int ((F11_0 q1 ((w_end - w_position).toInt64)).toInt32))] [(.int ((F11_0 q1 ((w_end - w_position).toInt64)).toInt32)), (.int w_position), (.ref r0)])) _
  refine XS.iadd X5.here hx rfl (hb hby d9_26) rfl ?_
  show Steps p.tables e below (T5.setTop (mkF m 27 #[.val (.ref r0), .val (.long q1), .second, .val (.int ((F11_0 q1 ((w_end - w_position).toInt64)).toInt32))] [(.int (w_position + ((F11_0 q1 ((w_end - w_position).toInt64)).toInt32))), (.ref r0)])) _
  refine st6 _ ?_
  show Steps p.tables e below (T6.setTop (mkF m 30 #[.val (.ref r0), .val (.long q1), .second, .val (.int ((F11_0 q1 ((w_end - w_position).toInt64)).toInt32))] [])) _
  refine XS.iloadN X6.here hx rfl (hb hby d9_30) rfl ?_
  show Steps p.tables e below (T6.setTop (mkF m 31 #[.val (.ref r0), .val (.long q1), .second, .val (.int ((F11_0 q1 ((w_end - w_position).toInt64)).toInt32))] [(.int ((F11_0 q1 ((w_end - w_position).toInt64)).toInt32))])) _
  refine XS.i2l X6.here hx rfl (hb hby d9_31) rfl ?_
  show Steps p.tables e below (T6.setTop (mkF m 32 #[.val (.ref r0), .val (.long q1), .second, .val (.int ((F11_0 q1 ((w_end - w_position).toInt64)).toInt32))] [(.long (((F11_0 q1 ((w_end - w_position).toInt64)).toInt32).toInt64))])) _
  exact X6.lreturnOut hx Bd.returns (hb hby d9_32) hr
def bys (q0 : Int64) : List Int32 := [(nar .byte (F1_0 q0 (0 : Int32))), (nar .byte (F1_0 q0 (1 : Int32))), (nar .byte (F1_0 q0 (2 : Int32))), (nar .byte (F1_0 q0 (3 : Int32))), (nar .byte (F1_0 q0 (4 : Int32))), (nar .byte (F1_0 q0 (5 : Int32))), (nar .byte (F1_0 q0 (6 : Int32))), (nar .byte (F1_0 q0 (7 : Int32)))]
def vO (p1 : Int32) : Int32 := ((p1 &&& (2147483647 : Int32)) - ((p1 &&& (2147483647 : Int32)) / (9 : Int32)) * (9 : Int32))
def vLen (p1 p2 : Int32) : Int32 := ((p2 &&& (2147483647 : Int32)) - ((p2 &&& (2147483647 : Int32)) / ((9 : Int32) - (vO p1))) * ((9 : Int32) - (vO p1)))
def vN (p1 p2 p3 : Int32) : Int32 := (F2_0 ((p3 &&& (7 : Int32)) - ((p3 &&& (7 : Int32)) / (5 : Int32)) * (5 : Int32)) (vLen p1 p2))

theorem own_m31 (x : Int32) : 0 ≤ (x &&& (2147483647 : Int32)).toInt := by
  rw [c_mask x 2147483647 31 (by decide) (by decide)]; exact Int.emod_nonneg _ (by decide)
theorem own_rem (x y : Int32) (hx : 0 ≤ x.toInt) (hy : 1 ≤ y.toInt) : 0 ≤ (x - (x / y) * y).toInt ∧ (x - (x / y) * y).toInt < y.toInt := by
  rw [irem_eq_mod, (c_irem x y _ rfl).1 hx]
  exact ⟨Int.emod_nonneg _ (by omega), Int.emod_lt_of_pos _ (by omega)⟩
theorem own_rO (p1 : Int32) : 0 ≤ (vO p1).toInt ∧ (vO p1).toInt < 9 := own_rem (p1 &&& 2147483647) 9 (own_m31 p1) (by decide)
theorem own_9 (p1 : Int32) : ((9 : Int32) - (vO p1)).toInt = 9 - (vO p1).toInt := by
  have a := own_rO p1
  have c := c_isub 9 (vO p1)
  have r := rng32 (9 - vO p1)
  have e9 : (9 : Int32).toInt = 9 := rfl
  omega
theorem own_nz (p1 : Int32) : ¬ ((9 : Int32) - (vO p1)) = (0 : Int32) := by
  intro h
  have a := own_rO p1
  have b := own_9 p1
  rw [h] at b
  have e0 : (0 : Int32).toInt = 0 := rfl
  omega
theorem own_rLen (p1 p2 : Int32) : 0 ≤ (vLen p1 p2).toInt ∧ (vLen p1 p2).toInt ≤ 8 - (vO p1).toInt := by
  have a := own_rO p1
  have b := own_9 p1
  have c : 0 ≤ (vLen p1 p2).toInt ∧ (vLen p1 p2).toInt < ((9 : Int32) - (vO p1)).toInt := own_rem (p2 &&& 2147483647) (9 - vO p1) (own_m31 p2) (by omega)
  omega
theorem own_rN (p1 p2 p3 : Int32) : 0 ≤ (vN p1 p2 p3).toInt ∧ (vN p1 p2 p3).toInt ≤ 4 ∧ (vN p1 p2 p3).toInt ≤ (vLen p1 p2).toInt := by
  have m : 0 ≤ (p3 &&& (7 : Int32)).toInt := by
    rw [c_mask p3 7 3 (by decide) (by decide)]; exact Int.emod_nonneg _ (by decide)
  have a := own_rem (p3 &&& 7) 5 m (by decide)
  have b := own_rLen p1 p2
  have e5 : (5 : Int32).toInt = 5 := rfl
  show 0 ≤ (F2_0 ((p3 &&& (7 : Int32)) - ((p3 &&& (7 : Int32)) / (5 : Int32)) * (5 : Int32)) (vLen p1 p2)).toInt ∧ (F2_0 ((p3 &&& (7 : Int32)) - ((p3 &&& (7 : Int32)) / (5 : Int32)) * (5 : Int32)) (vLen p1 p2)).toInt ≤ 4 ∧ (F2_0 ((p3 &&& (7 : Int32)) - ((p3 &&& (7 : Int32)) / (5 : Int32)) * (5 : Int32)) (vLen p1 p2)).toInt ≤ (vLen p1 p2).toInt
  generalize ((p3 &&& (7 : Int32)) - ((p3 &&& (7 : Int32)) / (5 : Int32)) * (5 : Int32)) = x at *
  by_cases h : (vLen p1 p2) < x
  · rw [show F2_0 x (vLen p1 p2) = vLen p1 p2 from if_pos h]
    rw [Int32.lt_iff_toInt_lt] at h; omega
  · rw [show F2_0 x (vLen p1 p2) = x from if_neg h]
    rw [Int32.lt_iff_toInt_lt] at h; omega
theorem own_mono {x a b : Int32} (h : x < a) (h2 : ¬ b < a) : x < b := by
  rw [Int32.lt_iff_toInt_lt] at *; omega
theorem own_q1 (p1 : Int32) : ¬ (vO p1) < (0 : Int32) := by
  have a := own_rO p1
  have e0 : (0 : Int32).toInt = 0 := rfl
  rw [Int32.lt_iff_toInt_lt]; omega
theorem own_q2 (p1 p2 : Int32) : ¬ (vLen p1 p2) < (0 : Int32) := by
  have a := own_rLen p1 p2
  have e0 : (0 : Int32).toInt = 0 := rfl
  rw [Int32.lt_iff_toInt_lt]; omega
theorem own_q3 (p1 p2 : Int32) : ¬ (((8 : Int32) - (vO p1)) < (vLen p1 p2)) := by
  have a := own_rO p1
  have b := own_rLen p1 p2
  have c := c_isub 8 (vO p1)
  have r := rng32 (8 - vO p1)
  have e8 : (8 : Int32).toInt = 8 := rfl
  rw [Int32.lt_iff_toInt_lt]; omega
theorem own_i8 (x : Int32) : x.toInt8.toInt32.toInt8.toInt32 = x.toInt8.toInt32 := by rw [Int8.toInt8_toInt32]
theorem own_b8 (q0 : Int64) (i : Int32) : (nar .byte (F1_0 q0 i)).toInt8.toInt32 = F1_0 q0 i := by
  show (((F1_0 q0 i).toInt8.toInt32).toInt8.toInt32) = F1_0 q0 i
  unfold F1_0
  rw [own_i8, own_i8]
theorem own_at (q0 : Int64) (i : Int32) (h : 0 ≤ i.toInt ∧ i.toInt < 8) : (((bys q0).getD i.toNatClampNeg 0).toInt8.toInt32) = F1_0 q0 i := by
  have hk : i = 0 ∨ i = 1 ∨ i = 2 ∨ i = 3 ∨ i = 4 ∨ i = 5 ∨ i = 6 ∨ i = 7 := by
    have e0 : (0 : Int32).toInt = 0 := rfl
    have e1 : (1 : Int32).toInt = 1 := rfl
    have e2 : (2 : Int32).toInt = 2 := rfl
    have e3 : (3 : Int32).toInt = 3 := rfl
    have e4 : (4 : Int32).toInt = 4 := rfl
    have e5 : (5 : Int32).toInt = 5 := rfl
    have e6 : (6 : Int32).toInt = 6 := rfl
    have e7 : (7 : Int32).toInt = 7 := rfl
    simp only [← Int32.toInt_inj]; omega
  rcases hk with rfl | rfl | rfl | rfl | rfl | rfl | rfl | rfl <;> exact own_b8 q0 _
theorem own_P1 (p1 : Int32) : ((vO p1) + (1 : Int32)).toInt = (vO p1).toInt + 1 := by
  have a := own_rO p1
  have c := c_iadd (vO p1) 1
  have r := rng32 (vO p1 + 1)
  have e1 : (1 : Int32).toInt = 1 := rfl
  omega
theorem own_P2 (p1 : Int32) : (((vO p1) + (1 : Int32)) + (1 : Int32)).toInt = (vO p1).toInt + 2 := by
  have a := own_rO p1
  have b := own_P1 p1
  have c := c_iadd ((vO p1) + (1 : Int32)) 1
  have r := rng32 (((vO p1) + (1 : Int32)) + (1 : Int32))
  have e1 : (1 : Int32).toInt = 1 := rfl
  omega
theorem own_P3 (p1 : Int32) : ((((vO p1) + (1 : Int32)) + (1 : Int32)) + (1 : Int32)).toInt = (vO p1).toInt + 3 := by
  have a := own_rO p1
  have b := own_P2 p1
  have c := c_iadd (((vO p1) + (1 : Int32)) + (1 : Int32)) 1
  have r := rng32 ((((vO p1) + (1 : Int32)) + (1 : Int32)) + (1 : Int32))
  have e1 : (1 : Int32).toInt = 1 := rfl
  omega
theorem own_P4 (p1 : Int32) : (((((vO p1) + (1 : Int32)) + (1 : Int32)) + (1 : Int32)) + (1 : Int32)).toInt = (vO p1).toInt + 4 := by
  have a := own_rO p1
  have b := own_P3 p1
  have c := c_iadd ((((vO p1) + (1 : Int32)) + (1 : Int32)) + (1 : Int32)) 1
  have r := rng32 (((((vO p1) + (1 : Int32)) + (1 : Int32)) + (1 : Int32)) + (1 : Int32))
  have e1 : (1 : Int32).toInt = 1 := rfl
  omega
theorem own_I2 (p1 : Int32) : (((vO p1) + (1 : Int32)) + (1 : Int32)) = ((vO p1) + (2 : Int32)) := by
  have a := own_rO p1
  have b := own_P2 p1
  have c := c_iadd (vO p1) 2
  have r := rng32 (vO p1 + 2)
  have e2 : (2 : Int32).toInt = 2 := rfl
  rw [← Int32.toInt_inj]; omega
theorem own_I3 (p1 : Int32) : ((((vO p1) + (1 : Int32)) + (1 : Int32)) + (1 : Int32)) = ((vO p1) + (3 : Int32)) := by
  have a := own_rO p1
  have b := own_P3 p1
  have c := c_iadd (vO p1) 3
  have r := rng32 (vO p1 + 3)
  have e3 : (3 : Int32).toInt = 3 := rfl
  rw [← Int32.toInt_inj]; omega
theorem own_p0 (p1 p2 p3 : Int32) (h : ¬ (vN p1 p2 p3) < (1 : Int32)) : 0 ≤ (vO p1).toInt ∧ (vO p1).toInt < 8 ∧ (vO p1).toInt < (vO p1).toInt + (vLen p1 p2).toInt := by
  have a := own_rO p1
  have b : (vO p1).toInt = (vO p1).toInt := rfl
  have c := own_rN p1 p2 p3
  have d := own_rLen p1 p2
  have e1 : (1 : Int32).toInt = 1 := rfl
  rw [Int32.lt_iff_toInt_lt] at h; omega
theorem own_in0 (q0 : Int64) (p1 p2 p3 : Int32) (h : ¬ (vN p1 p2 p3) < (1 : Int32)) : ¬ (vO p1) < 0 ∧ (vO p1).toNatClampNeg < (bys q0).length := by
  have a := own_p0 p1 p2 p3 h
  have e0 : (0 : Int32).toInt = 0 := rfl
  refine ⟨by rw [Int32.lt_iff_toInt_lt]; omega, ?_⟩
  show (vO p1).toInt.toNat < 8
  omega
theorem own_end0 (p1 p2 : Int32) : ((vO p1) + (vLen p1 p2)).toInt = (vO p1).toInt + (vLen p1 p2).toInt := by
  have a := own_rO p1
  have d := own_rLen p1 p2
  have c := c_iadd (vO p1) (vLen p1 p2)
  have r := rng32 (vO p1 + vLen p1 p2)
  omega
theorem own_ne0 (p1 p2 p3 : Int32) (h : ¬ (vN p1 p2 p3) < (1 : Int32)) : ¬ (vO p1) = ((vO p1) + (vLen p1 p2)) := by
  have a := own_p0 p1 p2 p3 h
  have b := own_end0 p1 p2
  rw [← Int32.toInt_inj]; omega
theorem own_cmp0 (q0 : Int64) (p1 p2 p3 : Int32) (h : ¬ (vN p1 p2 p3) < (1 : Int32)) : (((bys q0).getD (vO p1).toNatClampNeg 0).toInt8.toInt32) = (F1_0 q0 (vO p1)) := by
  have a := own_p0 p1 p2 p3 h
  rw [own_at q0 _ ⟨a.1, a.2.1⟩]
theorem own_p1 (p1 p2 p3 : Int32) (h : ¬ (vN p1 p2 p3) < (2 : Int32)) : 0 ≤ ((vO p1) + (1 : Int32)).toInt ∧ ((vO p1) + (1 : Int32)).toInt < 8 ∧ ((vO p1) + (1 : Int32)).toInt < (vO p1).toInt + (vLen p1 p2).toInt := by
  have a := own_rO p1
  have b := own_P1 p1
  have c := own_rN p1 p2 p3
  have d := own_rLen p1 p2
  have e2 : (2 : Int32).toInt = 2 := rfl
  rw [Int32.lt_iff_toInt_lt] at h; omega
theorem own_in1 (q0 : Int64) (p1 p2 p3 : Int32) (h : ¬ (vN p1 p2 p3) < (2 : Int32)) : ¬ ((vO p1) + (1 : Int32)) < 0 ∧ ((vO p1) + (1 : Int32)).toNatClampNeg < (bys q0).length := by
  have a := own_p1 p1 p2 p3 h
  have e0 : (0 : Int32).toInt = 0 := rfl
  refine ⟨by rw [Int32.lt_iff_toInt_lt]; omega, ?_⟩
  show ((vO p1) + (1 : Int32)).toInt.toNat < 8
  omega
theorem own_end1 (p1 p2 : Int32) : ((vO p1) + (vLen p1 p2)).toInt = (vO p1).toInt + (vLen p1 p2).toInt := by
  have a := own_rO p1
  have d := own_rLen p1 p2
  have c := c_iadd (vO p1) (vLen p1 p2)
  have r := rng32 (vO p1 + vLen p1 p2)
  omega
theorem own_ne1 (p1 p2 p3 : Int32) (h : ¬ (vN p1 p2 p3) < (2 : Int32)) : ¬ ((vO p1) + (1 : Int32)) = ((vO p1) + (vLen p1 p2)) := by
  have a := own_p1 p1 p2 p3 h
  have b := own_end1 p1 p2
  rw [← Int32.toInt_inj]; omega
theorem own_cmp1 (q0 : Int64) (p1 p2 p3 : Int32) (h : ¬ (vN p1 p2 p3) < (2 : Int32)) : (((bys q0).getD ((vO p1) + (1 : Int32)).toNatClampNeg 0).toInt8.toInt32) = (F1_0 q0 ((vO p1) + (1 : Int32))) := by
  have a := own_p1 p1 p2 p3 h
  rw [own_at q0 _ ⟨a.1, a.2.1⟩]
theorem own_p2 (p1 p2 p3 : Int32) (h : ¬ (vN p1 p2 p3) < (3 : Int32)) : 0 ≤ (((vO p1) + (1 : Int32)) + (1 : Int32)).toInt ∧ (((vO p1) + (1 : Int32)) + (1 : Int32)).toInt < 8 ∧ (((vO p1) + (1 : Int32)) + (1 : Int32)).toInt < (vO p1).toInt + (vLen p1 p2).toInt := by
  have a := own_rO p1
  have b := own_P2 p1
  have c := own_rN p1 p2 p3
  have d := own_rLen p1 p2
  have e3 : (3 : Int32).toInt = 3 := rfl
  rw [Int32.lt_iff_toInt_lt] at h; omega
theorem own_in2 (q0 : Int64) (p1 p2 p3 : Int32) (h : ¬ (vN p1 p2 p3) < (3 : Int32)) : ¬ (((vO p1) + (1 : Int32)) + (1 : Int32)) < 0 ∧ (((vO p1) + (1 : Int32)) + (1 : Int32)).toNatClampNeg < (bys q0).length := by
  have a := own_p2 p1 p2 p3 h
  have e0 : (0 : Int32).toInt = 0 := rfl
  refine ⟨by rw [Int32.lt_iff_toInt_lt]; omega, ?_⟩
  show (((vO p1) + (1 : Int32)) + (1 : Int32)).toInt.toNat < 8
  omega
theorem own_end2 (p1 p2 : Int32) : ((vO p1) + (vLen p1 p2)).toInt = (vO p1).toInt + (vLen p1 p2).toInt := by
  have a := own_rO p1
  have d := own_rLen p1 p2
  have c := c_iadd (vO p1) (vLen p1 p2)
  have r := rng32 (vO p1 + vLen p1 p2)
  omega
theorem own_ne2 (p1 p2 p3 : Int32) (h : ¬ (vN p1 p2 p3) < (3 : Int32)) : ¬ (((vO p1) + (1 : Int32)) + (1 : Int32)) = ((vO p1) + (vLen p1 p2)) := by
  have a := own_p2 p1 p2 p3 h
  have b := own_end2 p1 p2
  rw [← Int32.toInt_inj]; omega
theorem own_cmp2 (q0 : Int64) (p1 p2 p3 : Int32) (h : ¬ (vN p1 p2 p3) < (3 : Int32)) : (((bys q0).getD (((vO p1) + (1 : Int32)) + (1 : Int32)).toNatClampNeg 0).toInt8.toInt32) = (F1_0 q0 ((vO p1) + (2 : Int32))) := by
  have a := own_p2 p1 p2 p3 h
  rw [own_at q0 _ ⟨a.1, a.2.1⟩]; rw [own_I2]
theorem own_p3 (p1 p2 p3 : Int32) (h : ¬ (vN p1 p2 p3) < (4 : Int32)) : 0 ≤ ((((vO p1) + (1 : Int32)) + (1 : Int32)) + (1 : Int32)).toInt ∧ ((((vO p1) + (1 : Int32)) + (1 : Int32)) + (1 : Int32)).toInt < 8 ∧ ((((vO p1) + (1 : Int32)) + (1 : Int32)) + (1 : Int32)).toInt < (vO p1).toInt + (vLen p1 p2).toInt := by
  have a := own_rO p1
  have b := own_P3 p1
  have c := own_rN p1 p2 p3
  have d := own_rLen p1 p2
  have e4 : (4 : Int32).toInt = 4 := rfl
  rw [Int32.lt_iff_toInt_lt] at h; omega
theorem own_in3 (q0 : Int64) (p1 p2 p3 : Int32) (h : ¬ (vN p1 p2 p3) < (4 : Int32)) : ¬ ((((vO p1) + (1 : Int32)) + (1 : Int32)) + (1 : Int32)) < 0 ∧ ((((vO p1) + (1 : Int32)) + (1 : Int32)) + (1 : Int32)).toNatClampNeg < (bys q0).length := by
  have a := own_p3 p1 p2 p3 h
  have e0 : (0 : Int32).toInt = 0 := rfl
  refine ⟨by rw [Int32.lt_iff_toInt_lt]; omega, ?_⟩
  show ((((vO p1) + (1 : Int32)) + (1 : Int32)) + (1 : Int32)).toInt.toNat < 8
  omega
theorem own_end3 (p1 p2 : Int32) : ((vO p1) + (vLen p1 p2)).toInt = (vO p1).toInt + (vLen p1 p2).toInt := by
  have a := own_rO p1
  have d := own_rLen p1 p2
  have c := c_iadd (vO p1) (vLen p1 p2)
  have r := rng32 (vO p1 + vLen p1 p2)
  omega
theorem own_ne3 (p1 p2 p3 : Int32) (h : ¬ (vN p1 p2 p3) < (4 : Int32)) : ¬ ((((vO p1) + (1 : Int32)) + (1 : Int32)) + (1 : Int32)) = ((vO p1) + (vLen p1 p2)) := by
  have a := own_p3 p1 p2 p3 h
  have b := own_end3 p1 p2
  rw [← Int32.toInt_inj]; omega
theorem own_cmp3 (q0 : Int64) (p1 p2 p3 : Int32) (h : ¬ (vN p1 p2 p3) < (4 : Int32)) : (((bys q0).getD ((((vO p1) + (1 : Int32)) + (1 : Int32)) + (1 : Int32)).toNatClampNeg 0).toInt8.toInt32) = (F1_0 q0 ((vO p1) + (3 : Int32))) := by
  have a := own_p3 p1 p2 p3 h
  rw [own_at q0 _ ⟨a.1, a.2.1⟩]; rw [own_I3]
theorem own_rest (p1 p2 : Int32) (P v : Int32) (n : Int) (hP : P.toInt = (vO p1).toInt + n) (hv : v.toInt = n) (h0 : 0 ≤ n) (h1 : n ≤ (vLen p1 p2).toInt) : ((F11_0 (8 : Int64) ((((vO p1) + (vLen p1 p2)) - P).toInt64)).toInt32).toInt64 = ((vLen p1 p2) - v).toInt64 := by
  have a := own_rO p1
  have d := own_rLen p1 p2
  have e := own_end0 p1 p2
  have c := c_isub (vO p1 + vLen p1 p2) P
  have r := rng32 (vO p1 + vLen p1 p2 - P)
  have c2 := c_isub (vLen p1 p2) v
  have r2 := rng32 (vLen p1 p2 - v)
  have q : (vO p1 + vLen p1 p2 - P) = (vLen p1 p2 - v) := by rw [← Int32.toInt_inj]; omega
  rw [q]
  have e8 : (8 : Int64).toInt = 8 := rfl
  have f : F11_0 (8 : Int64) ((vLen p1 p2 - v).toInt64) = (vLen p1 p2 - v).toInt64 := by
    by_cases h : ((vLen p1 p2 - v).toInt64) < (8 : Int64)
    · exact if_pos h
    · rw [show F11_0 (8 : Int64) ((vLen p1 p2 - v).toInt64) = (8 : Int64) from if_neg h]
      rw [Int64.lt_iff_toInt_lt, c_i2l] at h
      rw [← Int64.toInt_inj, c_i2l]; omega
  rw [f, Int32.toInt32_toInt64]
theorem own_rest0 (p1 p2 p3 : Int32) (h : (vN p1 p2 p3) < (1 : Int32)) : (((F11_0 (8 : Int64) ((((vO p1) + (vLen p1 p2)) - (vO p1)).toInt64)).toInt32).toInt64) = (((vLen p1 p2) - (vN p1 p2 p3)).toInt64) := by
  have c := own_rN p1 p2 p3
  have e1 : (1 : Int32).toInt = 1 := rfl
  rw [Int32.lt_iff_toInt_lt] at h
  exact own_rest p1 p2 _ _ 0 ((by omega)) (by omega) (by decide) (by omega)
theorem own_rest1 (p1 p2 p3 : Int32) (g : ¬ (vN p1 p2 p3) < (1 : Int32)) (h : (vN p1 p2 p3) < (2 : Int32)) : (((F11_0 (8 : Int64) ((((vO p1) + (vLen p1 p2)) - ((vO p1) + (1 : Int32))).toInt64)).toInt32).toInt64) = (((vLen p1 p2) - (vN p1 p2 p3)).toInt64) := by
  have c := own_rN p1 p2 p3
  have e1 : (1 : Int32).toInt = 1 := rfl
  have e2 : (2 : Int32).toInt = 2 := rfl
  rw [Int32.lt_iff_toInt_lt] at h
  rw [Int32.lt_iff_toInt_lt] at g
  exact own_rest p1 p2 _ _ 1 (own_P1 p1) (by omega) (by decide) (by omega)
theorem own_rest2 (p1 p2 p3 : Int32) (g : ¬ (vN p1 p2 p3) < (2 : Int32)) (h : (vN p1 p2 p3) < (3 : Int32)) : (((F11_0 (8 : Int64) ((((vO p1) + (vLen p1 p2)) - (((vO p1) + (1 : Int32)) + (1 : Int32))).toInt64)).toInt32).toInt64) = (((vLen p1 p2) - (vN p1 p2 p3)).toInt64) := by
  have c := own_rN p1 p2 p3
  have e2 : (2 : Int32).toInt = 2 := rfl
  have e3 : (3 : Int32).toInt = 3 := rfl
  rw [Int32.lt_iff_toInt_lt] at h
  rw [Int32.lt_iff_toInt_lt] at g
  exact own_rest p1 p2 _ _ 2 (own_P2 p1) (by omega) (by decide) (by omega)
theorem own_rest3 (p1 p2 p3 : Int32) (g : ¬ (vN p1 p2 p3) < (3 : Int32)) (h : (vN p1 p2 p3) < (4 : Int32)) : (((F11_0 (8 : Int64) ((((vO p1) + (vLen p1 p2)) - ((((vO p1) + (1 : Int32)) + (1 : Int32)) + (1 : Int32))).toInt64)).toInt32).toInt64) = (((vLen p1 p2) - (vN p1 p2 p3)).toInt64) := by
  have c := own_rN p1 p2 p3
  have e3 : (3 : Int32).toInt = 3 := rfl
  have e4 : (4 : Int32).toInt = 4 := rfl
  rw [Int32.lt_iff_toInt_lt] at h
  rw [Int32.lt_iff_toInt_lt] at g
  exact own_rest p1 p2 _ _ 3 (own_P3 p1) (by omega) (by decide) (by omega)
theorem own_rest4 (p1 p2 p3 : Int32) (g : ¬ (vN p1 p2 p3) < (4 : Int32)) : (((F11_0 (8 : Int64) ((((vO p1) + (vLen p1 p2)) - (((((vO p1) + (1 : Int32)) + (1 : Int32)) + (1 : Int32)) + (1 : Int32))).toInt64)).toInt32).toInt64) = (((vLen p1 p2) - (vN p1 p2 p3)).toInt64) := by
  have c := own_rN p1 p2 p3
  have e4 : (4 : Int32).toInt = 4 := rfl
  have e5 : (5 : Int32).toInt = 5 := rfl
  rw [Int32.lt_iff_toInt_lt] at g
  exact own_rest p1 p2 _ _ 4 (own_P4 p1) (by omega) (by decide) (by omega)

theorem pn_0 : plainName "com/example/packwise/packwise/ByteArraySourceReadBytePinLaw" = true := by first | (simp [plainName, overriddenIn]; done) | decide +kernel
theorem ef_0 (m : MethodId) (q0 : Int64) (p1 : Int32) (p2 : Int32) (p3 : Int32) : entryFrame m #[(.long q0), (.int p1), (.int p2), (.int p3)] maxLocals = mkF m 0 #[.val (.long q0), .second, .val (.int p1), .val (.int p2), .val (.int p3), .unset, .unset, .unset, .unset, .unset, .unset, .unset, .unset] [] := by first | (simp [entryFrame, mkF, argsToLocals, Value.category, maxLocals]; done) | rfl
def Q_rm0_0 (Z : State) (q0 : Int64) (p1 : Int32) (p2 : Int32) (p3 : Int32) (h0 : Heap) (n0 : Nat) (v : Option Value) (h : Heap) (L : List Loc) : Prop := (v = some (.int (1 : Int32)) ∧ Fr n0 L)
set_option maxRecDepth 65536 in
set_option maxHeartbeats 40000000 in
theorem rm0_0 (l : Launch) (Z : State) (a0 : Array Value) (hw : ∀ d ∈ tables_1, d.before a0 Z = true) (ws : List Jvm.Cond) (q0 : Int64) (p1 : Int32) (p2 : Int32) (p3 : Int32) (h0 : Heap) (n0 : Nat) (Z0 : n0 ≤ h0.size) (hc138 : (vN p1 p2 p3) < (1 : Int32)) (hc170 : (vN p1 p2 p3) < (2 : Int32)) (hc204 : (vN p1 p2 p3) < (3 : Int32)) (hc238 : (vN p1 p2 p3) < (4 : Int32)) :
    MetFree l x (head1 (Jvm.Cond.code x code maxLocals ret :: ws) room_1) (fun a U => a = #[(.long q0), (.int p1), (.int p2), (.int p3)] ∧ Z.Warmed39 U.vm ∧ U.heap = h0) (fun _ _ _ _ _ => True) (fun _ U o U' => ∃ v L, o = .returned v ∧ Q_rm0_0 Z q0 p1 p2 p3 h0 n0 v U'.heap L ∧ ReturnedEndW U o U' L room_1.cells room_1.slots) := by
  refine MetFree.of_bodySF (plainFor_of_name pn_0) hisR ?_
  intro p e s m args below meth c s₁ Bd hml0 hP hK
  obtain ⟨rfl, hZ, hh⟩ := hP
  have hx := Bd.exec
  have hby := Bd.bytes
  have hml : c.maxLocals = 13 := hml0
  have hown : s.vm.findClass "com/example/packwise/packwise/ByteArraySourceReadBytePinLaw" = some m.cls := findClass_of_methodNamed Bd.named
  have hnm := (name_of_methodNamed Bd.named Bd.method).1
  have X0 : Stand p l e room_1 s m #[(.long q0), (.int p1), (.int p2), (.int p3)] below meth c s₁ [] 0 0 := Stand.of_body Bd
  have e0 : s₁.heap = h0 := by rw [← hh, Bd.state]; rfl
  have N0 := Fr.nil n0
  have pre0 : ∀ t, Steps p.tables e below (s₁.setTop (mkF m 0 #[.val (.long q0), .second, .val (.int p1), .val (.int p2), .val (.int p3), .unset, .unset, .unset, .unset, .unset, .unset, .unset, .unset] [])) t → Steps p.tables e below (s₁.setTop (entryFrame m #[(.long q0), (.int p1), (.int p2), (.int p3)] maxLocals)) t := fun t k => castTop (ef_0 m q0 p1 p2 p3) k
  obtain ⟨T1, h1, k1, X1, e1, E1, A1, Ex1, st1⟩ := newPE X0 hx hZ (hw _ (List.mem_of_getElem? (i := 0) rfl)) e0 (g := (mkF m 2 #[.val (.long q0), .second, .val (.int p1), .val (.int p2), .val (.int p3), .unset, .unset, .unset, .unset, .unset, .unset, .unset, .unset] [(.int (8 : Int32))])) rfl (hb hby at_2) rfl (by decide) (cap := 8) (by decide) (by decide) (by decide) (by decide) (ad := "[B") (by decide)
  obtain ⟨b1, g1⟩ : ∃ z, z = Array.size h0 := ⟨_, rfl⟩
  rw [← g1] at A1 st1 Ex1
  have G1 : n0 ≤ b1 := Nat.le_trans Z0 (Nat.le_of_eq g1.symm)
  have Z1 : n0 ≤ Array.size h1 := Nat.le_trans Z0 E1.1
  have V1_b1 : ArrL .byte Z h1 b1 [(0 : Int32), (0 : Int32), (0 : Int32), (0 : Int32), (0 : Int32), (0 : Int32), (0 : Int32), (0 : Int32)] := ArrL.new (n := 8) (Arv.new A1 (by decide)) (by decide)
  obtain ⟨_, _, ⟨T2, L2, k2, n2⟩, -, X2, ⟨Lc2, hQ2, l2, y2, z2⟩, st2⟩ := Jvm.LawKit.callS X1 hx (y := (⟨"com/example/packwise/packwise/ByteArraySourceReadBytePinLaw", "at", "(JI)B"⟩ : MethodName)) hown (mvT hZ (hw _ (List.mem_of_getElem? (i := 1) rfl))) (mvT hZ (hw _ (List.mem_of_getElem? (i := 2) rfl))) (mvT hZ (hw _ (List.mem_of_getElem? (i := 3) rfl))) (mvT hZ (hw _ (List.mem_of_getElem? (i := 4) rfl))) (by decide) (backOf (W := 2) (rm1 l Z a0 hw [] q0 (0 : Int32) h1 n0 Z1) hZ (hw _ (List.mem_of_getElem? (i := 4) rfl)) (hw _ (List.mem_of_getElem? (i := 3) rfl)) (by decide) (by decide)) (g := (mkF m 11 #[.val (.long q0), .second, .val (.int p1), .val (.int p2), .val (.int p3), .val (.ref b1), .unset, .unset, .unset, .unset, .unset, .unset, .unset] [(.int (0 : Int32)), (.long q0), (.int (0 : Int32)), (.ref b1)])) rfl (by rw [hml]; rfl) (argsL := [(.long q0), (.int (0 : Int32))]) (rest := [(.int (0 : Int32)), (.ref b1)]) (lenOf pd6 rfl) rfl (by show 2 * 0 + _ ≤ _; exact Nat.le_of_eq rfl) (hb hby at_11) (fun _ _ => ⟨rfl, e1, (by decide : 1 + 0 ≤ _), (by decide : 8 + 0 ≤ _)⟩)
  dsimp only [Pt.U, Pt.locs, Pt.cells, Pt.slots] at X2 l2 y2 z2 st2 hQ2
  subst y2 z2
  obtain ⟨rfl, N2q, e2⟩ := hQ2
  have N2 : Fr n0 L2 := by rw [l2]; exact Fr.app N0 N2q
  obtain ⟨T3, h3, X3, e3, W3, U3, st3⟩ := own_al_stB X2 hx hZ e2 V1_b1 (g := (mkF m 14 #[.val (.long q0), .second, .val (.int p1), .val (.int p2), .val (.int p3), .val (.ref b1), .unset, .unset, .unset, .unset, .unset, .unset, .unset] [(.int (F1_0 q0 (0 : Int32))), (.int (0 : Int32)), (.ref b1)])) (by decide) (Nat.le_of_ble_eq_true rfl) rfl rfl (hb hby at_14)
  have N3 := Fr.snoc X3 N2 G1
  have f3_E_b1 : Exa Z h3 b1 "[B" := Ex1.wr W3
  have Z3 : n0 ≤ Array.size h3 := Nat.le_trans Z1 (Keep.of_wr W3).1
  have V3_b1 : ArrL .byte Z h3 b1 [(nar .byte (F1_0 q0 (0 : Int32))), (0 : Int32), (0 : Int32), (0 : Int32), (0 : Int32), (0 : Int32), (0 : Int32), (0 : Int32)] := U3
  obtain ⟨_, _, ⟨T4, L4, k4, n4⟩, -, X4, ⟨Lc4, hQ4, l4, y4, z4⟩, st4⟩ := Jvm.LawKit.callS X3 hx (y := (⟨"com/example/packwise/packwise/ByteArraySourceReadBytePinLaw", "at", "(JI)B"⟩ : MethodName)) hown (mvT hZ (hw _ (List.mem_of_getElem? (i := 1) rfl))) (mvT hZ (hw _ (List.mem_of_getElem? (i := 2) rfl))) (mvT hZ (hw _ (List.mem_of_getElem? (i := 3) rfl))) (mvT hZ (hw _ (List.mem_of_getElem? (i := 4) rfl))) (by decide) (backOf (W := 2) (rm1 l Z a0 hw [] q0 (1 : Int32) h3 n0 Z3) hZ (hw _ (List.mem_of_getElem? (i := 4) rfl)) (hw _ (List.mem_of_getElem? (i := 3) rfl)) (by decide) (by decide)) (g := (mkF m 20 #[.val (.long q0), .second, .val (.int p1), .val (.int p2), .val (.int p3), .val (.ref b1), .unset, .unset, .unset, .unset, .unset, .unset, .unset] [(.int (1 : Int32)), (.long q0), (.int (1 : Int32)), (.ref b1)])) rfl (by rw [hml]; rfl) (argsL := [(.long q0), (.int (1 : Int32))]) (rest := [(.int (1 : Int32)), (.ref b1)]) (lenOf pd6 rfl) rfl (by show 2 * 0 + _ ≤ _; exact Nat.le_of_eq rfl) (hb hby at_20) (fun _ _ => ⟨rfl, e3, (by decide : 1 + 0 ≤ _), (by decide : 8 + 0 ≤ _)⟩)
  dsimp only [Pt.U, Pt.locs, Pt.cells, Pt.slots] at X4 l4 y4 z4 st4 hQ4
  subst y4 z4
  obtain ⟨rfl, N4q, e4⟩ := hQ4
  have N4 : Fr n0 L4 := by rw [l4]; exact Fr.app N3 N4q
  obtain ⟨T5, h5, X5, e5, W5, U5, st5⟩ := own_al_stB X4 hx hZ e4 V3_b1 (g := (mkF m 23 #[.val (.long q0), .second, .val (.int p1), .val (.int p2), .val (.int p3), .val (.ref b1), .unset, .unset, .unset, .unset, .unset, .unset, .unset] [(.int (F1_0 q0 (1 : Int32))), (.int (1 : Int32)), (.ref b1)])) (by decide) (Nat.le_of_ble_eq_true rfl) rfl rfl (hb hby at_23)
  have N5 := Fr.snoc X5 N4 G1
  have f5_E_b1 : Exa Z h5 b1 "[B" := f3_E_b1.wr W5
  have Z5 : n0 ≤ Array.size h5 := Nat.le_trans Z3 (Keep.of_wr W5).1
  have V5_b1 : ArrL .byte Z h5 b1 [(nar .byte (F1_0 q0 (0 : Int32))), (nar .byte (F1_0 q0 (1 : Int32))), (0 : Int32), (0 : Int32), (0 : Int32), (0 : Int32), (0 : Int32), (0 : Int32)] := U5
  obtain ⟨_, _, ⟨T6, L6, k6, n6⟩, -, X6, ⟨Lc6, hQ6, l6, y6, z6⟩, st6⟩ := Jvm.LawKit.callS X5 hx (y := (⟨"com/example/packwise/packwise/ByteArraySourceReadBytePinLaw", "at", "(JI)B"⟩ : MethodName)) hown (mvT hZ (hw _ (List.mem_of_getElem? (i := 1) rfl))) (mvT hZ (hw _ (List.mem_of_getElem? (i := 2) rfl))) (mvT hZ (hw _ (List.mem_of_getElem? (i := 3) rfl))) (mvT hZ (hw _ (List.mem_of_getElem? (i := 4) rfl))) (by decide) (backOf (W := 2) (rm1 l Z a0 hw [] q0 (2 : Int32) h5 n0 Z5) hZ (hw _ (List.mem_of_getElem? (i := 4) rfl)) (hw _ (List.mem_of_getElem? (i := 3) rfl)) (by decide) (by decide)) (g := (mkF m 29 #[.val (.long q0), .second, .val (.int p1), .val (.int p2), .val (.int p3), .val (.ref b1), .unset, .unset, .unset, .unset, .unset, .unset, .unset] [(.int (2 : Int32)), (.long q0), (.int (2 : Int32)), (.ref b1)])) rfl (by rw [hml]; rfl) (argsL := [(.long q0), (.int (2 : Int32))]) (rest := [(.int (2 : Int32)), (.ref b1)]) (lenOf pd6 rfl) rfl (by show 2 * 0 + _ ≤ _; exact Nat.le_of_eq rfl) (hb hby at_29) (fun _ _ => ⟨rfl, e5, (by decide : 1 + 0 ≤ _), (by decide : 8 + 0 ≤ _)⟩)
  dsimp only [Pt.U, Pt.locs, Pt.cells, Pt.slots] at X6 l6 y6 z6 st6 hQ6
  subst y6 z6
  obtain ⟨rfl, N6q, e6⟩ := hQ6
  have N6 : Fr n0 L6 := by rw [l6]; exact Fr.app N5 N6q
  obtain ⟨T7, h7, X7, e7, W7, U7, st7⟩ := own_al_stB X6 hx hZ e6 V5_b1 (g := (mkF m 32 #[.val (.long q0), .second, .val (.int p1), .val (.int p2), .val (.int p3), .val (.ref b1), .unset, .unset, .unset, .unset, .unset, .unset, .unset] [(.int (F1_0 q0 (2 : Int32))), (.int (2 : Int32)), (.ref b1)])) (by decide) (Nat.le_of_ble_eq_true rfl) rfl rfl (hb hby at_32)
  have N7 := Fr.snoc X7 N6 G1
  have f7_E_b1 : Exa Z h7 b1 "[B" := f5_E_b1.wr W7
  have Z7 : n0 ≤ Array.size h7 := Nat.le_trans Z5 (Keep.of_wr W7).1
  have V7_b1 : ArrL .byte Z h7 b1 [(nar .byte (F1_0 q0 (0 : Int32))), (nar .byte (F1_0 q0 (1 : Int32))), (nar .byte (F1_0 q0 (2 : Int32))), (0 : Int32), (0 : Int32), (0 : Int32), (0 : Int32), (0 : Int32)] := U7
  obtain ⟨_, _, ⟨T8, L8, k8, n8⟩, -, X8, ⟨Lc8, hQ8, l8, y8, z8⟩, st8⟩ := Jvm.LawKit.callS X7 hx (y := (⟨"com/example/packwise/packwise/ByteArraySourceReadBytePinLaw", "at", "(JI)B"⟩ : MethodName)) hown (mvT hZ (hw _ (List.mem_of_getElem? (i := 1) rfl))) (mvT hZ (hw _ (List.mem_of_getElem? (i := 2) rfl))) (mvT hZ (hw _ (List.mem_of_getElem? (i := 3) rfl))) (mvT hZ (hw _ (List.mem_of_getElem? (i := 4) rfl))) (by decide) (backOf (W := 2) (rm1 l Z a0 hw [] q0 (3 : Int32) h7 n0 Z7) hZ (hw _ (List.mem_of_getElem? (i := 4) rfl)) (hw _ (List.mem_of_getElem? (i := 3) rfl)) (by decide) (by decide)) (g := (mkF m 38 #[.val (.long q0), .second, .val (.int p1), .val (.int p2), .val (.int p3), .val (.ref b1), .unset, .unset, .unset, .unset, .unset, .unset, .unset] [(.int (3 : Int32)), (.long q0), (.int (3 : Int32)), (.ref b1)])) rfl (by rw [hml]; rfl) (argsL := [(.long q0), (.int (3 : Int32))]) (rest := [(.int (3 : Int32)), (.ref b1)]) (lenOf pd6 rfl) rfl (by show 2 * 0 + _ ≤ _; exact Nat.le_of_eq rfl) (hb hby at_38) (fun _ _ => ⟨rfl, e7, (by decide : 1 + 0 ≤ _), (by decide : 8 + 0 ≤ _)⟩)
  dsimp only [Pt.U, Pt.locs, Pt.cells, Pt.slots] at X8 l8 y8 z8 st8 hQ8
  subst y8 z8
  obtain ⟨rfl, N8q, e8⟩ := hQ8
  have N8 : Fr n0 L8 := by rw [l8]; exact Fr.app N7 N8q
  obtain ⟨T9, h9, X9, e9, W9, U9, st9⟩ := own_al_stB X8 hx hZ e8 V7_b1 (g := (mkF m 41 #[.val (.long q0), .second, .val (.int p1), .val (.int p2), .val (.int p3), .val (.ref b1), .unset, .unset, .unset, .unset, .unset, .unset, .unset] [(.int (F1_0 q0 (3 : Int32))), (.int (3 : Int32)), (.ref b1)])) (by decide) (Nat.le_of_ble_eq_true rfl) rfl rfl (hb hby at_41)
  have N9 := Fr.snoc X9 N8 G1
  have f9_E_b1 : Exa Z h9 b1 "[B" := f7_E_b1.wr W9
  have Z9 : n0 ≤ Array.size h9 := Nat.le_trans Z7 (Keep.of_wr W9).1
  have V9_b1 : ArrL .byte Z h9 b1 [(nar .byte (F1_0 q0 (0 : Int32))), (nar .byte (F1_0 q0 (1 : Int32))), (nar .byte (F1_0 q0 (2 : Int32))), (nar .byte (F1_0 q0 (3 : Int32))), (0 : Int32), (0 : Int32), (0 : Int32), (0 : Int32)] := U9
  obtain ⟨_, _, ⟨T10, L10, k10, n10⟩, -, X10, ⟨Lc10, hQ10, l10, y10, z10⟩, st10⟩ := Jvm.LawKit.callS X9 hx (y := (⟨"com/example/packwise/packwise/ByteArraySourceReadBytePinLaw", "at", "(JI)B"⟩ : MethodName)) hown (mvT hZ (hw _ (List.mem_of_getElem? (i := 1) rfl))) (mvT hZ (hw _ (List.mem_of_getElem? (i := 2) rfl))) (mvT hZ (hw _ (List.mem_of_getElem? (i := 3) rfl))) (mvT hZ (hw _ (List.mem_of_getElem? (i := 4) rfl))) (by decide) (backOf (W := 2) (rm1 l Z a0 hw [] q0 (4 : Int32) h9 n0 Z9) hZ (hw _ (List.mem_of_getElem? (i := 4) rfl)) (hw _ (List.mem_of_getElem? (i := 3) rfl)) (by decide) (by decide)) (g := (mkF m 47 #[.val (.long q0), .second, .val (.int p1), .val (.int p2), .val (.int p3), .val (.ref b1), .unset, .unset, .unset, .unset, .unset, .unset, .unset] [(.int (4 : Int32)), (.long q0), (.int (4 : Int32)), (.ref b1)])) rfl (by rw [hml]; rfl) (argsL := [(.long q0), (.int (4 : Int32))]) (rest := [(.int (4 : Int32)), (.ref b1)]) (lenOf pd6 rfl) rfl (by show 2 * 0 + _ ≤ _; exact Nat.le_of_eq rfl) (hb hby at_47) (fun _ _ => ⟨rfl, e9, (by decide : 1 + 0 ≤ _), (by decide : 8 + 0 ≤ _)⟩)
  dsimp only [Pt.U, Pt.locs, Pt.cells, Pt.slots] at X10 l10 y10 z10 st10 hQ10
  subst y10 z10
  obtain ⟨rfl, N10q, e10⟩ := hQ10
  have N10 : Fr n0 L10 := by rw [l10]; exact Fr.app N9 N10q
  obtain ⟨T11, h11, X11, e11, W11, U11, st11⟩ := own_al_stB X10 hx hZ e10 V9_b1 (g := (mkF m 50 #[.val (.long q0), .second, .val (.int p1), .val (.int p2), .val (.int p3), .val (.ref b1), .unset, .unset, .unset, .unset, .unset, .unset, .unset] [(.int (F1_0 q0 (4 : Int32))), (.int (4 : Int32)), (.ref b1)])) (by decide) (Nat.le_of_ble_eq_true rfl) rfl rfl (hb hby at_50)
  have N11 := Fr.snoc X11 N10 G1
  have f11_E_b1 : Exa Z h11 b1 "[B" := f9_E_b1.wr W11
  have Z11 : n0 ≤ Array.size h11 := Nat.le_trans Z9 (Keep.of_wr W11).1
  have V11_b1 : ArrL .byte Z h11 b1 [(nar .byte (F1_0 q0 (0 : Int32))), (nar .byte (F1_0 q0 (1 : Int32))), (nar .byte (F1_0 q0 (2 : Int32))), (nar .byte (F1_0 q0 (3 : Int32))), (nar .byte (F1_0 q0 (4 : Int32))), (0 : Int32), (0 : Int32), (0 : Int32)] := U11
  obtain ⟨_, _, ⟨T12, L12, k12, n12⟩, -, X12, ⟨Lc12, hQ12, l12, y12, z12⟩, st12⟩ := Jvm.LawKit.callS X11 hx (y := (⟨"com/example/packwise/packwise/ByteArraySourceReadBytePinLaw", "at", "(JI)B"⟩ : MethodName)) hown (mvT hZ (hw _ (List.mem_of_getElem? (i := 1) rfl))) (mvT hZ (hw _ (List.mem_of_getElem? (i := 2) rfl))) (mvT hZ (hw _ (List.mem_of_getElem? (i := 3) rfl))) (mvT hZ (hw _ (List.mem_of_getElem? (i := 4) rfl))) (by decide) (backOf (W := 2) (rm1 l Z a0 hw [] q0 (5 : Int32) h11 n0 Z11) hZ (hw _ (List.mem_of_getElem? (i := 4) rfl)) (hw _ (List.mem_of_getElem? (i := 3) rfl)) (by decide) (by decide)) (g := (mkF m 56 #[.val (.long q0), .second, .val (.int p1), .val (.int p2), .val (.int p3), .val (.ref b1), .unset, .unset, .unset, .unset, .unset, .unset, .unset] [(.int (5 : Int32)), (.long q0), (.int (5 : Int32)), (.ref b1)])) rfl (by rw [hml]; rfl) (argsL := [(.long q0), (.int (5 : Int32))]) (rest := [(.int (5 : Int32)), (.ref b1)]) (lenOf pd6 rfl) rfl (by show 2 * 0 + _ ≤ _; exact Nat.le_of_eq rfl) (hb hby at_56) (fun _ _ => ⟨rfl, e11, (by decide : 1 + 0 ≤ _), (by decide : 8 + 0 ≤ _)⟩)
  dsimp only [Pt.U, Pt.locs, Pt.cells, Pt.slots] at X12 l12 y12 z12 st12 hQ12
  subst y12 z12
  obtain ⟨rfl, N12q, e12⟩ := hQ12
  have N12 : Fr n0 L12 := by rw [l12]; exact Fr.app N11 N12q
  obtain ⟨T13, h13, X13, e13, W13, U13, st13⟩ := own_al_stB X12 hx hZ e12 V11_b1 (g := (mkF m 59 #[.val (.long q0), .second, .val (.int p1), .val (.int p2), .val (.int p3), .val (.ref b1), .unset, .unset, .unset, .unset, .unset, .unset, .unset] [(.int (F1_0 q0 (5 : Int32))), (.int (5 : Int32)), (.ref b1)])) (by decide) (Nat.le_of_ble_eq_true rfl) rfl rfl (hb hby at_59)
  have N13 := Fr.snoc X13 N12 G1
  have f13_E_b1 : Exa Z h13 b1 "[B" := f11_E_b1.wr W13
  have Z13 : n0 ≤ Array.size h13 := Nat.le_trans Z11 (Keep.of_wr W13).1
  have V13_b1 : ArrL .byte Z h13 b1 [(nar .byte (F1_0 q0 (0 : Int32))), (nar .byte (F1_0 q0 (1 : Int32))), (nar .byte (F1_0 q0 (2 : Int32))), (nar .byte (F1_0 q0 (3 : Int32))), (nar .byte (F1_0 q0 (4 : Int32))), (nar .byte (F1_0 q0 (5 : Int32))), (0 : Int32), (0 : Int32)] := U13
  obtain ⟨_, _, ⟨T14, L14, k14, n14⟩, -, X14, ⟨Lc14, hQ14, l14, y14, z14⟩, st14⟩ := Jvm.LawKit.callS X13 hx (y := (⟨"com/example/packwise/packwise/ByteArraySourceReadBytePinLaw", "at", "(JI)B"⟩ : MethodName)) hown (mvT hZ (hw _ (List.mem_of_getElem? (i := 1) rfl))) (mvT hZ (hw _ (List.mem_of_getElem? (i := 2) rfl))) (mvT hZ (hw _ (List.mem_of_getElem? (i := 3) rfl))) (mvT hZ (hw _ (List.mem_of_getElem? (i := 4) rfl))) (by decide) (backOf (W := 2) (rm1 l Z a0 hw [] q0 (6 : Int32) h13 n0 Z13) hZ (hw _ (List.mem_of_getElem? (i := 4) rfl)) (hw _ (List.mem_of_getElem? (i := 3) rfl)) (by decide) (by decide)) (g := (mkF m 67 #[.val (.long q0), .second, .val (.int p1), .val (.int p2), .val (.int p3), .val (.ref b1), .unset, .unset, .unset, .unset, .unset, .unset, .unset] [(.int (6 : Int32)), (.long q0), (.int (6 : Int32)), (.ref b1)])) rfl (by rw [hml]; rfl) (argsL := [(.long q0), (.int (6 : Int32))]) (rest := [(.int (6 : Int32)), (.ref b1)]) (lenOf pd6 rfl) rfl (by show 2 * 0 + _ ≤ _; exact Nat.le_of_eq rfl) (hb hby at_67) (fun _ _ => ⟨rfl, e13, (by decide : 1 + 0 ≤ _), (by decide : 8 + 0 ≤ _)⟩)
  dsimp only [Pt.U, Pt.locs, Pt.cells, Pt.slots] at X14 l14 y14 z14 st14 hQ14
  subst y14 z14
  obtain ⟨rfl, N14q, e14⟩ := hQ14
  have N14 : Fr n0 L14 := by rw [l14]; exact Fr.app N13 N14q
  obtain ⟨T15, h15, X15, e15, W15, U15, st15⟩ := own_al_stB X14 hx hZ e14 V13_b1 (g := (mkF m 70 #[.val (.long q0), .second, .val (.int p1), .val (.int p2), .val (.int p3), .val (.ref b1), .unset, .unset, .unset, .unset, .unset, .unset, .unset] [(.int (F1_0 q0 (6 : Int32))), (.int (6 : Int32)), (.ref b1)])) (by decide) (Nat.le_of_ble_eq_true rfl) rfl rfl (hb hby at_70)
  have N15 := Fr.snoc X15 N14 G1
  have f15_E_b1 : Exa Z h15 b1 "[B" := f13_E_b1.wr W15
  have Z15 : n0 ≤ Array.size h15 := Nat.le_trans Z13 (Keep.of_wr W15).1
  have V15_b1 : ArrL .byte Z h15 b1 [(nar .byte (F1_0 q0 (0 : Int32))), (nar .byte (F1_0 q0 (1 : Int32))), (nar .byte (F1_0 q0 (2 : Int32))), (nar .byte (F1_0 q0 (3 : Int32))), (nar .byte (F1_0 q0 (4 : Int32))), (nar .byte (F1_0 q0 (5 : Int32))), (nar .byte (F1_0 q0 (6 : Int32))), (0 : Int32)] := U15
  obtain ⟨_, _, ⟨T16, L16, k16, n16⟩, -, X16, ⟨Lc16, hQ16, l16, y16, z16⟩, st16⟩ := Jvm.LawKit.callS X15 hx (y := (⟨"com/example/packwise/packwise/ByteArraySourceReadBytePinLaw", "at", "(JI)B"⟩ : MethodName)) hown (mvT hZ (hw _ (List.mem_of_getElem? (i := 1) rfl))) (mvT hZ (hw _ (List.mem_of_getElem? (i := 2) rfl))) (mvT hZ (hw _ (List.mem_of_getElem? (i := 3) rfl))) (mvT hZ (hw _ (List.mem_of_getElem? (i := 4) rfl))) (by decide) (backOf (W := 2) (rm1 l Z a0 hw [] q0 (7 : Int32) h15 n0 Z15) hZ (hw _ (List.mem_of_getElem? (i := 4) rfl)) (hw _ (List.mem_of_getElem? (i := 3) rfl)) (by decide) (by decide)) (g := (mkF m 78 #[.val (.long q0), .second, .val (.int p1), .val (.int p2), .val (.int p3), .val (.ref b1), .unset, .unset, .unset, .unset, .unset, .unset, .unset] [(.int (7 : Int32)), (.long q0), (.int (7 : Int32)), (.ref b1)])) rfl (by rw [hml]; rfl) (argsL := [(.long q0), (.int (7 : Int32))]) (rest := [(.int (7 : Int32)), (.ref b1)]) (lenOf pd6 rfl) rfl (by show 2 * 0 + _ ≤ _; exact Nat.le_of_eq rfl) (hb hby at_78) (fun _ _ => ⟨rfl, e15, (by decide : 1 + 0 ≤ _), (by decide : 8 + 0 ≤ _)⟩)
  dsimp only [Pt.U, Pt.locs, Pt.cells, Pt.slots] at X16 l16 y16 z16 st16 hQ16
  subst y16 z16
  obtain ⟨rfl, N16q, e16⟩ := hQ16
  have N16 : Fr n0 L16 := by rw [l16]; exact Fr.app N15 N16q
  obtain ⟨T17, h17, X17, e17, W17, U17, st17⟩ := own_al_stB X16 hx hZ e16 V15_b1 (g := (mkF m 81 #[.val (.long q0), .second, .val (.int p1), .val (.int p2), .val (.int p3), .val (.ref b1), .unset, .unset, .unset, .unset, .unset, .unset, .unset] [(.int (F1_0 q0 (7 : Int32))), (.int (7 : Int32)), (.ref b1)])) (by decide) (Nat.le_of_ble_eq_true rfl) rfl rfl (hb hby at_81)
  have N17 := Fr.snoc X17 N16 G1
  have f17_E_b1 : Exa Z h17 b1 "[B" := f15_E_b1.wr W17
  have Z17 : n0 ≤ Array.size h17 := Nat.le_trans Z15 (Keep.of_wr W17).1
  have V17_b1 : ArrL .byte Z h17 b1 [(nar .byte (F1_0 q0 (0 : Int32))), (nar .byte (F1_0 q0 (1 : Int32))), (nar .byte (F1_0 q0 (2 : Int32))), (nar .byte (F1_0 q0 (3 : Int32))), (nar .byte (F1_0 q0 (4 : Int32))), (nar .byte (F1_0 q0 (5 : Int32))), (nar .byte (F1_0 q0 (6 : Int32))), (nar .byte (F1_0 q0 (7 : Int32)))] := U17
  have Vb : ArrL .byte Z h17 b1 (bys q0) := V17_b1
  obtain ⟨_, _, ⟨T18, L18, k18, n18⟩, -, X18, ⟨Lc18, hQ18, l18, y18, z18⟩, st18⟩ := Jvm.LawKit.callS X17 hx (y := (⟨"java/lang/Math", "min", "(II)I"⟩ : MethodName)) hown (mvT hZ (hw _ (List.mem_of_getElem? (i := 6) rfl))) (mvT hZ (hw _ (List.mem_of_getElem? (i := 7) rfl))) (mvT hZ (hw _ (List.mem_of_getElem? (i := 8) rfl))) (mvT hZ (hw _ (List.mem_of_getElem? (i := 9) rfl))) (by decide) (backOf (W := 0) (rm2 l Z a0 hw [] ((p3 &&& (7 : Int32)) - ((p3 &&& (7 : Int32)) / (5 : Int32)) * (5 : Int32)) (vLen p1 p2) h17 n0 Z17) hZ (hw _ (List.mem_of_getElem? (i := 9) rfl)) (hw _ (List.mem_of_getElem? (i := 8) rfl)) (by decide) (by decide)) (g := (mkF m 112 #[.val (.long q0), .second, .val (.int p1), .val (.int p2), .val (.int p3), .val (.ref b1), .val (.int (vO p1)), .val (.int (vLen p1 p2)), .unset, .unset, .unset, .unset, .unset] [(.int (vLen p1 p2)), (.int ((p3 &&& (7 : Int32)) - ((p3 &&& (7 : Int32)) / (5 : Int32)) * (5 : Int32)))])) rfl (by rw [hml]; rfl) (argsL := [(.int ((p3 &&& (7 : Int32)) - ((p3 &&& (7 : Int32)) / (5 : Int32)) * (5 : Int32))), (.int (vLen p1 p2))]) (rest := []) (lenOf pd7 rfl) rfl (by show 2 * 0 + _ ≤ _; exact Nat.le_of_eq rfl) (hb hby at_112) (fun _ _ => ⟨rfl, e17, (by decide : 1 + 0 ≤ _), (by decide : 8 + 0 ≤ _)⟩)
  dsimp only [Pt.U, Pt.locs, Pt.cells, Pt.slots] at X18 l18 y18 z18 st18 hQ18
  subst y18 z18
  obtain ⟨rfl, N18q, e18⟩ := hQ18
  have N18 : Fr n0 L18 := by rw [l18]; exact Fr.app N17 N18q
  obtain ⟨T19, h19, X19, e19, E19, A19, D19, -, st19⟩ := newO X18 hx hZ hown (hw _ (List.mem_of_getElem? (i := 10) rfl)) (hw _ (List.mem_of_getElem? (i := 11) rfl)) (hw _ (List.mem_of_getElem? (i := 12) rfl)) e18 (g := (mkF m 117 #[.val (.long q0), .second, .val (.int p1), .val (.int p2), .val (.int p3), .val (.ref b1), .val (.int (vO p1)), .val (.int (vLen p1 p2)), .val (.int (vN p1 p2 p3)), .unset, .unset, .unset, .unset] [])) rfl (hb hby at_117) (by decide) (by decide)
  obtain ⟨b19, g19⟩ : ∃ z, z = Array.size h17 := ⟨_, rfl⟩
  rw [← g19] at A19 D19 st19
  have G19 : n0 ≤ b19 := Nat.le_trans Z17 (Nat.le_of_eq g19.symm)
  have ne_b1_b19 : b1 ≠ b19 := Nat.ne_of_lt (Nat.lt_of_lt_of_le f17_E_b1.lt (Nat.le_of_eq g19.symm))
  have f19_E_b1 : Exa Z h19 b1 "[B" := f17_E_b1.ext E19
  have f19_V_b1 : ArrL .byte Z h19 b1 (bys q0) := Vb.ext E19
  have Z19 : n0 ≤ Array.size h19 := Nat.le_trans Z17 E19.1
  have F19_bytes : Fld Z h19 b19 "com/example/packwise/packwise/ByteArraySource" "bytes" "[B" .null := D19 (Or.inr (hw _ (List.mem_of_getElem? (i := 47) rfl))) (ty := (.array .byte)) (by decide)
  have F19_end : Fld Z h19 b19 "com/example/packwise/packwise/ByteArraySource" "end" "I" (.int (0 : Int32)) := D19 (Or.inr (hw _ (List.mem_of_getElem? (i := 49) rfl))) (ty := .int) (by decide)
  have F19_position : Fld Z h19 b19 "com/example/packwise/packwise/ByteArraySource" "position" "I" (.int (0 : Int32)) := D19 (Or.inl (hw _ (List.mem_of_getElem? (i := 51) rfl))) (ty := .int) (by decide)
  obtain ⟨_, _, ⟨T20, L20, k20, n20⟩, -, X20', S20', hge20, ⟨Lc20, hQ20, l20, y20, z20⟩, st20⟩ := X19.specialBackS hx (y := (⟨"com/example/packwise/packwise/ByteArraySource", "<init>", "([BII)V"⟩ : MethodName)) rfl hown (mvT hZ (hw _ (List.mem_of_getElem? (i := 13) rfl))) (mvT hZ (hw _ (List.mem_of_getElem? (i := 14) rfl))) (mvT hZ (hw _ (List.mem_of_getElem? (i := 15) rfl))) (by decide) (backOfS (W := 1) (rm3 l Z a0 hw [] b19 b1 (vO p1) (vLen p1 p2) (bys q0) h19 n0 Z19 A19 F19_bytes F19_end F19_position G19 f19_E_b1 f19_V_b1 (Ne.symm ne_b1_b19) rfl (own_q1 p1) (own_q2 p1 p2) (own_q3 p1 p2)) hZ (hw _ (List.mem_of_getElem? (i := 15) rfl)) (hw _ (List.mem_of_getElem? (i := 12) rfl)) (by decide) (by decide)) (g := (mkF m 127 #[.val (.long q0), .second, .val (.int p1), .val (.int p2), .val (.int p3), .val (.ref b1), .val (.int (vO p1)), .val (.int (vLen p1 p2)), .val (.int (vN p1 p2 p3)), .unset, .unset, .unset, .unset] [(.int (vLen p1 p2)), (.int (vO p1)), (.ref b1), (.ref b19), (.ref b19)])) rfl (by rw [hml]; rfl) (Steps.refl _) (a := b19) (argsL := [(.ref b1), (.int (vO p1)), (.int (vLen p1 p2))]) (rest := [(.ref b19)]) (lenOf pd3 rfl) rfl (by show 2 * 0 + _ ≤ _; exact Nat.le_of_eq rfl) (hb hby at_127) (fun _ _ => ⟨rfl, e19, (by decide : 2 + 4 ≤ _), (by decide : 11 + 48 ≤ _)⟩)
  dsimp only [Pt.U, Pt.locs, Pt.cells, Pt.slots] at X20' S20' hge20 l20 y20 z20 st20 hQ20
  subst y20 z20
  obtain ⟨X20, S20, hZ20, hown20⟩ := rebS (s := s) (vm0 := s.vm) ((State.WarmedH.refl s).since 0) (Nat.zero_le _) X20' S20' hge20 hZ hown
  obtain ⟨rfl, N20q, K20, Ec20, Fc20_bytes, Fc20_end, Fc20_position⟩ := hQ20
  have f20_E_b1 : Exa Z T20.heap b1 "[B" := f19_E_b1.keep K20
  have f20_V_b1 : ArrL .byte Z T20.heap b1 (bys q0) := f19_V_b1.keep K20 (ninS ne_b1_b19 nin0)
  have Z20 : n0 ≤ Array.size T20.heap := Nat.le_trans Z19 K20.1
  have N20 : Fr n0 L20 := by rw [l20]; exact Fr.app N18 N20q
  obtain ⟨cq21, kq21, q21a, q21b, q21c⟩ := isOf hZ20 rfl Ec20
  obtain ⟨_, _, ⟨T21, L21, k21, n21⟩, -, X21, ⟨Lc21, hQ21, l21, y21, z21⟩, st21⟩ := X20.virtualBack hx (y := (⟨"com/example/packwise/packwise/ByteArraySource", "skipBytes", "(J)J"⟩ : MethodName)) (z := (⟨"com/example/packwise/packwise/ByteArraySource", "skipBytes", "(J)J"⟩ : MethodName)) hown20 (mvT hZ20 (hw _ (List.mem_of_getElem? (i := 53) rfl))) (mvT hZ20 (hw _ (List.mem_of_getElem? (i := 54) rfl))) (notFace_of_selects (args := #[]) (mvT hZ20 (hw _ (List.mem_of_getElem? (i := 56) rfl)))) (mvT hZ20 (hw _ (List.mem_of_getElem? (i := 56) rfl))) (mvT hZ20 (hw _ (List.mem_of_getElem? (i := 55) rfl))) (by decide) (backOf (W := 0) (rm9 l Z a0 hw [] b19 (8 : Int64) ((vO p1) + (vLen p1 p2)) (vO p1) T20.heap n0 Z20 Ec20 Fc20_end Fc20_position G19 (by decide)) hZ20 (hw _ (List.mem_of_getElem? (i := 57) rfl)) (hw _ (List.mem_of_getElem? (i := 12) rfl)) (by decide) (by decide)) q21a q21c (g := (mkF m 274 #[.val (.long q0), .second, .val (.int p1), .val (.int p2), .val (.int p3), .val (.ref b1), .val (.int (vO p1)), .val (.int (vLen p1 p2)), .val (.int (vN p1 p2 p3)), .val (.ref b19), .val (.int (1 : Int32)), .unset, .unset] [(.long (8 : Int64)), (.ref b19)])) rfl (by rw [hml]; rfl) (Steps.refl _) (argsL := [(.long (8 : Int64))]) (rest := []) (lenOf pd8 rfl) rfl (by show 2 * 0 + _ ≤ _; exact Nat.le_of_eq rfl) (hb hby at_274) (fun _ _ => ⟨rfl, rfl, (by decide : 6 + 0 ≤ _), (by decide : 59 + 0 ≤ _)⟩)
  dsimp only [Pt.U, Pt.locs, Pt.cells, Pt.slots] at X21 l21 y21 z21 st21 hQ21
  subst y21 z21
  obtain ⟨rfl, N21q, K21, Em21, Fm21_end, Fm21_position⟩ := hQ21
  have f21_E_b1 : Exa Z T21.heap b1 "[B" := f20_E_b1.keep K21
  have f21_V_b1 : ArrL .byte Z T21.heap b1 (bys q0) := f20_V_b1.keep K21 (ninS ne_b1_b19 nin0)
  have Z21 : n0 ≤ Array.size T21.heap := Nat.le_trans Z20 K21.1
  have kp21 : T20.heap.size ≤ Array.size T21.heap := Nat.le_trans (Nat.le_refl _) K21.1
  have N21 : Fr n0 L21 := by rw [l21]; exact Fr.app N20 N21q
  obtain ⟨fs, hr, hrun, hended, hEnd⟩ := X21.leaveW (s := s) (vm₁ := T20.vm) S20 kp21 (v := some (.int (1 : Int32))) (fun h => by rw [Bd.returns] at h; cases h)
  refine ⟨_, _, pre0 _ ?_, hrun, hended, _, _, rfl, ⟨rfl, N21⟩, hEnd.1, hEnd.2.1, hEnd.2.2.1, hEnd.2.2.2.mono (by decide) (by decide)⟩
  show Steps p.tables e below (s₁.setTop (mkF m 0 #[.val (.long q0), .second, .val (.int p1), .val (.int p2), .val (.int p3), .unset, .unset, .unset, .unset, .unset, .unset, .unset, .unset] [])) _
  refine XS.bipush X0.here hx rfl (hb hby at_0) ?_
  show Steps p.tables e below (s₁.setTop (mkF m 2 #[.val (.long q0), .second, .val (.int p1), .val (.int p2), .val (.int p3), .unset, .unset, .unset, .unset, .unset, .unset, .unset, .unset] [(.int (8 : Int32))])) _
  refine st1 _ ?_
  show Steps p.tables e below (T1.setTop (mkF m 4 #[.val (.long q0), .second, .val (.int p1), .val (.int p2), .val (.int p3), .unset, .unset, .unset, .unset, .unset, .unset, .unset, .unset] [(.ref b1)])) _
  refine XS.astore X1.here hx rfl (hb hby at_4) rfl rfl (l' := #[.val (.long q0), .second, .val (.int p1), .val (.int p2), .val (.int p3), .val (.ref b1), .unset, .unset, .unset, .unset, .unset, .unset, .unset]) rfl ?_
  show Steps p.tables e below (T1.setTop (mkF m 6 #[.val (.long q0), .second, .val (.int p1), .val (.int p2), .val (.int p3), .val (.ref b1), .unset, .unset, .unset, .unset, .unset, .unset, .unset] [])) _
  refine XS.aload X1.here hx rfl (hb hby at_6) rfl rfl ?_
  show Steps p.tables e below (T1.setTop (mkF m 8 #[.val (.long q0), .second, .val (.int p1), .val (.int p2), .val (.int p3), .val (.ref b1), .unset, .unset, .unset, .unset, .unset, .unset, .unset] [(.ref b1)])) _
  refine XS.iconst X1.here hx rfl (hb hby at_8) ?_
  show Steps p.tables e below (T1.setTop (mkF m 9 #[.val (.long q0), .second, .val (.int p1), .val (.int p2), .val (.int p3), .val (.ref b1), .unset, .unset, .unset, .unset, .unset, .unset, .unset] [(.int (0 : Int32)), (.ref b1)])) _
  refine XS.lloadN X1.here hx rfl (hb hby at_9) rfl ?_
  show Steps p.tables e below (T1.setTop (mkF m 10 #[.val (.long q0), .second, .val (.int p1), .val (.int p2), .val (.int p3), .val (.ref b1), .unset, .unset, .unset, .unset, .unset, .unset, .unset] [(.long q0), (.int (0 : Int32)), (.ref b1)])) _
  refine XS.iconst X1.here hx rfl (hb hby at_10) ?_
  show Steps p.tables e below (T1.setTop (mkF m 11 #[.val (.long q0), .second, .val (.int p1), .val (.int p2), .val (.int p3), .val (.ref b1), .unset, .unset, .unset, .unset, .unset, .unset, .unset] [(.int (0 : Int32)), (.long q0), (.int (0 : Int32)), (.ref b1)])) _
  refine st2 _ ?_
  show Steps p.tables e below (T2.setTop (mkF m 14 #[.val (.long q0), .second, .val (.int p1), .val (.int p2), .val (.int p3), .val (.ref b1), .unset, .unset, .unset, .unset, .unset, .unset, .unset] [(.int (F1_0 q0 (0 : Int32))), (.int (0 : Int32)), (.ref b1)])) _
  refine st3 _ ?_
  show Steps p.tables e below (T3.setTop (mkF m 15 #[.val (.long q0), .second, .val (.int p1), .val (.int p2), .val (.int p3), .val (.ref b1), .unset, .unset, .unset, .unset, .unset, .unset, .unset] [])) _
  refine XS.aload X3.here hx rfl (hb hby at_15) rfl rfl ?_
  show Steps p.tables e below (T3.setTop (mkF m 17 #[.val (.long q0), .second, .val (.int p1), .val (.int p2), .val (.int p3), .val (.ref b1), .unset, .unset, .unset, .unset, .unset, .unset, .unset] [(.ref b1)])) _
  refine XS.iconst X3.here hx rfl (hb hby at_17) ?_
  show Steps p.tables e below (T3.setTop (mkF m 18 #[.val (.long q0), .second, .val (.int p1), .val (.int p2), .val (.int p3), .val (.ref b1), .unset, .unset, .unset, .unset, .unset, .unset, .unset] [(.int (1 : Int32)), (.ref b1)])) _
  refine XS.lloadN X3.here hx rfl (hb hby at_18) rfl ?_
  show Steps p.tables e below (T3.setTop (mkF m 19 #[.val (.long q0), .second, .val (.int p1), .val (.int p2), .val (.int p3), .val (.ref b1), .unset, .unset, .unset, .unset, .unset, .unset, .unset] [(.long q0), (.int (1 : Int32)), (.ref b1)])) _
  refine XS.iconst X3.here hx rfl (hb hby at_19) ?_
  show Steps p.tables e below (T3.setTop (mkF m 20 #[.val (.long q0), .second, .val (.int p1), .val (.int p2), .val (.int p3), .val (.ref b1), .unset, .unset, .unset, .unset, .unset, .unset, .unset] [(.int (1 : Int32)), (.long q0), (.int (1 : Int32)), (.ref b1)])) _
  refine st4 _ ?_
  show Steps p.tables e below (T4.setTop (mkF m 23 #[.val (.long q0), .second, .val (.int p1), .val (.int p2), .val (.int p3), .val (.ref b1), .unset, .unset, .unset, .unset, .unset, .unset, .unset] [(.int (F1_0 q0 (1 : Int32))), (.int (1 : Int32)), (.ref b1)])) _
  refine st5 _ ?_
  show Steps p.tables e below (T5.setTop (mkF m 24 #[.val (.long q0), .second, .val (.int p1), .val (.int p2), .val (.int p3), .val (.ref b1), .unset, .unset, .unset, .unset, .unset, .unset, .unset] [])) _
  refine XS.aload X5.here hx rfl (hb hby at_24) rfl rfl ?_
  show Steps p.tables e below (T5.setTop (mkF m 26 #[.val (.long q0), .second, .val (.int p1), .val (.int p2), .val (.int p3), .val (.ref b1), .unset, .unset, .unset, .unset, .unset, .unset, .unset] [(.ref b1)])) _
  refine XS.iconst X5.here hx rfl (hb hby at_26) ?_
  show Steps p.tables e below (T5.setTop (mkF m 27 #[.val (.long q0), .second, .val (.int p1), .val (.int p2), .val (.int p3), .val (.ref b1), .unset, .unset, .unset, .unset, .unset, .unset, .unset] [(.int (2 : Int32)), (.ref b1)])) _
  refine XS.lloadN X5.here hx rfl (hb hby at_27) rfl ?_
  show Steps p.tables e below (T5.setTop (mkF m 28 #[.val (.long q0), .second, .val (.int p1), .val (.int p2), .val (.int p3), .val (.ref b1), .unset, .unset, .unset, .unset, .unset, .unset, .unset] [(.long q0), (.int (2 : Int32)), (.ref b1)])) _
  refine XS.iconst X5.here hx rfl (hb hby at_28) ?_
  show Steps p.tables e below (T5.setTop (mkF m 29 #[.val (.long q0), .second, .val (.int p1), .val (.int p2), .val (.int p3), .val (.ref b1), .unset, .unset, .unset, .unset, .unset, .unset, .unset] [(.int (2 : Int32)), (.long q0), (.int (2 : Int32)), (.ref b1)])) _
  refine st6 _ ?_
  show Steps p.tables e below (T6.setTop (mkF m 32 #[.val (.long q0), .second, .val (.int p1), .val (.int p2), .val (.int p3), .val (.ref b1), .unset, .unset, .unset, .unset, .unset, .unset, .unset] [(.int (F1_0 q0 (2 : Int32))), (.int (2 : Int32)), (.ref b1)])) _
  refine st7 _ ?_
  show Steps p.tables e below (T7.setTop (mkF m 33 #[.val (.long q0), .second, .val (.int p1), .val (.int p2), .val (.int p3), .val (.ref b1), .unset, .unset, .unset, .unset, .unset, .unset, .unset] [])) _
  refine XS.aload X7.here hx rfl (hb hby at_33) rfl rfl ?_
  show Steps p.tables e below (T7.setTop (mkF m 35 #[.val (.long q0), .second, .val (.int p1), .val (.int p2), .val (.int p3), .val (.ref b1), .unset, .unset, .unset, .unset, .unset, .unset, .unset] [(.ref b1)])) _
  refine XS.iconst X7.here hx rfl (hb hby at_35) ?_
  show Steps p.tables e below (T7.setTop (mkF m 36 #[.val (.long q0), .second, .val (.int p1), .val (.int p2), .val (.int p3), .val (.ref b1), .unset, .unset, .unset, .unset, .unset, .unset, .unset] [(.int (3 : Int32)), (.ref b1)])) _
  refine XS.lloadN X7.here hx rfl (hb hby at_36) rfl ?_
  show Steps p.tables e below (T7.setTop (mkF m 37 #[.val (.long q0), .second, .val (.int p1), .val (.int p2), .val (.int p3), .val (.ref b1), .unset, .unset, .unset, .unset, .unset, .unset, .unset] [(.long q0), (.int (3 : Int32)), (.ref b1)])) _
  refine XS.iconst X7.here hx rfl (hb hby at_37) ?_
  show Steps p.tables e below (T7.setTop (mkF m 38 #[.val (.long q0), .second, .val (.int p1), .val (.int p2), .val (.int p3), .val (.ref b1), .unset, .unset, .unset, .unset, .unset, .unset, .unset] [(.int (3 : Int32)), (.long q0), (.int (3 : Int32)), (.ref b1)])) _
  refine st8 _ ?_
  show Steps p.tables e below (T8.setTop (mkF m 41 #[.val (.long q0), .second, .val (.int p1), .val (.int p2), .val (.int p3), .val (.ref b1), .unset, .unset, .unset, .unset, .unset, .unset, .unset] [(.int (F1_0 q0 (3 : Int32))), (.int (3 : Int32)), (.ref b1)])) _
  refine st9 _ ?_
  show Steps p.tables e below (T9.setTop (mkF m 42 #[.val (.long q0), .second, .val (.int p1), .val (.int p2), .val (.int p3), .val (.ref b1), .unset, .unset, .unset, .unset, .unset, .unset, .unset] [])) _
  refine XS.aload X9.here hx rfl (hb hby at_42) rfl rfl ?_
  show Steps p.tables e below (T9.setTop (mkF m 44 #[.val (.long q0), .second, .val (.int p1), .val (.int p2), .val (.int p3), .val (.ref b1), .unset, .unset, .unset, .unset, .unset, .unset, .unset] [(.ref b1)])) _
  refine XS.iconst X9.here hx rfl (hb hby at_44) ?_
  show Steps p.tables e below (T9.setTop (mkF m 45 #[.val (.long q0), .second, .val (.int p1), .val (.int p2), .val (.int p3), .val (.ref b1), .unset, .unset, .unset, .unset, .unset, .unset, .unset] [(.int (4 : Int32)), (.ref b1)])) _
  refine XS.lloadN X9.here hx rfl (hb hby at_45) rfl ?_
  show Steps p.tables e below (T9.setTop (mkF m 46 #[.val (.long q0), .second, .val (.int p1), .val (.int p2), .val (.int p3), .val (.ref b1), .unset, .unset, .unset, .unset, .unset, .unset, .unset] [(.long q0), (.int (4 : Int32)), (.ref b1)])) _
  refine XS.iconst X9.here hx rfl (hb hby at_46) ?_
  show Steps p.tables e below (T9.setTop (mkF m 47 #[.val (.long q0), .second, .val (.int p1), .val (.int p2), .val (.int p3), .val (.ref b1), .unset, .unset, .unset, .unset, .unset, .unset, .unset] [(.int (4 : Int32)), (.long q0), (.int (4 : Int32)), (.ref b1)])) _
  refine st10 _ ?_
  show Steps p.tables e below (T10.setTop (mkF m 50 #[.val (.long q0), .second, .val (.int p1), .val (.int p2), .val (.int p3), .val (.ref b1), .unset, .unset, .unset, .unset, .unset, .unset, .unset] [(.int (F1_0 q0 (4 : Int32))), (.int (4 : Int32)), (.ref b1)])) _
  refine st11 _ ?_
  show Steps p.tables e below (T11.setTop (mkF m 51 #[.val (.long q0), .second, .val (.int p1), .val (.int p2), .val (.int p3), .val (.ref b1), .unset, .unset, .unset, .unset, .unset, .unset, .unset] [])) _
  refine XS.aload X11.here hx rfl (hb hby at_51) rfl rfl ?_
  show Steps p.tables e below (T11.setTop (mkF m 53 #[.val (.long q0), .second, .val (.int p1), .val (.int p2), .val (.int p3), .val (.ref b1), .unset, .unset, .unset, .unset, .unset, .unset, .unset] [(.ref b1)])) _
  refine XS.iconst X11.here hx rfl (hb hby at_53) ?_
  show Steps p.tables e below (T11.setTop (mkF m 54 #[.val (.long q0), .second, .val (.int p1), .val (.int p2), .val (.int p3), .val (.ref b1), .unset, .unset, .unset, .unset, .unset, .unset, .unset] [(.int (5 : Int32)), (.ref b1)])) _
  refine XS.lloadN X11.here hx rfl (hb hby at_54) rfl ?_
  show Steps p.tables e below (T11.setTop (mkF m 55 #[.val (.long q0), .second, .val (.int p1), .val (.int p2), .val (.int p3), .val (.ref b1), .unset, .unset, .unset, .unset, .unset, .unset, .unset] [(.long q0), (.int (5 : Int32)), (.ref b1)])) _
  refine XS.iconst X11.here hx rfl (hb hby at_55) ?_
  show Steps p.tables e below (T11.setTop (mkF m 56 #[.val (.long q0), .second, .val (.int p1), .val (.int p2), .val (.int p3), .val (.ref b1), .unset, .unset, .unset, .unset, .unset, .unset, .unset] [(.int (5 : Int32)), (.long q0), (.int (5 : Int32)), (.ref b1)])) _
  refine st12 _ ?_
  show Steps p.tables e below (T12.setTop (mkF m 59 #[.val (.long q0), .second, .val (.int p1), .val (.int p2), .val (.int p3), .val (.ref b1), .unset, .unset, .unset, .unset, .unset, .unset, .unset] [(.int (F1_0 q0 (5 : Int32))), (.int (5 : Int32)), (.ref b1)])) _
  refine st13 _ ?_
  show Steps p.tables e below (T13.setTop (mkF m 60 #[.val (.long q0), .second, .val (.int p1), .val (.int p2), .val (.int p3), .val (.ref b1), .unset, .unset, .unset, .unset, .unset, .unset, .unset] [])) _
  refine XS.aload X13.here hx rfl (hb hby at_60) rfl rfl ?_
  show Steps p.tables e below (T13.setTop (mkF m 62 #[.val (.long q0), .second, .val (.int p1), .val (.int p2), .val (.int p3), .val (.ref b1), .unset, .unset, .unset, .unset, .unset, .unset, .unset] [(.ref b1)])) _
  refine XS.bipush X13.here hx rfl (hb hby at_62) ?_
  show Steps p.tables e below (T13.setTop (mkF m 64 #[.val (.long q0), .second, .val (.int p1), .val (.int p2), .val (.int p3), .val (.ref b1), .unset, .unset, .unset, .unset, .unset, .unset, .unset] [(.int (6 : Int32)), (.ref b1)])) _
  refine XS.lloadN X13.here hx rfl (hb hby at_64) rfl ?_
  show Steps p.tables e below (T13.setTop (mkF m 65 #[.val (.long q0), .second, .val (.int p1), .val (.int p2), .val (.int p3), .val (.ref b1), .unset, .unset, .unset, .unset, .unset, .unset, .unset] [(.long q0), (.int (6 : Int32)), (.ref b1)])) _
  refine XS.bipush X13.here hx rfl (hb hby at_65) ?_
  show Steps p.tables e below (T13.setTop (mkF m 67 #[.val (.long q0), .second, .val (.int p1), .val (.int p2), .val (.int p3), .val (.ref b1), .unset, .unset, .unset, .unset, .unset, .unset, .unset] [(.int (6 : Int32)), (.long q0), (.int (6 : Int32)), (.ref b1)])) _
  refine st14 _ ?_
  show Steps p.tables e below (T14.setTop (mkF m 70 #[.val (.long q0), .second, .val (.int p1), .val (.int p2), .val (.int p3), .val (.ref b1), .unset, .unset, .unset, .unset, .unset, .unset, .unset] [(.int (F1_0 q0 (6 : Int32))), (.int (6 : Int32)), (.ref b1)])) _
  refine st15 _ ?_
  show Steps p.tables e below (T15.setTop (mkF m 71 #[.val (.long q0), .second, .val (.int p1), .val (.int p2), .val (.int p3), .val (.ref b1), .unset, .unset, .unset, .unset, .unset, .unset, .unset] [])) _
  refine XS.aload X15.here hx rfl (hb hby at_71) rfl rfl ?_
  show Steps p.tables e below (T15.setTop (mkF m 73 #[.val (.long q0), .second, .val (.int p1), .val (.int p2), .val (.int p3), .val (.ref b1), .unset, .unset, .unset, .unset, .unset, .unset, .unset] [(.ref b1)])) _
  refine XS.bipush X15.here hx rfl (hb hby at_73) ?_
  show Steps p.tables e below (T15.setTop (mkF m 75 #[.val (.long q0), .second, .val (.int p1), .val (.int p2), .val (.int p3), .val (.ref b1), .unset, .unset, .unset, .unset, .unset, .unset, .unset] [(.int (7 : Int32)), (.ref b1)])) _
  refine XS.lloadN X15.here hx rfl (hb hby at_75) rfl ?_
  show Steps p.tables e below (T15.setTop (mkF m 76 #[.val (.long q0), .second, .val (.int p1), .val (.int p2), .val (.int p3), .val (.ref b1), .unset, .unset, .unset, .unset, .unset, .unset, .unset] [(.long q0), (.int (7 : Int32)), (.ref b1)])) _
  refine XS.bipush X15.here hx rfl (hb hby at_76) ?_
  show Steps p.tables e below (T15.setTop (mkF m 78 #[.val (.long q0), .second, .val (.int p1), .val (.int p2), .val (.int p3), .val (.ref b1), .unset, .unset, .unset, .unset, .unset, .unset, .unset] [(.int (7 : Int32)), (.long q0), (.int (7 : Int32)), (.ref b1)])) _
  refine st16 _ ?_
  show Steps p.tables e below (T16.setTop (mkF m 81 #[.val (.long q0), .second, .val (.int p1), .val (.int p2), .val (.int p3), .val (.ref b1), .unset, .unset, .unset, .unset, .unset, .unset, .unset] [(.int (F1_0 q0 (7 : Int32))), (.int (7 : Int32)), (.ref b1)])) _
  refine st17 _ ?_
  show Steps p.tables e below (T17.setTop (mkF m 82 #[.val (.long q0), .second, .val (.int p1), .val (.int p2), .val (.int p3), .val (.ref b1), .unset, .unset, .unset, .unset, .unset, .unset, .unset] [])) _
  refine XS.iloadN X17.here hx rfl (hb hby at_82) rfl ?_
  show Steps p.tables e below (T17.setTop (mkF m 83 #[.val (.long q0), .second, .val (.int p1), .val (.int p2), .val (.int p3), .val (.ref b1), .unset, .unset, .unset, .unset, .unset, .unset, .unset] [(.int p1)])) _
  refine X17.ldcInt hx hown (mvT hZ (hw _ (List.mem_of_getElem? (i := 5) rfl))) (g := (mkF m 83 #[.val (.long q0), .second, .val (.int p1), .val (.int p2), .val (.int p3), .val (.ref b1), .unset, .unset, .unset, .unset, .unset, .unset, .unset] [(.int p1)])) rfl (hb hby at_83) _ ?_
  show Steps p.tables e below (T17.setTop (mkF m 85 #[.val (.long q0), .second, .val (.int p1), .val (.int p2), .val (.int p3), .val (.ref b1), .unset, .unset, .unset, .unset, .unset, .unset, .unset] [(.int (2147483647 : Int32)), (.int p1)])) _
  refine XS.iand X17.here hx rfl (hb hby at_85) rfl ?_
  show Steps p.tables e below (T17.setTop (mkF m 86 #[.val (.long q0), .second, .val (.int p1), .val (.int p2), .val (.int p3), .val (.ref b1), .unset, .unset, .unset, .unset, .unset, .unset, .unset] [(.int (p1 &&& (2147483647 : Int32)))])) _
  refine XS.bipush X17.here hx rfl (hb hby at_86) ?_
  show Steps p.tables e below (T17.setTop (mkF m 88 #[.val (.long q0), .second, .val (.int p1), .val (.int p2), .val (.int p3), .val (.ref b1), .unset, .unset, .unset, .unset, .unset, .unset, .unset] [(.int (9 : Int32)), (.int (p1 &&& (2147483647 : Int32)))])) _
  refine XS.irem X17.here hx rfl (hb hby at_88) rfl (by decide) ?_
  show Steps p.tables e below (T17.setTop (mkF m 89 #[.val (.long q0), .second, .val (.int p1), .val (.int p2), .val (.int p3), .val (.ref b1), .unset, .unset, .unset, .unset, .unset, .unset, .unset] [(.int ((p1 &&& (2147483647 : Int32)) - ((p1 &&& (2147483647 : Int32)) / (9 : Int32)) * (9 : Int32)))])) _
  refine XS.istore X17.here hx rfl (hb hby at_89) rfl (l' := #[.val (.long q0), .second, .val (.int p1), .val (.int p2), .val (.int p3), .val (.ref b1), .val (.int ((p1 &&& (2147483647 : Int32)) - ((p1 &&& (2147483647 : Int32)) / (9 : Int32)) * (9 : Int32))), .unset, .unset, .unset, .unset, .unset, .unset]) rfl ?_
  show Steps p.tables e below (T17.setTop (mkF m 91 #[.val (.long q0), .second, .val (.int p1), .val (.int p2), .val (.int p3), .val (.ref b1), .val (.int (vO p1)), .unset, .unset, .unset, .unset, .unset, .unset] [])) _
  refine XS.iloadN X17.here hx rfl (hb hby at_91) rfl ?_
  show Steps p.tables e below (T17.setTop (mkF m 92 #[.val (.long q0), .second, .val (.int p1), .val (.int p2), .val (.int p3), .val (.ref b1), .val (.int (vO p1)), .unset, .unset, .unset, .unset, .unset, .unset] [(.int p2)])) _
  refine X17.ldcInt hx hown (mvT hZ (hw _ (List.mem_of_getElem? (i := 5) rfl))) (g := (mkF m 92 #[.val (.long q0), .second, .val (.int p1), .val (.int p2), .val (.int p3), .val (.ref b1), .val (.int (vO p1)), .unset, .unset, .unset, .unset, .unset, .unset] [(.int p2)])) rfl (hb hby at_92) _ ?_
  show Steps p.tables e below (T17.setTop (mkF m 94 #[.val (.long q0), .second, .val (.int p1), .val (.int p2), .val (.int p3), .val (.ref b1), .val (.int (vO p1)), .unset, .unset, .unset, .unset, .unset, .unset] [(.int (2147483647 : Int32)), (.int p2)])) _
  refine XS.iand X17.here hx rfl (hb hby at_94) rfl ?_
  show Steps p.tables e below (T17.setTop (mkF m 95 #[.val (.long q0), .second, .val (.int p1), .val (.int p2), .val (.int p3), .val (.ref b1), .val (.int (vO p1)), .unset, .unset, .unset, .unset, .unset, .unset] [(.int (p2 &&& (2147483647 : Int32)))])) _
  refine XS.bipush X17.here hx rfl (hb hby at_95) ?_
  show Steps p.tables e below (T17.setTop (mkF m 97 #[.val (.long q0), .second, .val (.int p1), .val (.int p2), .val (.int p3), .val (.ref b1), .val (.int (vO p1)), .unset, .unset, .unset, .unset, .unset, .unset] [(.int (9 : Int32)), (.int (p2 &&& (2147483647 : Int32)))])) _
  refine XS.iload X17.here hx rfl (hb hby at_97) rfl ?_
  show Steps p.tables e below (T17.setTop (mkF m 99 #[.val (.long q0), .second, .val (.int p1), .val (.int p2), .val (.int p3), .val (.ref b1), .val (.int (vO p1)), .unset, .unset, .unset, .unset, .unset, .unset] [(.int (vO p1)), (.int (9 : Int32)), (.int (p2 &&& (2147483647 : Int32)))])) _
  refine XS.isub X17.here hx rfl (hb hby at_99) rfl ?_
  show Steps p.tables e below (T17.setTop (mkF m 100 #[.val (.long q0), .second, .val (.int p1), .val (.int p2), .val (.int p3), .val (.ref b1), .val (.int (vO p1)), .unset, .unset, .unset, .unset, .unset, .unset] [(.int ((9 : Int32) - (vO p1))), (.int (p2 &&& (2147483647 : Int32)))])) _
  refine XS.irem X17.here hx rfl (hb hby at_100) rfl (own_nz p1) ?_
  show Steps p.tables e below (T17.setTop (mkF m 101 #[.val (.long q0), .second, .val (.int p1), .val (.int p2), .val (.int p3), .val (.ref b1), .val (.int (vO p1)), .unset, .unset, .unset, .unset, .unset, .unset] [(.int ((p2 &&& (2147483647 : Int32)) - ((p2 &&& (2147483647 : Int32)) / ((9 : Int32) - (vO p1))) * ((9 : Int32) - (vO p1))))])) _
  refine XS.istore X17.here hx rfl (hb hby at_101) rfl (l' := #[.val (.long q0), .second, .val (.int p1), .val (.int p2), .val (.int p3), .val (.ref b1), .val (.int (vO p1)), .val (.int ((p2 &&& (2147483647 : Int32)) - ((p2 &&& (2147483647 : Int32)) / ((9 : Int32) - (vO p1))) * ((9 : Int32) - (vO p1)))), .unset, .unset, .unset, .unset, .unset]) rfl ?_
  show Steps p.tables e below (T17.setTop (mkF m 103 #[.val (.long q0), .second, .val (.int p1), .val (.int p2), .val (.int p3), .val (.ref b1), .val (.int (vO p1)), .val (.int (vLen p1 p2)), .unset, .unset, .unset, .unset, .unset] [])) _
  refine XS.iload X17.here hx rfl (hb hby at_103) rfl ?_
  show Steps p.tables e below (T17.setTop (mkF m 105 #[.val (.long q0), .second, .val (.int p1), .val (.int p2), .val (.int p3), .val (.ref b1), .val (.int (vO p1)), .val (.int (vLen p1 p2)), .unset, .unset, .unset, .unset, .unset] [(.int p3)])) _
  refine XS.bipush X17.here hx rfl (hb hby at_105) ?_
  show Steps p.tables e below (T17.setTop (mkF m 107 #[.val (.long q0), .second, .val (.int p1), .val (.int p2), .val (.int p3), .val (.ref b1), .val (.int (vO p1)), .val (.int (vLen p1 p2)), .unset, .unset, .unset, .unset, .unset] [(.int (7 : Int32)), (.int p3)])) _
  refine XS.iand X17.here hx rfl (hb hby at_107) rfl ?_
  show Steps p.tables e below (T17.setTop (mkF m 108 #[.val (.long q0), .second, .val (.int p1), .val (.int p2), .val (.int p3), .val (.ref b1), .val (.int (vO p1)), .val (.int (vLen p1 p2)), .unset, .unset, .unset, .unset, .unset] [(.int (p3 &&& (7 : Int32)))])) _
  refine XS.iconst X17.here hx rfl (hb hby at_108) ?_
  show Steps p.tables e below (T17.setTop (mkF m 109 #[.val (.long q0), .second, .val (.int p1), .val (.int p2), .val (.int p3), .val (.ref b1), .val (.int (vO p1)), .val (.int (vLen p1 p2)), .unset, .unset, .unset, .unset, .unset] [(.int (5 : Int32)), (.int (p3 &&& (7 : Int32)))])) _
  refine XS.irem X17.here hx rfl (hb hby at_109) rfl (by decide) ?_
  show Steps p.tables e below (T17.setTop (mkF m 110 #[.val (.long q0), .second, .val (.int p1), .val (.int p2), .val (.int p3), .val (.ref b1), .val (.int (vO p1)), .val (.int (vLen p1 p2)), .unset, .unset, .unset, .unset, .unset] [(.int ((p3 &&& (7 : Int32)) - ((p3 &&& (7 : Int32)) / (5 : Int32)) * (5 : Int32)))])) _
  refine XS.iload X17.here hx rfl (hb hby at_110) rfl ?_
  show Steps p.tables e below (T17.setTop (mkF m 112 #[.val (.long q0), .second, .val (.int p1), .val (.int p2), .val (.int p3), .val (.ref b1), .val (.int (vO p1)), .val (.int (vLen p1 p2)), .unset, .unset, .unset, .unset, .unset] [(.int (vLen p1 p2)), (.int ((p3 &&& (7 : Int32)) - ((p3 &&& (7 : Int32)) / (5 : Int32)) * (5 : Int32)))])) _
  refine st18 _ ?_
  show Steps p.tables e below (T18.setTop (mkF m 115 #[.val (.long q0), .second, .val (.int p1), .val (.int p2), .val (.int p3), .val (.ref b1), .val (.int (vO p1)), .val (.int (vLen p1 p2)), .unset, .unset, .unset, .unset, .unset] [(.int (F2_0 ((p3 &&& (7 : Int32)) - ((p3 &&& (7 : Int32)) / (5 : Int32)) * (5 : Int32)) (vLen p1 p2)))])) _
  refine XS.istore X18.here hx rfl (hb hby at_115) rfl (l' := #[.val (.long q0), .second, .val (.int p1), .val (.int p2), .val (.int p3), .val (.ref b1), .val (.int (vO p1)), .val (.int (vLen p1 p2)), .val (.int (F2_0 ((p3 &&& (7 : Int32)) - ((p3 &&& (7 : Int32)) / (5 : Int32)) * (5 : Int32)) (vLen p1 p2))), .unset, .unset, .unset, .unset]) rfl ?_
  show Steps p.tables e below (T18.setTop (mkF m 117 #[.val (.long q0), .second, .val (.int p1), .val (.int p2), .val (.int p3), .val (.ref b1), .val (.int (vO p1)), .val (.int (vLen p1 p2)), .val (.int (vN p1 p2 p3)), .unset, .unset, .unset, .unset] [])) _
  refine st19 _ ?_
  show Steps p.tables e below (T19.setTop (mkF m 120 #[.val (.long q0), .second, .val (.int p1), .val (.int p2), .val (.int p3), .val (.ref b1), .val (.int (vO p1)), .val (.int (vLen p1 p2)), .val (.int (vN p1 p2 p3)), .unset, .unset, .unset, .unset] [(.ref b19)])) _
  refine XS.dup X19.here hx rfl (hb hby at_120) rfl rfl ?_
  show Steps p.tables e below (T19.setTop (mkF m 121 #[.val (.long q0), .second, .val (.int p1), .val (.int p2), .val (.int p3), .val (.ref b1), .val (.int (vO p1)), .val (.int (vLen p1 p2)), .val (.int (vN p1 p2 p3)), .unset, .unset, .unset, .unset] [(.ref b19), (.ref b19)])) _
  refine XS.aload X19.here hx rfl (hb hby at_121) rfl rfl ?_
  show Steps p.tables e below (T19.setTop (mkF m 123 #[.val (.long q0), .second, .val (.int p1), .val (.int p2), .val (.int p3), .val (.ref b1), .val (.int (vO p1)), .val (.int (vLen p1 p2)), .val (.int (vN p1 p2 p3)), .unset, .unset, .unset, .unset] [(.ref b1), (.ref b19), (.ref b19)])) _
  refine XS.iload X19.here hx rfl (hb hby at_123) rfl ?_
  show Steps p.tables e below (T19.setTop (mkF m 125 #[.val (.long q0), .second, .val (.int p1), .val (.int p2), .val (.int p3), .val (.ref b1), .val (.int (vO p1)), .val (.int (vLen p1 p2)), .val (.int (vN p1 p2 p3)), .unset, .unset, .unset, .unset] [(.int (vO p1)), (.ref b1), (.ref b19), (.ref b19)])) _
  refine XS.iload X19.here hx rfl (hb hby at_125) rfl ?_
  show Steps p.tables e below (T19.setTop (mkF m 127 #[.val (.long q0), .second, .val (.int p1), .val (.int p2), .val (.int p3), .val (.ref b1), .val (.int (vO p1)), .val (.int (vLen p1 p2)), .val (.int (vN p1 p2 p3)), .unset, .unset, .unset, .unset] [(.int (vLen p1 p2)), (.int (vO p1)), (.ref b1), (.ref b19), (.ref b19)])) _
  refine st20.trans ?_
  show Steps p.tables e below (T20.setTop (mkF m 130 #[.val (.long q0), .second, .val (.int p1), .val (.int p2), .val (.int p3), .val (.ref b1), .val (.int (vO p1)), .val (.int (vLen p1 p2)), .val (.int (vN p1 p2 p3)), .unset, .unset, .unset, .unset] [(.ref b19)])) _
  refine XS.astore X20.here hx rfl (hb hby at_130) rfl rfl (l' := #[.val (.long q0), .second, .val (.int p1), .val (.int p2), .val (.int p3), .val (.ref b1), .val (.int (vO p1)), .val (.int (vLen p1 p2)), .val (.int (vN p1 p2 p3)), .val (.ref b19), .unset, .unset, .unset]) rfl ?_
  show Steps p.tables e below (T20.setTop (mkF m 132 #[.val (.long q0), .second, .val (.int p1), .val (.int p2), .val (.int p3), .val (.ref b1), .val (.int (vO p1)), .val (.int (vLen p1 p2)), .val (.int (vN p1 p2 p3)), .val (.ref b19), .unset, .unset, .unset] [])) _
  refine XS.iconst X20.here hx rfl (hb hby at_132) ?_
  show Steps p.tables e below (T20.setTop (mkF m 133 #[.val (.long q0), .second, .val (.int p1), .val (.int p2), .val (.int p3), .val (.ref b1), .val (.int (vO p1)), .val (.int (vLen p1 p2)), .val (.int (vN p1 p2 p3)), .val (.ref b19), .unset, .unset, .unset] [(.int (1 : Int32))])) _
  refine XS.istore X20.here hx rfl (hb hby at_133) rfl (l' := #[.val (.long q0), .second, .val (.int p1), .val (.int p2), .val (.int p3), .val (.ref b1), .val (.int (vO p1)), .val (.int (vLen p1 p2)), .val (.int (vN p1 p2 p3)), .val (.ref b19), .val (.int (1 : Int32)), .unset, .unset]) rfl ?_
  show Steps p.tables e below (T20.setTop (mkF m 135 #[.val (.long q0), .second, .val (.int p1), .val (.int p2), .val (.int p3), .val (.ref b1), .val (.int (vO p1)), .val (.int (vLen p1 p2)), .val (.int (vN p1 p2 p3)), .val (.ref b19), .val (.int (1 : Int32)), .unset, .unset] [])) _
  refine XS.iload X20.here hx rfl (hb hby at_135) rfl ?_
  show Steps p.tables e below (T20.setTop (mkF m 137 #[.val (.long q0), .second, .val (.int p1), .val (.int p2), .val (.int p3), .val (.ref b1), .val (.int (vO p1)), .val (.int (vLen p1 p2)), .val (.int (vN p1 p2 p3)), .val (.ref b19), .val (.int (1 : Int32)), .unset, .unset] [(.int (vN p1 p2 p3))])) _
  refine XS.iconst X20.here hx rfl (hb hby at_137) ?_
  show Steps p.tables e below (T20.setTop (mkF m 138 #[.val (.long q0), .second, .val (.int p1), .val (.int p2), .val (.int p3), .val (.ref b1), .val (.int (vO p1)), .val (.int (vLen p1 p2)), .val (.int (vN p1 p2 p3)), .val (.ref b19), .val (.int (1 : Int32)), .unset, .unset] [(.int (1 : Int32)), (.int (vN p1 p2 p3))])) _
  refine XS.icmpYes X20.here hx rfl (pc0 := 138) (pc' := 167) rfl (hb hby at_138) rfl (tlt hc138).1 (by decide) (by decide) ?_
  show Steps p.tables e below (T20.setTop (mkF m 167 #[.val (.long q0), .second, .val (.int p1), .val (.int p2), .val (.int p3), .val (.ref b1), .val (.int (vO p1)), .val (.int (vLen p1 p2)), .val (.int (vN p1 p2 p3)), .val (.ref b19), .val (.int (1 : Int32)), .unset, .unset] [])) _
  refine XS.iload X20.here hx rfl (hb hby at_167) rfl ?_
  show Steps p.tables e below (T20.setTop (mkF m 169 #[.val (.long q0), .second, .val (.int p1), .val (.int p2), .val (.int p3), .val (.ref b1), .val (.int (vO p1)), .val (.int (vLen p1 p2)), .val (.int (vN p1 p2 p3)), .val (.ref b19), .val (.int (1 : Int32)), .unset, .unset] [(.int (vN p1 p2 p3))])) _
  refine XS.iconst X20.here hx rfl (hb hby at_169) ?_
  show Steps p.tables e below (T20.setTop (mkF m 170 #[.val (.long q0), .second, .val (.int p1), .val (.int p2), .val (.int p3), .val (.ref b1), .val (.int (vO p1)), .val (.int (vLen p1 p2)), .val (.int (vN p1 p2 p3)), .val (.ref b19), .val (.int (1 : Int32)), .unset, .unset] [(.int (2 : Int32)), (.int (vN p1 p2 p3))])) _
  refine XS.icmpYes X20.here hx rfl (pc0 := 170) (pc' := 201) rfl (hb hby at_170) rfl (tlt hc170).1 (by decide) (by decide) ?_
  show Steps p.tables e below (T20.setTop (mkF m 201 #[.val (.long q0), .second, .val (.int p1), .val (.int p2), .val (.int p3), .val (.ref b1), .val (.int (vO p1)), .val (.int (vLen p1 p2)), .val (.int (vN p1 p2 p3)), .val (.ref b19), .val (.int (1 : Int32)), .unset, .unset] [])) _
  refine XS.iload X20.here hx rfl (hb hby at_201) rfl ?_
  show Steps p.tables e below (T20.setTop (mkF m 203 #[.val (.long q0), .second, .val (.int p1), .val (.int p2), .val (.int p3), .val (.ref b1), .val (.int (vO p1)), .val (.int (vLen p1 p2)), .val (.int (vN p1 p2 p3)), .val (.ref b19), .val (.int (1 : Int32)), .unset, .unset] [(.int (vN p1 p2 p3))])) _
  refine XS.iconst X20.here hx rfl (hb hby at_203) ?_
  show Steps p.tables e below (T20.setTop (mkF m 204 #[.val (.long q0), .second, .val (.int p1), .val (.int p2), .val (.int p3), .val (.ref b1), .val (.int (vO p1)), .val (.int (vLen p1 p2)), .val (.int (vN p1 p2 p3)), .val (.ref b19), .val (.int (1 : Int32)), .unset, .unset] [(.int (3 : Int32)), (.int (vN p1 p2 p3))])) _
  refine XS.icmpYes X20.here hx rfl (pc0 := 204) (pc' := 235) rfl (hb hby at_204) rfl (tlt hc204).1 (by decide) (by decide) ?_
  show Steps p.tables e below (T20.setTop (mkF m 235 #[.val (.long q0), .second, .val (.int p1), .val (.int p2), .val (.int p3), .val (.ref b1), .val (.int (vO p1)), .val (.int (vLen p1 p2)), .val (.int (vN p1 p2 p3)), .val (.ref b19), .val (.int (1 : Int32)), .unset, .unset] [])) _
  refine XS.iload X20.here hx rfl (hb hby at_235) rfl ?_
  show Steps p.tables e below (T20.setTop (mkF m 237 #[.val (.long q0), .second, .val (.int p1), .val (.int p2), .val (.int p3), .val (.ref b1), .val (.int (vO p1)), .val (.int (vLen p1 p2)), .val (.int (vN p1 p2 p3)), .val (.ref b19), .val (.int (1 : Int32)), .unset, .unset] [(.int (vN p1 p2 p3))])) _
  refine XS.iconst X20.here hx rfl (hb hby at_237) ?_
  show Steps p.tables e below (T20.setTop (mkF m 238 #[.val (.long q0), .second, .val (.int p1), .val (.int p2), .val (.int p3), .val (.ref b1), .val (.int (vO p1)), .val (.int (vLen p1 p2)), .val (.int (vN p1 p2 p3)), .val (.ref b19), .val (.int (1 : Int32)), .unset, .unset] [(.int (4 : Int32)), (.int (vN p1 p2 p3))])) _
  refine XS.icmpYes X20.here hx rfl (pc0 := 238) (pc' := 269) rfl (hb hby at_238) rfl (tlt hc238).1 (by decide) (by decide) ?_
  show Steps p.tables e below (T20.setTop (mkF m 269 #[.val (.long q0), .second, .val (.int p1), .val (.int p2), .val (.int p3), .val (.ref b1), .val (.int (vO p1)), .val (.int (vLen p1 p2)), .val (.int (vN p1 p2 p3)), .val (.ref b19), .val (.int (1 : Int32)), .unset, .unset] [])) _
  refine XS.aload X20.here hx rfl (hb hby at_269) rfl rfl ?_
  show Steps p.tables e below (T20.setTop (mkF m 271 #[.val (.long q0), .second, .val (.int p1), .val (.int p2), .val (.int p3), .val (.ref b1), .val (.int (vO p1)), .val (.int (vLen p1 p2)), .val (.int (vN p1 p2 p3)), .val (.ref b19), .val (.int (1 : Int32)), .unset, .unset] [(.ref b19)])) _
  refine X20.ldc2Long hx hown20 (mvT hZ20 (hw _ (List.mem_of_getElem? (i := 52) rfl))) (g := (mkF m 271 #[.val (.long q0), .second, .val (.int p1), .val (.int p2), .val (.int p3), .val (.ref b1), .val (.int (vO p1)), .val (.int (vLen p1 p2)), .val (.int (vN p1 p2 p3)), .val (.ref b19), .val (.int (1 : Int32)), .unset, .unset] [(.ref b19)])) rfl (hb hby at_271) _ ?_
  show Steps p.tables e below (T20.setTop (mkF m 274 #[.val (.long q0), .second, .val (.int p1), .val (.int p2), .val (.int p3), .val (.ref b1), .val (.int (vO p1)), .val (.int (vLen p1 p2)), .val (.int (vN p1 p2 p3)), .val (.ref b19), .val (.int (1 : Int32)), .unset, .unset] [(.long (8 : Int64)), (.ref b19)])) _
  refine st21.trans ?_
  show Steps p.tables e below (T21.setTop (mkF m 277 #[.val (.long q0), .second, .val (.int p1), .val (.int p2), .val (.int p3), .val (.ref b1), .val (.int (vO p1)), .val (.int (vLen p1 p2)), .val (.int (vN p1 p2 p3)), .val (.ref b19), .val (.int (1 : Int32)), .unset, .unset] [(.long (((F11_0 (8 : Int64) ((((vO p1) + (vLen p1 p2)) - (vO p1)).toInt64)).toInt32).toInt64))])) _
  refine XS.lstore X21.here hx rfl (hb hby at_277) rfl (l' := #[.val (.long q0), .second, .val (.int p1), .val (.int p2), .val (.int p3), .val (.ref b1), .val (.int (vO p1)), .val (.int (vLen p1 p2)), .val (.int (vN p1 p2 p3)), .val (.ref b19), .val (.int (1 : Int32)), .val (.long (((F11_0 (8 : Int64) ((((vO p1) + (vLen p1 p2)) - (vO p1)).toInt64)).toInt32).toInt64)), .second]) rfl ?_
  show Steps p.tables e below (T21.setTop (mkF m 279 #[.val (.long q0), .second, .val (.int p1), .val (.int p2), .val (.int p3), .val (.ref b1), .val (.int (vO p1)), .val (.int (vLen p1 p2)), .val (.int (vN p1 p2 p3)), .val (.ref b19), .val (.int (1 : Int32)), .val (.long (((F11_0 (8 : Int64) ((((vO p1) + (vLen p1 p2)) - (vO p1)).toInt64)).toInt32).toInt64)), .second] [])) _
  refine XS.iload X21.here hx rfl (hb hby at_279) rfl ?_
  show Steps p.tables e below (T21.setTop (mkF m 281 #[.val (.long q0), .second, .val (.int p1), .val (.int p2), .val (.int p3), .val (.ref b1), .val (.int (vO p1)), .val (.int (vLen p1 p2)), .val (.int (vN p1 p2 p3)), .val (.ref b19), .val (.int (1 : Int32)), .val (.long (((F11_0 (8 : Int64) ((((vO p1) + (vLen p1 p2)) - (vO p1)).toInt64)).toInt32).toInt64)), .second] [(.int (1 : Int32))])) _
  refine XS.ifNo X21.here hx rfl (hb hby at_281) rfl ((if0 _ _).trans (feq (by decide)).1) ?_
  show Steps p.tables e below (T21.setTop (mkF m 284 #[.val (.long q0), .second, .val (.int p1), .val (.int p2), .val (.int p3), .val (.ref b1), .val (.int (vO p1)), .val (.int (vLen p1 p2)), .val (.int (vN p1 p2 p3)), .val (.ref b19), .val (.int (1 : Int32)), .val (.long (((F11_0 (8 : Int64) ((((vO p1) + (vLen p1 p2)) - (vO p1)).toInt64)).toInt32).toInt64)), .second] [])) _
  refine XS.lload X21.here hx rfl (hb hby at_284) rfl ?_
  show Steps p.tables e below (T21.setTop (mkF m 286 #[.val (.long q0), .second, .val (.int p1), .val (.int p2), .val (.int p3), .val (.ref b1), .val (.int (vO p1)), .val (.int (vLen p1 p2)), .val (.int (vN p1 p2 p3)), .val (.ref b19), .val (.int (1 : Int32)), .val (.long (((F11_0 (8 : Int64) ((((vO p1) + (vLen p1 p2)) - (vO p1)).toInt64)).toInt32).toInt64)), .second] [(.long (((F11_0 (8 : Int64) ((((vO p1) + (vLen p1 p2)) - (vO p1)).toInt64)).toInt32).toInt64))])) _
  refine XS.iload X21.here hx rfl (hb hby at_286) rfl ?_
  show Steps p.tables e below (T21.setTop (mkF m 288 #[.val (.long q0), .second, .val (.int p1), .val (.int p2), .val (.int p3), .val (.ref b1), .val (.int (vO p1)), .val (.int (vLen p1 p2)), .val (.int (vN p1 p2 p3)), .val (.ref b19), .val (.int (1 : Int32)), .val (.long (((F11_0 (8 : Int64) ((((vO p1) + (vLen p1 p2)) - (vO p1)).toInt64)).toInt32).toInt64)), .second] [(.int (vLen p1 p2)), (.long (((F11_0 (8 : Int64) ((((vO p1) + (vLen p1 p2)) - (vO p1)).toInt64)).toInt32).toInt64))])) _
  refine XS.iload X21.here hx rfl (hb hby at_288) rfl ?_
  show Steps p.tables e below (T21.setTop (mkF m 290 #[.val (.long q0), .second, .val (.int p1), .val (.int p2), .val (.int p3), .val (.ref b1), .val (.int (vO p1)), .val (.int (vLen p1 p2)), .val (.int (vN p1 p2 p3)), .val (.ref b19), .val (.int (1 : Int32)), .val (.long (((F11_0 (8 : Int64) ((((vO p1) + (vLen p1 p2)) - (vO p1)).toInt64)).toInt32).toInt64)), .second] [(.int (vN p1 p2 p3)), (.int (vLen p1 p2)), (.long (((F11_0 (8 : Int64) ((((vO p1) + (vLen p1 p2)) - (vO p1)).toInt64)).toInt32).toInt64))])) _
  refine XS.isub X21.here hx rfl (hb hby at_290) rfl ?_
  show Steps p.tables e below (T21.setTop (mkF m 291 #[.val (.long q0), .second, .val (.int p1), .val (.int p2), .val (.int p3), .val (.ref b1), .val (.int (vO p1)), .val (.int (vLen p1 p2)), .val (.int (vN p1 p2 p3)), .val (.ref b19), .val (.int (1 : Int32)), .val (.long (((F11_0 (8 : Int64) ((((vO p1) + (vLen p1 p2)) - (vO p1)).toInt64)).toInt32).toInt64)), .second] [(.int ((vLen p1 p2) - (vN p1 p2 p3))), (.long (((F11_0 (8 : Int64) ((((vO p1) + (vLen p1 p2)) - (vO p1)).toInt64)).toInt32).toInt64))])) _
  refine XS.i2l X21.here hx rfl (hb hby at_291) rfl ?_
  show Steps p.tables e below (T21.setTop (mkF m 292 #[.val (.long q0), .second, .val (.int p1), .val (.int p2), .val (.int p3), .val (.ref b1), .val (.int (vO p1)), .val (.int (vLen p1 p2)), .val (.int (vN p1 p2 p3)), .val (.ref b19), .val (.int (1 : Int32)), .val (.long (((F11_0 (8 : Int64) ((((vO p1) + (vLen p1 p2)) - (vO p1)).toInt64)).toInt32).toInt64)), .second] [(.long (((vLen p1 p2) - (vN p1 p2 p3)).toInt64)), (.long (((F11_0 (8 : Int64) ((((vO p1) + (vLen p1 p2)) - (vO p1)).toInt64)).toInt32).toInt64))])) _
  refine XS.lcmp X21.here hx rfl (hb hby at_292) rfl ?_
  show Steps p.tables e below (T21.setTop (mkF m 293 #[.val (.long q0), .second, .val (.int p1), .val (.int p2), .val (.int p3), .val (.ref b1), .val (.int (vO p1)), .val (.int (vLen p1 p2)), .val (.int (vN p1 p2 p3)), .val (.ref b19), .val (.int (1 : Int32)), .val (.long (((F11_0 (8 : Int64) ((((vO p1) + (vLen p1 p2)) - (vO p1)).toInt64)).toInt32).toInt64)), .second] [(.int (lcmpW (((F11_0 (8 : Int64) ((((vO p1) + (vLen p1 p2)) - (vO p1)).toInt64)).toInt32).toInt64) (((vLen p1 p2) - (vN p1 p2 p3)).toInt64)))])) _
  refine XS.ifNo X21.here hx rfl (hb hby at_293) rfl ((if0 _ _).trans (teq ((lw_eq _ _).mpr (own_rest0 p1 p2 p3 hc138))).2) ?_
  show Steps p.tables e below (T21.setTop (mkF m 296 #[.val (.long q0), .second, .val (.int p1), .val (.int p2), .val (.int p3), .val (.ref b1), .val (.int (vO p1)), .val (.int (vLen p1 p2)), .val (.int (vN p1 p2 p3)), .val (.ref b19), .val (.int (1 : Int32)), .val (.long (((F11_0 (8 : Int64) ((((vO p1) + (vLen p1 p2)) - (vO p1)).toInt64)).toInt32).toInt64)), .second] [])) _
  refine XS.iconst X21.here hx rfl (hb hby at_296) ?_
  show Steps p.tables e below (T21.setTop (mkF m 297 #[.val (.long q0), .second, .val (.int p1), .val (.int p2), .val (.int p3), .val (.ref b1), .val (.int (vO p1)), .val (.int (vLen p1 p2)), .val (.int (vN p1 p2 p3)), .val (.ref b19), .val (.int (1 : Int32)), .val (.long (((F11_0 (8 : Int64) ((((vO p1) + (vLen p1 p2)) - (vO p1)).toInt64)).toInt32).toInt64)), .second] [(.int (1 : Int32))])) _
  refine XS.goto X21.here hx rfl (pc0 := 297) (pc' := 301) rfl (hb hby at_297) (by decide) (by decide) ?_
  show Steps p.tables e below (T21.setTop (mkF m 301 #[.val (.long q0), .second, .val (.int p1), .val (.int p2), .val (.int p3), .val (.ref b1), .val (.int (vO p1)), .val (.int (vLen p1 p2)), .val (.int (vN p1 p2 p3)), .val (.ref b19), .val (.int (1 : Int32)), .val (.long (((F11_0 (8 : Int64) ((((vO p1) + (vLen p1 p2)) - (vO p1)).toInt64)).toInt32).toInt64)), .second] [(.int (1 : Int32))])) _
  exact retN X21 hx (t := .boolean) Bd.returns (by simp) (hb hby at_301) hr
def Q_rm0_1 (Z : State) (q0 : Int64) (p1 : Int32) (p2 : Int32) (p3 : Int32) (h0 : Heap) (n0 : Nat) (v : Option Value) (h : Heap) (L : List Loc) : Prop := (v = some (.int (1 : Int32)) ∧ Fr n0 L)
set_option maxRecDepth 65536 in
set_option maxHeartbeats 40000000 in
theorem rm0_1 (l : Launch) (Z : State) (a0 : Array Value) (hw : ∀ d ∈ tables_1, d.before a0 Z = true) (ws : List Jvm.Cond) (q0 : Int64) (p1 : Int32) (p2 : Int32) (p3 : Int32) (h0 : Heap) (n0 : Nat) (Z0 : n0 ≤ h0.size) (hc138 : ¬ ((vN p1 p2 p3) < (1 : Int32))) (hc170 : (vN p1 p2 p3) < (2 : Int32)) (hc204 : (vN p1 p2 p3) < (3 : Int32)) (hc238 : (vN p1 p2 p3) < (4 : Int32)) :
    MetFree l x (head1 (Jvm.Cond.code x code maxLocals ret :: ws) room_1) (fun a U => a = #[(.long q0), (.int p1), (.int p2), (.int p3)] ∧ Z.Warmed39 U.vm ∧ U.heap = h0) (fun _ _ _ _ _ => True) (fun _ U o U' => ∃ v L, o = .returned v ∧ Q_rm0_1 Z q0 p1 p2 p3 h0 n0 v U'.heap L ∧ ReturnedEndW U o U' L room_1.cells room_1.slots) := by
  refine MetFree.of_bodySF (plainFor_of_name pn_0) hisR ?_
  intro p e s m args below meth c s₁ Bd hml0 hP hK
  obtain ⟨rfl, hZ, hh⟩ := hP
  have hx := Bd.exec
  have hby := Bd.bytes
  have hml : c.maxLocals = 13 := hml0
  have hown : s.vm.findClass "com/example/packwise/packwise/ByteArraySourceReadBytePinLaw" = some m.cls := findClass_of_methodNamed Bd.named
  have hnm := (name_of_methodNamed Bd.named Bd.method).1
  have X0 : Stand p l e room_1 s m #[(.long q0), (.int p1), (.int p2), (.int p3)] below meth c s₁ [] 0 0 := Stand.of_body Bd
  have e0 : s₁.heap = h0 := by rw [← hh, Bd.state]; rfl
  have N0 := Fr.nil n0
  have pre0 : ∀ t, Steps p.tables e below (s₁.setTop (mkF m 0 #[.val (.long q0), .second, .val (.int p1), .val (.int p2), .val (.int p3), .unset, .unset, .unset, .unset, .unset, .unset, .unset, .unset] [])) t → Steps p.tables e below (s₁.setTop (entryFrame m #[(.long q0), (.int p1), (.int p2), (.int p3)] maxLocals)) t := fun t k => castTop (ef_0 m q0 p1 p2 p3) k
  obtain ⟨T1, h1, k1, X1, e1, E1, A1, Ex1, st1⟩ := newPE X0 hx hZ (hw _ (List.mem_of_getElem? (i := 0) rfl)) e0 (g := (mkF m 2 #[.val (.long q0), .second, .val (.int p1), .val (.int p2), .val (.int p3), .unset, .unset, .unset, .unset, .unset, .unset, .unset, .unset] [(.int (8 : Int32))])) rfl (hb hby at_2) rfl (by decide) (cap := 8) (by decide) (by decide) (by decide) (by decide) (ad := "[B") (by decide)
  obtain ⟨b1, g1⟩ : ∃ z, z = Array.size h0 := ⟨_, rfl⟩
  rw [← g1] at A1 st1 Ex1
  have G1 : n0 ≤ b1 := Nat.le_trans Z0 (Nat.le_of_eq g1.symm)
  have Z1 : n0 ≤ Array.size h1 := Nat.le_trans Z0 E1.1
  have V1_b1 : ArrL .byte Z h1 b1 [(0 : Int32), (0 : Int32), (0 : Int32), (0 : Int32), (0 : Int32), (0 : Int32), (0 : Int32), (0 : Int32)] := ArrL.new (n := 8) (Arv.new A1 (by decide)) (by decide)
  obtain ⟨_, _, ⟨T2, L2, k2, n2⟩, -, X2, ⟨Lc2, hQ2, l2, y2, z2⟩, st2⟩ := Jvm.LawKit.callS X1 hx (y := (⟨"com/example/packwise/packwise/ByteArraySourceReadBytePinLaw", "at", "(JI)B"⟩ : MethodName)) hown (mvT hZ (hw _ (List.mem_of_getElem? (i := 1) rfl))) (mvT hZ (hw _ (List.mem_of_getElem? (i := 2) rfl))) (mvT hZ (hw _ (List.mem_of_getElem? (i := 3) rfl))) (mvT hZ (hw _ (List.mem_of_getElem? (i := 4) rfl))) (by decide) (backOf (W := 2) (rm1 l Z a0 hw [] q0 (0 : Int32) h1 n0 Z1) hZ (hw _ (List.mem_of_getElem? (i := 4) rfl)) (hw _ (List.mem_of_getElem? (i := 3) rfl)) (by decide) (by decide)) (g := (mkF m 11 #[.val (.long q0), .second, .val (.int p1), .val (.int p2), .val (.int p3), .val (.ref b1), .unset, .unset, .unset, .unset, .unset, .unset, .unset] [(.int (0 : Int32)), (.long q0), (.int (0 : Int32)), (.ref b1)])) rfl (by rw [hml]; rfl) (argsL := [(.long q0), (.int (0 : Int32))]) (rest := [(.int (0 : Int32)), (.ref b1)]) (lenOf pd6 rfl) rfl (by show 2 * 0 + _ ≤ _; exact Nat.le_of_eq rfl) (hb hby at_11) (fun _ _ => ⟨rfl, e1, (by decide : 1 + 0 ≤ _), (by decide : 8 + 0 ≤ _)⟩)
  dsimp only [Pt.U, Pt.locs, Pt.cells, Pt.slots] at X2 l2 y2 z2 st2 hQ2
  subst y2 z2
  obtain ⟨rfl, N2q, e2⟩ := hQ2
  have N2 : Fr n0 L2 := by rw [l2]; exact Fr.app N0 N2q
  obtain ⟨T3, h3, X3, e3, W3, U3, st3⟩ := own_al_stB X2 hx hZ e2 V1_b1 (g := (mkF m 14 #[.val (.long q0), .second, .val (.int p1), .val (.int p2), .val (.int p3), .val (.ref b1), .unset, .unset, .unset, .unset, .unset, .unset, .unset] [(.int (F1_0 q0 (0 : Int32))), (.int (0 : Int32)), (.ref b1)])) (by decide) (Nat.le_of_ble_eq_true rfl) rfl rfl (hb hby at_14)
  have N3 := Fr.snoc X3 N2 G1
  have f3_E_b1 : Exa Z h3 b1 "[B" := Ex1.wr W3
  have Z3 : n0 ≤ Array.size h3 := Nat.le_trans Z1 (Keep.of_wr W3).1
  have V3_b1 : ArrL .byte Z h3 b1 [(nar .byte (F1_0 q0 (0 : Int32))), (0 : Int32), (0 : Int32), (0 : Int32), (0 : Int32), (0 : Int32), (0 : Int32), (0 : Int32)] := U3
  obtain ⟨_, _, ⟨T4, L4, k4, n4⟩, -, X4, ⟨Lc4, hQ4, l4, y4, z4⟩, st4⟩ := Jvm.LawKit.callS X3 hx (y := (⟨"com/example/packwise/packwise/ByteArraySourceReadBytePinLaw", "at", "(JI)B"⟩ : MethodName)) hown (mvT hZ (hw _ (List.mem_of_getElem? (i := 1) rfl))) (mvT hZ (hw _ (List.mem_of_getElem? (i := 2) rfl))) (mvT hZ (hw _ (List.mem_of_getElem? (i := 3) rfl))) (mvT hZ (hw _ (List.mem_of_getElem? (i := 4) rfl))) (by decide) (backOf (W := 2) (rm1 l Z a0 hw [] q0 (1 : Int32) h3 n0 Z3) hZ (hw _ (List.mem_of_getElem? (i := 4) rfl)) (hw _ (List.mem_of_getElem? (i := 3) rfl)) (by decide) (by decide)) (g := (mkF m 20 #[.val (.long q0), .second, .val (.int p1), .val (.int p2), .val (.int p3), .val (.ref b1), .unset, .unset, .unset, .unset, .unset, .unset, .unset] [(.int (1 : Int32)), (.long q0), (.int (1 : Int32)), (.ref b1)])) rfl (by rw [hml]; rfl) (argsL := [(.long q0), (.int (1 : Int32))]) (rest := [(.int (1 : Int32)), (.ref b1)]) (lenOf pd6 rfl) rfl (by show 2 * 0 + _ ≤ _; exact Nat.le_of_eq rfl) (hb hby at_20) (fun _ _ => ⟨rfl, e3, (by decide : 1 + 0 ≤ _), (by decide : 8 + 0 ≤ _)⟩)
  dsimp only [Pt.U, Pt.locs, Pt.cells, Pt.slots] at X4 l4 y4 z4 st4 hQ4
  subst y4 z4
  obtain ⟨rfl, N4q, e4⟩ := hQ4
  have N4 : Fr n0 L4 := by rw [l4]; exact Fr.app N3 N4q
  obtain ⟨T5, h5, X5, e5, W5, U5, st5⟩ := own_al_stB X4 hx hZ e4 V3_b1 (g := (mkF m 23 #[.val (.long q0), .second, .val (.int p1), .val (.int p2), .val (.int p3), .val (.ref b1), .unset, .unset, .unset, .unset, .unset, .unset, .unset] [(.int (F1_0 q0 (1 : Int32))), (.int (1 : Int32)), (.ref b1)])) (by decide) (Nat.le_of_ble_eq_true rfl) rfl rfl (hb hby at_23)
  have N5 := Fr.snoc X5 N4 G1
  have f5_E_b1 : Exa Z h5 b1 "[B" := f3_E_b1.wr W5
  have Z5 : n0 ≤ Array.size h5 := Nat.le_trans Z3 (Keep.of_wr W5).1
  have V5_b1 : ArrL .byte Z h5 b1 [(nar .byte (F1_0 q0 (0 : Int32))), (nar .byte (F1_0 q0 (1 : Int32))), (0 : Int32), (0 : Int32), (0 : Int32), (0 : Int32), (0 : Int32), (0 : Int32)] := U5
  obtain ⟨_, _, ⟨T6, L6, k6, n6⟩, -, X6, ⟨Lc6, hQ6, l6, y6, z6⟩, st6⟩ := Jvm.LawKit.callS X5 hx (y := (⟨"com/example/packwise/packwise/ByteArraySourceReadBytePinLaw", "at", "(JI)B"⟩ : MethodName)) hown (mvT hZ (hw _ (List.mem_of_getElem? (i := 1) rfl))) (mvT hZ (hw _ (List.mem_of_getElem? (i := 2) rfl))) (mvT hZ (hw _ (List.mem_of_getElem? (i := 3) rfl))) (mvT hZ (hw _ (List.mem_of_getElem? (i := 4) rfl))) (by decide) (backOf (W := 2) (rm1 l Z a0 hw [] q0 (2 : Int32) h5 n0 Z5) hZ (hw _ (List.mem_of_getElem? (i := 4) rfl)) (hw _ (List.mem_of_getElem? (i := 3) rfl)) (by decide) (by decide)) (g := (mkF m 29 #[.val (.long q0), .second, .val (.int p1), .val (.int p2), .val (.int p3), .val (.ref b1), .unset, .unset, .unset, .unset, .unset, .unset, .unset] [(.int (2 : Int32)), (.long q0), (.int (2 : Int32)), (.ref b1)])) rfl (by rw [hml]; rfl) (argsL := [(.long q0), (.int (2 : Int32))]) (rest := [(.int (2 : Int32)), (.ref b1)]) (lenOf pd6 rfl) rfl (by show 2 * 0 + _ ≤ _; exact Nat.le_of_eq rfl) (hb hby at_29) (fun _ _ => ⟨rfl, e5, (by decide : 1 + 0 ≤ _), (by decide : 8 + 0 ≤ _)⟩)
  dsimp only [Pt.U, Pt.locs, Pt.cells, Pt.slots] at X6 l6 y6 z6 st6 hQ6
  subst y6 z6
  obtain ⟨rfl, N6q, e6⟩ := hQ6
  have N6 : Fr n0 L6 := by rw [l6]; exact Fr.app N5 N6q
  obtain ⟨T7, h7, X7, e7, W7, U7, st7⟩ := own_al_stB X6 hx hZ e6 V5_b1 (g := (mkF m 32 #[.val (.long q0), .second, .val (.int p1), .val (.int p2), .val (.int p3), .val (.ref b1), .unset, .unset, .unset, .unset, .unset, .unset, .unset] [(.int (F1_0 q0 (2 : Int32))), (.int (2 : Int32)), (.ref b1)])) (by decide) (Nat.le_of_ble_eq_true rfl) rfl rfl (hb hby at_32)
  have N7 := Fr.snoc X7 N6 G1
  have f7_E_b1 : Exa Z h7 b1 "[B" := f5_E_b1.wr W7
  have Z7 : n0 ≤ Array.size h7 := Nat.le_trans Z5 (Keep.of_wr W7).1
  have V7_b1 : ArrL .byte Z h7 b1 [(nar .byte (F1_0 q0 (0 : Int32))), (nar .byte (F1_0 q0 (1 : Int32))), (nar .byte (F1_0 q0 (2 : Int32))), (0 : Int32), (0 : Int32), (0 : Int32), (0 : Int32), (0 : Int32)] := U7
  obtain ⟨_, _, ⟨T8, L8, k8, n8⟩, -, X8, ⟨Lc8, hQ8, l8, y8, z8⟩, st8⟩ := Jvm.LawKit.callS X7 hx (y := (⟨"com/example/packwise/packwise/ByteArraySourceReadBytePinLaw", "at", "(JI)B"⟩ : MethodName)) hown (mvT hZ (hw _ (List.mem_of_getElem? (i := 1) rfl))) (mvT hZ (hw _ (List.mem_of_getElem? (i := 2) rfl))) (mvT hZ (hw _ (List.mem_of_getElem? (i := 3) rfl))) (mvT hZ (hw _ (List.mem_of_getElem? (i := 4) rfl))) (by decide) (backOf (W := 2) (rm1 l Z a0 hw [] q0 (3 : Int32) h7 n0 Z7) hZ (hw _ (List.mem_of_getElem? (i := 4) rfl)) (hw _ (List.mem_of_getElem? (i := 3) rfl)) (by decide) (by decide)) (g := (mkF m 38 #[.val (.long q0), .second, .val (.int p1), .val (.int p2), .val (.int p3), .val (.ref b1), .unset, .unset, .unset, .unset, .unset, .unset, .unset] [(.int (3 : Int32)), (.long q0), (.int (3 : Int32)), (.ref b1)])) rfl (by rw [hml]; rfl) (argsL := [(.long q0), (.int (3 : Int32))]) (rest := [(.int (3 : Int32)), (.ref b1)]) (lenOf pd6 rfl) rfl (by show 2 * 0 + _ ≤ _; exact Nat.le_of_eq rfl) (hb hby at_38) (fun _ _ => ⟨rfl, e7, (by decide : 1 + 0 ≤ _), (by decide : 8 + 0 ≤ _)⟩)
  dsimp only [Pt.U, Pt.locs, Pt.cells, Pt.slots] at X8 l8 y8 z8 st8 hQ8
  subst y8 z8
  obtain ⟨rfl, N8q, e8⟩ := hQ8
  have N8 : Fr n0 L8 := by rw [l8]; exact Fr.app N7 N8q
  obtain ⟨T9, h9, X9, e9, W9, U9, st9⟩ := own_al_stB X8 hx hZ e8 V7_b1 (g := (mkF m 41 #[.val (.long q0), .second, .val (.int p1), .val (.int p2), .val (.int p3), .val (.ref b1), .unset, .unset, .unset, .unset, .unset, .unset, .unset] [(.int (F1_0 q0 (3 : Int32))), (.int (3 : Int32)), (.ref b1)])) (by decide) (Nat.le_of_ble_eq_true rfl) rfl rfl (hb hby at_41)
  have N9 := Fr.snoc X9 N8 G1
  have f9_E_b1 : Exa Z h9 b1 "[B" := f7_E_b1.wr W9
  have Z9 : n0 ≤ Array.size h9 := Nat.le_trans Z7 (Keep.of_wr W9).1
  have V9_b1 : ArrL .byte Z h9 b1 [(nar .byte (F1_0 q0 (0 : Int32))), (nar .byte (F1_0 q0 (1 : Int32))), (nar .byte (F1_0 q0 (2 : Int32))), (nar .byte (F1_0 q0 (3 : Int32))), (0 : Int32), (0 : Int32), (0 : Int32), (0 : Int32)] := U9
  obtain ⟨_, _, ⟨T10, L10, k10, n10⟩, -, X10, ⟨Lc10, hQ10, l10, y10, z10⟩, st10⟩ := Jvm.LawKit.callS X9 hx (y := (⟨"com/example/packwise/packwise/ByteArraySourceReadBytePinLaw", "at", "(JI)B"⟩ : MethodName)) hown (mvT hZ (hw _ (List.mem_of_getElem? (i := 1) rfl))) (mvT hZ (hw _ (List.mem_of_getElem? (i := 2) rfl))) (mvT hZ (hw _ (List.mem_of_getElem? (i := 3) rfl))) (mvT hZ (hw _ (List.mem_of_getElem? (i := 4) rfl))) (by decide) (backOf (W := 2) (rm1 l Z a0 hw [] q0 (4 : Int32) h9 n0 Z9) hZ (hw _ (List.mem_of_getElem? (i := 4) rfl)) (hw _ (List.mem_of_getElem? (i := 3) rfl)) (by decide) (by decide)) (g := (mkF m 47 #[.val (.long q0), .second, .val (.int p1), .val (.int p2), .val (.int p3), .val (.ref b1), .unset, .unset, .unset, .unset, .unset, .unset, .unset] [(.int (4 : Int32)), (.long q0), (.int (4 : Int32)), (.ref b1)])) rfl (by rw [hml]; rfl) (argsL := [(.long q0), (.int (4 : Int32))]) (rest := [(.int (4 : Int32)), (.ref b1)]) (lenOf pd6 rfl) rfl (by show 2 * 0 + _ ≤ _; exact Nat.le_of_eq rfl) (hb hby at_47) (fun _ _ => ⟨rfl, e9, (by decide : 1 + 0 ≤ _), (by decide : 8 + 0 ≤ _)⟩)
  dsimp only [Pt.U, Pt.locs, Pt.cells, Pt.slots] at X10 l10 y10 z10 st10 hQ10
  subst y10 z10
  obtain ⟨rfl, N10q, e10⟩ := hQ10
  have N10 : Fr n0 L10 := by rw [l10]; exact Fr.app N9 N10q
  obtain ⟨T11, h11, X11, e11, W11, U11, st11⟩ := own_al_stB X10 hx hZ e10 V9_b1 (g := (mkF m 50 #[.val (.long q0), .second, .val (.int p1), .val (.int p2), .val (.int p3), .val (.ref b1), .unset, .unset, .unset, .unset, .unset, .unset, .unset] [(.int (F1_0 q0 (4 : Int32))), (.int (4 : Int32)), (.ref b1)])) (by decide) (Nat.le_of_ble_eq_true rfl) rfl rfl (hb hby at_50)
  have N11 := Fr.snoc X11 N10 G1
  have f11_E_b1 : Exa Z h11 b1 "[B" := f9_E_b1.wr W11
  have Z11 : n0 ≤ Array.size h11 := Nat.le_trans Z9 (Keep.of_wr W11).1
  have V11_b1 : ArrL .byte Z h11 b1 [(nar .byte (F1_0 q0 (0 : Int32))), (nar .byte (F1_0 q0 (1 : Int32))), (nar .byte (F1_0 q0 (2 : Int32))), (nar .byte (F1_0 q0 (3 : Int32))), (nar .byte (F1_0 q0 (4 : Int32))), (0 : Int32), (0 : Int32), (0 : Int32)] := U11
  obtain ⟨_, _, ⟨T12, L12, k12, n12⟩, -, X12, ⟨Lc12, hQ12, l12, y12, z12⟩, st12⟩ := Jvm.LawKit.callS X11 hx (y := (⟨"com/example/packwise/packwise/ByteArraySourceReadBytePinLaw", "at", "(JI)B"⟩ : MethodName)) hown (mvT hZ (hw _ (List.mem_of_getElem? (i := 1) rfl))) (mvT hZ (hw _ (List.mem_of_getElem? (i := 2) rfl))) (mvT hZ (hw _ (List.mem_of_getElem? (i := 3) rfl))) (mvT hZ (hw _ (List.mem_of_getElem? (i := 4) rfl))) (by decide) (backOf (W := 2) (rm1 l Z a0 hw [] q0 (5 : Int32) h11 n0 Z11) hZ (hw _ (List.mem_of_getElem? (i := 4) rfl)) (hw _ (List.mem_of_getElem? (i := 3) rfl)) (by decide) (by decide)) (g := (mkF m 56 #[.val (.long q0), .second, .val (.int p1), .val (.int p2), .val (.int p3), .val (.ref b1), .unset, .unset, .unset, .unset, .unset, .unset, .unset] [(.int (5 : Int32)), (.long q0), (.int (5 : Int32)), (.ref b1)])) rfl (by rw [hml]; rfl) (argsL := [(.long q0), (.int (5 : Int32))]) (rest := [(.int (5 : Int32)), (.ref b1)]) (lenOf pd6 rfl) rfl (by show 2 * 0 + _ ≤ _; exact Nat.le_of_eq rfl) (hb hby at_56) (fun _ _ => ⟨rfl, e11, (by decide : 1 + 0 ≤ _), (by decide : 8 + 0 ≤ _)⟩)
  dsimp only [Pt.U, Pt.locs, Pt.cells, Pt.slots] at X12 l12 y12 z12 st12 hQ12
  subst y12 z12
  obtain ⟨rfl, N12q, e12⟩ := hQ12
  have N12 : Fr n0 L12 := by rw [l12]; exact Fr.app N11 N12q
  obtain ⟨T13, h13, X13, e13, W13, U13, st13⟩ := own_al_stB X12 hx hZ e12 V11_b1 (g := (mkF m 59 #[.val (.long q0), .second, .val (.int p1), .val (.int p2), .val (.int p3), .val (.ref b1), .unset, .unset, .unset, .unset, .unset, .unset, .unset] [(.int (F1_0 q0 (5 : Int32))), (.int (5 : Int32)), (.ref b1)])) (by decide) (Nat.le_of_ble_eq_true rfl) rfl rfl (hb hby at_59)
  have N13 := Fr.snoc X13 N12 G1
  have f13_E_b1 : Exa Z h13 b1 "[B" := f11_E_b1.wr W13
  have Z13 : n0 ≤ Array.size h13 := Nat.le_trans Z11 (Keep.of_wr W13).1
  have V13_b1 : ArrL .byte Z h13 b1 [(nar .byte (F1_0 q0 (0 : Int32))), (nar .byte (F1_0 q0 (1 : Int32))), (nar .byte (F1_0 q0 (2 : Int32))), (nar .byte (F1_0 q0 (3 : Int32))), (nar .byte (F1_0 q0 (4 : Int32))), (nar .byte (F1_0 q0 (5 : Int32))), (0 : Int32), (0 : Int32)] := U13
  obtain ⟨_, _, ⟨T14, L14, k14, n14⟩, -, X14, ⟨Lc14, hQ14, l14, y14, z14⟩, st14⟩ := Jvm.LawKit.callS X13 hx (y := (⟨"com/example/packwise/packwise/ByteArraySourceReadBytePinLaw", "at", "(JI)B"⟩ : MethodName)) hown (mvT hZ (hw _ (List.mem_of_getElem? (i := 1) rfl))) (mvT hZ (hw _ (List.mem_of_getElem? (i := 2) rfl))) (mvT hZ (hw _ (List.mem_of_getElem? (i := 3) rfl))) (mvT hZ (hw _ (List.mem_of_getElem? (i := 4) rfl))) (by decide) (backOf (W := 2) (rm1 l Z a0 hw [] q0 (6 : Int32) h13 n0 Z13) hZ (hw _ (List.mem_of_getElem? (i := 4) rfl)) (hw _ (List.mem_of_getElem? (i := 3) rfl)) (by decide) (by decide)) (g := (mkF m 67 #[.val (.long q0), .second, .val (.int p1), .val (.int p2), .val (.int p3), .val (.ref b1), .unset, .unset, .unset, .unset, .unset, .unset, .unset] [(.int (6 : Int32)), (.long q0), (.int (6 : Int32)), (.ref b1)])) rfl (by rw [hml]; rfl) (argsL := [(.long q0), (.int (6 : Int32))]) (rest := [(.int (6 : Int32)), (.ref b1)]) (lenOf pd6 rfl) rfl (by show 2 * 0 + _ ≤ _; exact Nat.le_of_eq rfl) (hb hby at_67) (fun _ _ => ⟨rfl, e13, (by decide : 1 + 0 ≤ _), (by decide : 8 + 0 ≤ _)⟩)
  dsimp only [Pt.U, Pt.locs, Pt.cells, Pt.slots] at X14 l14 y14 z14 st14 hQ14
  subst y14 z14
  obtain ⟨rfl, N14q, e14⟩ := hQ14
  have N14 : Fr n0 L14 := by rw [l14]; exact Fr.app N13 N14q
  obtain ⟨T15, h15, X15, e15, W15, U15, st15⟩ := own_al_stB X14 hx hZ e14 V13_b1 (g := (mkF m 70 #[.val (.long q0), .second, .val (.int p1), .val (.int p2), .val (.int p3), .val (.ref b1), .unset, .unset, .unset, .unset, .unset, .unset, .unset] [(.int (F1_0 q0 (6 : Int32))), (.int (6 : Int32)), (.ref b1)])) (by decide) (Nat.le_of_ble_eq_true rfl) rfl rfl (hb hby at_70)
  have N15 := Fr.snoc X15 N14 G1
  have f15_E_b1 : Exa Z h15 b1 "[B" := f13_E_b1.wr W15
  have Z15 : n0 ≤ Array.size h15 := Nat.le_trans Z13 (Keep.of_wr W15).1
  have V15_b1 : ArrL .byte Z h15 b1 [(nar .byte (F1_0 q0 (0 : Int32))), (nar .byte (F1_0 q0 (1 : Int32))), (nar .byte (F1_0 q0 (2 : Int32))), (nar .byte (F1_0 q0 (3 : Int32))), (nar .byte (F1_0 q0 (4 : Int32))), (nar .byte (F1_0 q0 (5 : Int32))), (nar .byte (F1_0 q0 (6 : Int32))), (0 : Int32)] := U15
  obtain ⟨_, _, ⟨T16, L16, k16, n16⟩, -, X16, ⟨Lc16, hQ16, l16, y16, z16⟩, st16⟩ := Jvm.LawKit.callS X15 hx (y := (⟨"com/example/packwise/packwise/ByteArraySourceReadBytePinLaw", "at", "(JI)B"⟩ : MethodName)) hown (mvT hZ (hw _ (List.mem_of_getElem? (i := 1) rfl))) (mvT hZ (hw _ (List.mem_of_getElem? (i := 2) rfl))) (mvT hZ (hw _ (List.mem_of_getElem? (i := 3) rfl))) (mvT hZ (hw _ (List.mem_of_getElem? (i := 4) rfl))) (by decide) (backOf (W := 2) (rm1 l Z a0 hw [] q0 (7 : Int32) h15 n0 Z15) hZ (hw _ (List.mem_of_getElem? (i := 4) rfl)) (hw _ (List.mem_of_getElem? (i := 3) rfl)) (by decide) (by decide)) (g := (mkF m 78 #[.val (.long q0), .second, .val (.int p1), .val (.int p2), .val (.int p3), .val (.ref b1), .unset, .unset, .unset, .unset, .unset, .unset, .unset] [(.int (7 : Int32)), (.long q0), (.int (7 : Int32)), (.ref b1)])) rfl (by rw [hml]; rfl) (argsL := [(.long q0), (.int (7 : Int32))]) (rest := [(.int (7 : Int32)), (.ref b1)]) (lenOf pd6 rfl) rfl (by show 2 * 0 + _ ≤ _; exact Nat.le_of_eq rfl) (hb hby at_78) (fun _ _ => ⟨rfl, e15, (by decide : 1 + 0 ≤ _), (by decide : 8 + 0 ≤ _)⟩)
  dsimp only [Pt.U, Pt.locs, Pt.cells, Pt.slots] at X16 l16 y16 z16 st16 hQ16
  subst y16 z16
  obtain ⟨rfl, N16q, e16⟩ := hQ16
  have N16 : Fr n0 L16 := by rw [l16]; exact Fr.app N15 N16q
  obtain ⟨T17, h17, X17, e17, W17, U17, st17⟩ := own_al_stB X16 hx hZ e16 V15_b1 (g := (mkF m 81 #[.val (.long q0), .second, .val (.int p1), .val (.int p2), .val (.int p3), .val (.ref b1), .unset, .unset, .unset, .unset, .unset, .unset, .unset] [(.int (F1_0 q0 (7 : Int32))), (.int (7 : Int32)), (.ref b1)])) (by decide) (Nat.le_of_ble_eq_true rfl) rfl rfl (hb hby at_81)
  have N17 := Fr.snoc X17 N16 G1
  have f17_E_b1 : Exa Z h17 b1 "[B" := f15_E_b1.wr W17
  have Z17 : n0 ≤ Array.size h17 := Nat.le_trans Z15 (Keep.of_wr W17).1
  have V17_b1 : ArrL .byte Z h17 b1 [(nar .byte (F1_0 q0 (0 : Int32))), (nar .byte (F1_0 q0 (1 : Int32))), (nar .byte (F1_0 q0 (2 : Int32))), (nar .byte (F1_0 q0 (3 : Int32))), (nar .byte (F1_0 q0 (4 : Int32))), (nar .byte (F1_0 q0 (5 : Int32))), (nar .byte (F1_0 q0 (6 : Int32))), (nar .byte (F1_0 q0 (7 : Int32)))] := U17
  have Vb : ArrL .byte Z h17 b1 (bys q0) := V17_b1
  obtain ⟨_, _, ⟨T18, L18, k18, n18⟩, -, X18, ⟨Lc18, hQ18, l18, y18, z18⟩, st18⟩ := Jvm.LawKit.callS X17 hx (y := (⟨"java/lang/Math", "min", "(II)I"⟩ : MethodName)) hown (mvT hZ (hw _ (List.mem_of_getElem? (i := 6) rfl))) (mvT hZ (hw _ (List.mem_of_getElem? (i := 7) rfl))) (mvT hZ (hw _ (List.mem_of_getElem? (i := 8) rfl))) (mvT hZ (hw _ (List.mem_of_getElem? (i := 9) rfl))) (by decide) (backOf (W := 0) (rm2 l Z a0 hw [] ((p3 &&& (7 : Int32)) - ((p3 &&& (7 : Int32)) / (5 : Int32)) * (5 : Int32)) (vLen p1 p2) h17 n0 Z17) hZ (hw _ (List.mem_of_getElem? (i := 9) rfl)) (hw _ (List.mem_of_getElem? (i := 8) rfl)) (by decide) (by decide)) (g := (mkF m 112 #[.val (.long q0), .second, .val (.int p1), .val (.int p2), .val (.int p3), .val (.ref b1), .val (.int (vO p1)), .val (.int (vLen p1 p2)), .unset, .unset, .unset, .unset, .unset] [(.int (vLen p1 p2)), (.int ((p3 &&& (7 : Int32)) - ((p3 &&& (7 : Int32)) / (5 : Int32)) * (5 : Int32)))])) rfl (by rw [hml]; rfl) (argsL := [(.int ((p3 &&& (7 : Int32)) - ((p3 &&& (7 : Int32)) / (5 : Int32)) * (5 : Int32))), (.int (vLen p1 p2))]) (rest := []) (lenOf pd7 rfl) rfl (by show 2 * 0 + _ ≤ _; exact Nat.le_of_eq rfl) (hb hby at_112) (fun _ _ => ⟨rfl, e17, (by decide : 1 + 0 ≤ _), (by decide : 8 + 0 ≤ _)⟩)
  dsimp only [Pt.U, Pt.locs, Pt.cells, Pt.slots] at X18 l18 y18 z18 st18 hQ18
  subst y18 z18
  obtain ⟨rfl, N18q, e18⟩ := hQ18
  have N18 : Fr n0 L18 := by rw [l18]; exact Fr.app N17 N18q
  obtain ⟨T19, h19, X19, e19, E19, A19, D19, -, st19⟩ := newO X18 hx hZ hown (hw _ (List.mem_of_getElem? (i := 10) rfl)) (hw _ (List.mem_of_getElem? (i := 11) rfl)) (hw _ (List.mem_of_getElem? (i := 12) rfl)) e18 (g := (mkF m 117 #[.val (.long q0), .second, .val (.int p1), .val (.int p2), .val (.int p3), .val (.ref b1), .val (.int (vO p1)), .val (.int (vLen p1 p2)), .val (.int (vN p1 p2 p3)), .unset, .unset, .unset, .unset] [])) rfl (hb hby at_117) (by decide) (by decide)
  obtain ⟨b19, g19⟩ : ∃ z, z = Array.size h17 := ⟨_, rfl⟩
  rw [← g19] at A19 D19 st19
  have G19 : n0 ≤ b19 := Nat.le_trans Z17 (Nat.le_of_eq g19.symm)
  have ne_b1_b19 : b1 ≠ b19 := Nat.ne_of_lt (Nat.lt_of_lt_of_le f17_E_b1.lt (Nat.le_of_eq g19.symm))
  have f19_E_b1 : Exa Z h19 b1 "[B" := f17_E_b1.ext E19
  have f19_V_b1 : ArrL .byte Z h19 b1 (bys q0) := Vb.ext E19
  have Z19 : n0 ≤ Array.size h19 := Nat.le_trans Z17 E19.1
  have F19_bytes : Fld Z h19 b19 "com/example/packwise/packwise/ByteArraySource" "bytes" "[B" .null := D19 (Or.inr (hw _ (List.mem_of_getElem? (i := 47) rfl))) (ty := (.array .byte)) (by decide)
  have F19_end : Fld Z h19 b19 "com/example/packwise/packwise/ByteArraySource" "end" "I" (.int (0 : Int32)) := D19 (Or.inr (hw _ (List.mem_of_getElem? (i := 49) rfl))) (ty := .int) (by decide)
  have F19_position : Fld Z h19 b19 "com/example/packwise/packwise/ByteArraySource" "position" "I" (.int (0 : Int32)) := D19 (Or.inl (hw _ (List.mem_of_getElem? (i := 51) rfl))) (ty := .int) (by decide)
  obtain ⟨_, _, ⟨T20, L20, k20, n20⟩, -, X20', S20', hge20, ⟨Lc20, hQ20, l20, y20, z20⟩, st20⟩ := X19.specialBackS hx (y := (⟨"com/example/packwise/packwise/ByteArraySource", "<init>", "([BII)V"⟩ : MethodName)) rfl hown (mvT hZ (hw _ (List.mem_of_getElem? (i := 13) rfl))) (mvT hZ (hw _ (List.mem_of_getElem? (i := 14) rfl))) (mvT hZ (hw _ (List.mem_of_getElem? (i := 15) rfl))) (by decide) (backOfS (W := 1) (rm3 l Z a0 hw [] b19 b1 (vO p1) (vLen p1 p2) (bys q0) h19 n0 Z19 A19 F19_bytes F19_end F19_position G19 f19_E_b1 f19_V_b1 (Ne.symm ne_b1_b19) rfl (own_q1 p1) (own_q2 p1 p2) (own_q3 p1 p2)) hZ (hw _ (List.mem_of_getElem? (i := 15) rfl)) (hw _ (List.mem_of_getElem? (i := 12) rfl)) (by decide) (by decide)) (g := (mkF m 127 #[.val (.long q0), .second, .val (.int p1), .val (.int p2), .val (.int p3), .val (.ref b1), .val (.int (vO p1)), .val (.int (vLen p1 p2)), .val (.int (vN p1 p2 p3)), .unset, .unset, .unset, .unset] [(.int (vLen p1 p2)), (.int (vO p1)), (.ref b1), (.ref b19), (.ref b19)])) rfl (by rw [hml]; rfl) (Steps.refl _) (a := b19) (argsL := [(.ref b1), (.int (vO p1)), (.int (vLen p1 p2))]) (rest := [(.ref b19)]) (lenOf pd3 rfl) rfl (by show 2 * 0 + _ ≤ _; exact Nat.le_of_eq rfl) (hb hby at_127) (fun _ _ => ⟨rfl, e19, (by decide : 2 + 4 ≤ _), (by decide : 11 + 48 ≤ _)⟩)
  dsimp only [Pt.U, Pt.locs, Pt.cells, Pt.slots] at X20' S20' hge20 l20 y20 z20 st20 hQ20
  subst y20 z20
  obtain ⟨X20, S20, hZ20, hown20⟩ := rebS (s := s) (vm0 := s.vm) ((State.WarmedH.refl s).since 0) (Nat.zero_le _) X20' S20' hge20 hZ hown
  obtain ⟨rfl, N20q, K20, Ec20, Fc20_bytes, Fc20_end, Fc20_position⟩ := hQ20
  have f20_E_b1 : Exa Z T20.heap b1 "[B" := f19_E_b1.keep K20
  have f20_V_b1 : ArrL .byte Z T20.heap b1 (bys q0) := f19_V_b1.keep K20 (ninS ne_b1_b19 nin0)
  have Z20 : n0 ≤ Array.size T20.heap := Nat.le_trans Z19 K20.1
  have N20 : Fr n0 L20 := by rw [l20]; exact Fr.app N18 N20q
  obtain ⟨cq21, kq21, q21a, q21b, q21c⟩ := isOf hZ20 rfl Ec20
  obtain ⟨_, _, ⟨T21, L21, k21, n21⟩, -, X21, ⟨Lc21, hQ21, l21, y21, z21⟩, st21⟩ := X20.virtualBack hx (y := (⟨"com/example/packwise/packwise/ByteArraySource", "readByte", "()B"⟩ : MethodName)) (z := (⟨"com/example/packwise/packwise/ByteArraySource", "readByte", "()B"⟩ : MethodName)) hown20 (mvT hZ20 (hw _ (List.mem_of_getElem? (i := 65) rfl))) (mvT hZ20 (hw _ (List.mem_of_getElem? (i := 66) rfl))) (notFace_of_selects (args := #[]) (mvT hZ20 (hw _ (List.mem_of_getElem? (i := 68) rfl)))) (mvT hZ20 (hw _ (List.mem_of_getElem? (i := 68) rfl))) (mvT hZ20 (hw _ (List.mem_of_getElem? (i := 67) rfl))) (by decide) (backOf (W := 0) (rm12 l Z a0 hw [] b19 b1 ((vO p1) + (vLen p1 p2)) (vO p1) (bys q0) T20.heap n0 Z20 Ec20 Fc20_bytes Fc20_end Fc20_position G19 f20_V_b1 (Ne.symm ne_b1_b19) (own_in0 q0 p1 p2 p3 hc138) (own_ne0 p1 p2 p3 hc138)) hZ20 (hw _ (List.mem_of_getElem? (i := 69) rfl)) (hw _ (List.mem_of_getElem? (i := 12) rfl)) (by decide) (by decide)) q21a q21c (g := (mkF m 148 #[.val (.long q0), .second, .val (.int p1), .val (.int p2), .val (.int p3), .val (.ref b1), .val (.int (vO p1)), .val (.int (vLen p1 p2)), .val (.int (vN p1 p2 p3)), .val (.ref b19), .val (.int (1 : Int32)), .unset, .unset] [(.ref b19)])) rfl (by rw [hml]; rfl) (Steps.refl _) (argsL := []) (rest := []) (lenOf pd9 rfl) rfl (by show 2 * 0 + _ ≤ _; exact Nat.le_of_eq rfl) (hb hby at_148) (fun _ _ => ⟨rfl, rfl, (by decide : 6 + 0 ≤ _), (by decide : 59 + 0 ≤ _)⟩)
  dsimp only [Pt.U, Pt.locs, Pt.cells, Pt.slots] at X21 l21 y21 z21 st21 hQ21
  subst y21 z21
  obtain ⟨rfl, N21q, K21, Em21, Fm21_bytes, Fm21_end, Fm21_position⟩ := hQ21
  have f21_E_b1 : Exa Z T21.heap b1 "[B" := f20_E_b1.keep K21
  have f21_V_b1 : ArrL .byte Z T21.heap b1 (bys q0) := f20_V_b1.keep K21 (ninS ne_b1_b19 nin0)
  have Z21 : n0 ≤ Array.size T21.heap := Nat.le_trans Z20 K21.1
  have kp21 : T20.heap.size ≤ Array.size T21.heap := Nat.le_trans (Nat.le_refl _) K21.1
  have N21 : Fr n0 L21 := by rw [l21]; exact Fr.app N20 N21q
  obtain ⟨_, _, ⟨T22, L22, k22, n22⟩, -, X22, ⟨Lc22, hQ22, l22, y22, z22⟩, st22⟩ := Jvm.LawKit.callS X21 hx (y := (⟨"com/example/packwise/packwise/ByteArraySourceReadBytePinLaw", "at", "(JI)B"⟩ : MethodName)) hown20 (mvT hZ20 (hw _ (List.mem_of_getElem? (i := 1) rfl))) (mvT hZ20 (hw _ (List.mem_of_getElem? (i := 2) rfl))) (mvT hZ20 (hw _ (List.mem_of_getElem? (i := 3) rfl))) (mvT hZ20 (hw _ (List.mem_of_getElem? (i := 4) rfl))) (by decide) (backOf (W := 1) (rm1 l Z a0 hw [] q0 (vO p1) T21.heap n0 Z21) hZ20 (hw _ (List.mem_of_getElem? (i := 4) rfl)) (hw _ (List.mem_of_getElem? (i := 3) rfl)) (by decide) (by decide)) (g := (mkF m 154 #[.val (.long q0), .second, .val (.int p1), .val (.int p2), .val (.int p3), .val (.ref b1), .val (.int (vO p1)), .val (.int (vLen p1 p2)), .val (.int (vN p1 p2 p3)), .val (.ref b19), .val (.int (1 : Int32)), .unset, .unset] [(.int (vO p1)), (.long q0), (.int (((bys q0).getD (vO p1).toNatClampNeg 0).toInt8.toInt32))])) rfl (by rw [hml]; rfl) (argsL := [(.long q0), (.int (vO p1))]) (rest := [(.int (((bys q0).getD (vO p1).toNatClampNeg 0).toInt8.toInt32))]) (lenOf pd6 rfl) rfl (by show 2 * 0 + _ ≤ _; exact Nat.le_of_eq rfl) (hb hby at_154) (fun _ _ => ⟨rfl, rfl, (by decide : 6 + 0 ≤ _), (by decide : 59 + 0 ≤ _)⟩)
  dsimp only [Pt.U, Pt.locs, Pt.cells, Pt.slots] at X22 l22 y22 z22 st22 hQ22
  subst y22 z22
  obtain ⟨rfl, N22q, e22⟩ := hQ22
  have N22 : Fr n0 L22 := by rw [l22]; exact Fr.app N21 N22q
  obtain ⟨cq23, kq23, q23a, q23b, q23c⟩ := isOf hZ20 e22 Em21
  obtain ⟨_, _, ⟨T23, L23, k23, n23⟩, -, X23, ⟨Lc23, hQ23, l23, y23, z23⟩, st23⟩ := X22.virtualBack hx (y := (⟨"com/example/packwise/packwise/ByteArraySource", "skipBytes", "(J)J"⟩ : MethodName)) (z := (⟨"com/example/packwise/packwise/ByteArraySource", "skipBytes", "(J)J"⟩ : MethodName)) hown20 (mvT hZ20 (hw _ (List.mem_of_getElem? (i := 53) rfl))) (mvT hZ20 (hw _ (List.mem_of_getElem? (i := 54) rfl))) (notFace_of_selects (args := #[]) (mvT hZ20 (hw _ (List.mem_of_getElem? (i := 56) rfl)))) (mvT hZ20 (hw _ (List.mem_of_getElem? (i := 56) rfl))) (mvT hZ20 (hw _ (List.mem_of_getElem? (i := 55) rfl))) (by decide) (backOf (W := 0) (rm9 l Z a0 hw [] b19 (8 : Int64) ((vO p1) + (vLen p1 p2)) ((vO p1) + (1 : Int32)) T21.heap n0 Z21 Em21 Fm21_end Fm21_position G19 (by decide)) hZ20 (hw _ (List.mem_of_getElem? (i := 57) rfl)) (hw _ (List.mem_of_getElem? (i := 12) rfl)) (by decide) (by decide)) q23a q23c (g := (mkF m 274 #[.val (.long q0), .second, .val (.int p1), .val (.int p2), .val (.int p3), .val (.ref b1), .val (.int (vO p1)), .val (.int (vLen p1 p2)), .val (.int (vN p1 p2 p3)), .val (.ref b19), .val (.int (1 : Int32)), .unset, .unset] [(.long (8 : Int64)), (.ref b19)])) rfl (by rw [hml]; rfl) (Steps.refl _) (argsL := [(.long (8 : Int64))]) (rest := []) (lenOf pd8 rfl) rfl (by show 2 * 0 + _ ≤ _; exact Nat.le_of_eq rfl) (hb hby at_274) (fun _ _ => ⟨rfl, e22, (by decide : 6 + 0 ≤ _), (by decide : 59 + 0 ≤ _)⟩)
  dsimp only [Pt.U, Pt.locs, Pt.cells, Pt.slots] at X23 l23 y23 z23 st23 hQ23
  subst y23 z23
  obtain ⟨rfl, N23q, K23, Em23, Fm23_end, Fm23_position⟩ := hQ23
  have f23_E_b1 : Exa Z T23.heap b1 "[B" := f21_E_b1.keep K23
  have f23_V_b1 : ArrL .byte Z T23.heap b1 (bys q0) := f21_V_b1.keep K23 (ninS ne_b1_b19 nin0)
  have Z23 : n0 ≤ Array.size T23.heap := Nat.le_trans Z21 K23.1
  have kp23 : T20.heap.size ≤ Array.size T23.heap := Nat.le_trans kp21 K23.1
  have N23 : Fr n0 L23 := by rw [l23]; exact Fr.app N22 N23q
  obtain ⟨fs, hr, hrun, hended, hEnd⟩ := X23.leaveW (s := s) (vm₁ := T20.vm) S20 kp23 (v := some (.int (1 : Int32))) (fun h => by rw [Bd.returns] at h; cases h)
  refine ⟨_, _, pre0 _ ?_, hrun, hended, _, _, rfl, ⟨rfl, N23⟩, hEnd.1, hEnd.2.1, hEnd.2.2.1, hEnd.2.2.2.mono (by decide) (by decide)⟩
  show Steps p.tables e below (s₁.setTop (mkF m 0 #[.val (.long q0), .second, .val (.int p1), .val (.int p2), .val (.int p3), .unset, .unset, .unset, .unset, .unset, .unset, .unset, .unset] [])) _
  refine XS.bipush X0.here hx rfl (hb hby at_0) ?_
  show Steps p.tables e below (s₁.setTop (mkF m 2 #[.val (.long q0), .second, .val (.int p1), .val (.int p2), .val (.int p3), .unset, .unset, .unset, .unset, .unset, .unset, .unset, .unset] [(.int (8 : Int32))])) _
  refine st1 _ ?_
  show Steps p.tables e below (T1.setTop (mkF m 4 #[.val (.long q0), .second, .val (.int p1), .val (.int p2), .val (.int p3), .unset, .unset, .unset, .unset, .unset, .unset, .unset, .unset] [(.ref b1)])) _
  refine XS.astore X1.here hx rfl (hb hby at_4) rfl rfl (l' := #[.val (.long q0), .second, .val (.int p1), .val (.int p2), .val (.int p3), .val (.ref b1), .unset, .unset, .unset, .unset, .unset, .unset, .unset]) rfl ?_
  show Steps p.tables e below (T1.setTop (mkF m 6 #[.val (.long q0), .second, .val (.int p1), .val (.int p2), .val (.int p3), .val (.ref b1), .unset, .unset, .unset, .unset, .unset, .unset, .unset] [])) _
  refine XS.aload X1.here hx rfl (hb hby at_6) rfl rfl ?_
  show Steps p.tables e below (T1.setTop (mkF m 8 #[.val (.long q0), .second, .val (.int p1), .val (.int p2), .val (.int p3), .val (.ref b1), .unset, .unset, .unset, .unset, .unset, .unset, .unset] [(.ref b1)])) _
  refine XS.iconst X1.here hx rfl (hb hby at_8) ?_
  show Steps p.tables e below (T1.setTop (mkF m 9 #[.val (.long q0), .second, .val (.int p1), .val (.int p2), .val (.int p3), .val (.ref b1), .unset, .unset, .unset, .unset, .unset, .unset, .unset] [(.int (0 : Int32)), (.ref b1)])) _
  refine XS.lloadN X1.here hx rfl (hb hby at_9) rfl ?_
  show Steps p.tables e below (T1.setTop (mkF m 10 #[.val (.long q0), .second, .val (.int p1), .val (.int p2), .val (.int p3), .val (.ref b1), .unset, .unset, .unset, .unset, .unset, .unset, .unset] [(.long q0), (.int (0 : Int32)), (.ref b1)])) _
  refine XS.iconst X1.here hx rfl (hb hby at_10) ?_
  show Steps p.tables e below (T1.setTop (mkF m 11 #[.val (.long q0), .second, .val (.int p1), .val (.int p2), .val (.int p3), .val (.ref b1), .unset, .unset, .unset, .unset, .unset, .unset, .unset] [(.int (0 : Int32)), (.long q0), (.int (0 : Int32)), (.ref b1)])) _
  refine st2 _ ?_
  show Steps p.tables e below (T2.setTop (mkF m 14 #[.val (.long q0), .second, .val (.int p1), .val (.int p2), .val (.int p3), .val (.ref b1), .unset, .unset, .unset, .unset, .unset, .unset, .unset] [(.int (F1_0 q0 (0 : Int32))), (.int (0 : Int32)), (.ref b1)])) _
  refine st3 _ ?_
  show Steps p.tables e below (T3.setTop (mkF m 15 #[.val (.long q0), .second, .val (.int p1), .val (.int p2), .val (.int p3), .val (.ref b1), .unset, .unset, .unset, .unset, .unset, .unset, .unset] [])) _
  refine XS.aload X3.here hx rfl (hb hby at_15) rfl rfl ?_
  show Steps p.tables e below (T3.setTop (mkF m 17 #[.val (.long q0), .second, .val (.int p1), .val (.int p2), .val (.int p3), .val (.ref b1), .unset, .unset, .unset, .unset, .unset, .unset, .unset] [(.ref b1)])) _
  refine XS.iconst X3.here hx rfl (hb hby at_17) ?_
  show Steps p.tables e below (T3.setTop (mkF m 18 #[.val (.long q0), .second, .val (.int p1), .val (.int p2), .val (.int p3), .val (.ref b1), .unset, .unset, .unset, .unset, .unset, .unset, .unset] [(.int (1 : Int32)), (.ref b1)])) _
  refine XS.lloadN X3.here hx rfl (hb hby at_18) rfl ?_
  show Steps p.tables e below (T3.setTop (mkF m 19 #[.val (.long q0), .second, .val (.int p1), .val (.int p2), .val (.int p3), .val (.ref b1), .unset, .unset, .unset, .unset, .unset, .unset, .unset] [(.long q0), (.int (1 : Int32)), (.ref b1)])) _
  refine XS.iconst X3.here hx rfl (hb hby at_19) ?_
  show Steps p.tables e below (T3.setTop (mkF m 20 #[.val (.long q0), .second, .val (.int p1), .val (.int p2), .val (.int p3), .val (.ref b1), .unset, .unset, .unset, .unset, .unset, .unset, .unset] [(.int (1 : Int32)), (.long q0), (.int (1 : Int32)), (.ref b1)])) _
  refine st4 _ ?_
  show Steps p.tables e below (T4.setTop (mkF m 23 #[.val (.long q0), .second, .val (.int p1), .val (.int p2), .val (.int p3), .val (.ref b1), .unset, .unset, .unset, .unset, .unset, .unset, .unset] [(.int (F1_0 q0 (1 : Int32))), (.int (1 : Int32)), (.ref b1)])) _
  refine st5 _ ?_
  show Steps p.tables e below (T5.setTop (mkF m 24 #[.val (.long q0), .second, .val (.int p1), .val (.int p2), .val (.int p3), .val (.ref b1), .unset, .unset, .unset, .unset, .unset, .unset, .unset] [])) _
  refine XS.aload X5.here hx rfl (hb hby at_24) rfl rfl ?_
  show Steps p.tables e below (T5.setTop (mkF m 26 #[.val (.long q0), .second, .val (.int p1), .val (.int p2), .val (.int p3), .val (.ref b1), .unset, .unset, .unset, .unset, .unset, .unset, .unset] [(.ref b1)])) _
  refine XS.iconst X5.here hx rfl (hb hby at_26) ?_
  show Steps p.tables e below (T5.setTop (mkF m 27 #[.val (.long q0), .second, .val (.int p1), .val (.int p2), .val (.int p3), .val (.ref b1), .unset, .unset, .unset, .unset, .unset, .unset, .unset] [(.int (2 : Int32)), (.ref b1)])) _
  refine XS.lloadN X5.here hx rfl (hb hby at_27) rfl ?_
  show Steps p.tables e below (T5.setTop (mkF m 28 #[.val (.long q0), .second, .val (.int p1), .val (.int p2), .val (.int p3), .val (.ref b1), .unset, .unset, .unset, .unset, .unset, .unset, .unset] [(.long q0), (.int (2 : Int32)), (.ref b1)])) _
  refine XS.iconst X5.here hx rfl (hb hby at_28) ?_
  show Steps p.tables e below (T5.setTop (mkF m 29 #[.val (.long q0), .second, .val (.int p1), .val (.int p2), .val (.int p3), .val (.ref b1), .unset, .unset, .unset, .unset, .unset, .unset, .unset] [(.int (2 : Int32)), (.long q0), (.int (2 : Int32)), (.ref b1)])) _
  refine st6 _ ?_
  show Steps p.tables e below (T6.setTop (mkF m 32 #[.val (.long q0), .second, .val (.int p1), .val (.int p2), .val (.int p3), .val (.ref b1), .unset, .unset, .unset, .unset, .unset, .unset, .unset] [(.int (F1_0 q0 (2 : Int32))), (.int (2 : Int32)), (.ref b1)])) _
  refine st7 _ ?_
  show Steps p.tables e below (T7.setTop (mkF m 33 #[.val (.long q0), .second, .val (.int p1), .val (.int p2), .val (.int p3), .val (.ref b1), .unset, .unset, .unset, .unset, .unset, .unset, .unset] [])) _
  refine XS.aload X7.here hx rfl (hb hby at_33) rfl rfl ?_
  show Steps p.tables e below (T7.setTop (mkF m 35 #[.val (.long q0), .second, .val (.int p1), .val (.int p2), .val (.int p3), .val (.ref b1), .unset, .unset, .unset, .unset, .unset, .unset, .unset] [(.ref b1)])) _
  refine XS.iconst X7.here hx rfl (hb hby at_35) ?_
  show Steps p.tables e below (T7.setTop (mkF m 36 #[.val (.long q0), .second, .val (.int p1), .val (.int p2), .val (.int p3), .val (.ref b1), .unset, .unset, .unset, .unset, .unset, .unset, .unset] [(.int (3 : Int32)), (.ref b1)])) _
  refine XS.lloadN X7.here hx rfl (hb hby at_36) rfl ?_
  show Steps p.tables e below (T7.setTop (mkF m 37 #[.val (.long q0), .second, .val (.int p1), .val (.int p2), .val (.int p3), .val (.ref b1), .unset, .unset, .unset, .unset, .unset, .unset, .unset] [(.long q0), (.int (3 : Int32)), (.ref b1)])) _
  refine XS.iconst X7.here hx rfl (hb hby at_37) ?_
  show Steps p.tables e below (T7.setTop (mkF m 38 #[.val (.long q0), .second, .val (.int p1), .val (.int p2), .val (.int p3), .val (.ref b1), .unset, .unset, .unset, .unset, .unset, .unset, .unset] [(.int (3 : Int32)), (.long q0), (.int (3 : Int32)), (.ref b1)])) _
  refine st8 _ ?_
  show Steps p.tables e below (T8.setTop (mkF m 41 #[.val (.long q0), .second, .val (.int p1), .val (.int p2), .val (.int p3), .val (.ref b1), .unset, .unset, .unset, .unset, .unset, .unset, .unset] [(.int (F1_0 q0 (3 : Int32))), (.int (3 : Int32)), (.ref b1)])) _
  refine st9 _ ?_
  show Steps p.tables e below (T9.setTop (mkF m 42 #[.val (.long q0), .second, .val (.int p1), .val (.int p2), .val (.int p3), .val (.ref b1), .unset, .unset, .unset, .unset, .unset, .unset, .unset] [])) _
  refine XS.aload X9.here hx rfl (hb hby at_42) rfl rfl ?_
  show Steps p.tables e below (T9.setTop (mkF m 44 #[.val (.long q0), .second, .val (.int p1), .val (.int p2), .val (.int p3), .val (.ref b1), .unset, .unset, .unset, .unset, .unset, .unset, .unset] [(.ref b1)])) _
  refine XS.iconst X9.here hx rfl (hb hby at_44) ?_
  show Steps p.tables e below (T9.setTop (mkF m 45 #[.val (.long q0), .second, .val (.int p1), .val (.int p2), .val (.int p3), .val (.ref b1), .unset, .unset, .unset, .unset, .unset, .unset, .unset] [(.int (4 : Int32)), (.ref b1)])) _
  refine XS.lloadN X9.here hx rfl (hb hby at_45) rfl ?_
  show Steps p.tables e below (T9.setTop (mkF m 46 #[.val (.long q0), .second, .val (.int p1), .val (.int p2), .val (.int p3), .val (.ref b1), .unset, .unset, .unset, .unset, .unset, .unset, .unset] [(.long q0), (.int (4 : Int32)), (.ref b1)])) _
  refine XS.iconst X9.here hx rfl (hb hby at_46) ?_
  show Steps p.tables e below (T9.setTop (mkF m 47 #[.val (.long q0), .second, .val (.int p1), .val (.int p2), .val (.int p3), .val (.ref b1), .unset, .unset, .unset, .unset, .unset, .unset, .unset] [(.int (4 : Int32)), (.long q0), (.int (4 : Int32)), (.ref b1)])) _
  refine st10 _ ?_
  show Steps p.tables e below (T10.setTop (mkF m 50 #[.val (.long q0), .second, .val (.int p1), .val (.int p2), .val (.int p3), .val (.ref b1), .unset, .unset, .unset, .unset, .unset, .unset, .unset] [(.int (F1_0 q0 (4 : Int32))), (.int (4 : Int32)), (.ref b1)])) _
  refine st11 _ ?_
  show Steps p.tables e below (T11.setTop (mkF m 51 #[.val (.long q0), .second, .val (.int p1), .val (.int p2), .val (.int p3), .val (.ref b1), .unset, .unset, .unset, .unset, .unset, .unset, .unset] [])) _
  refine XS.aload X11.here hx rfl (hb hby at_51) rfl rfl ?_
  show Steps p.tables e below (T11.setTop (mkF m 53 #[.val (.long q0), .second, .val (.int p1), .val (.int p2), .val (.int p3), .val (.ref b1), .unset, .unset, .unset, .unset, .unset, .unset, .unset] [(.ref b1)])) _
  refine XS.iconst X11.here hx rfl (hb hby at_53) ?_
  show Steps p.tables e below (T11.setTop (mkF m 54 #[.val (.long q0), .second, .val (.int p1), .val (.int p2), .val (.int p3), .val (.ref b1), .unset, .unset, .unset, .unset, .unset, .unset, .unset] [(.int (5 : Int32)), (.ref b1)])) _
  refine XS.lloadN X11.here hx rfl (hb hby at_54) rfl ?_
  show Steps p.tables e below (T11.setTop (mkF m 55 #[.val (.long q0), .second, .val (.int p1), .val (.int p2), .val (.int p3), .val (.ref b1), .unset, .unset, .unset, .unset, .unset, .unset, .unset] [(.long q0), (.int (5 : Int32)), (.ref b1)])) _
  refine XS.iconst X11.here hx rfl (hb hby at_55) ?_
  show Steps p.tables e below (T11.setTop (mkF m 56 #[.val (.long q0), .second, .val (.int p1), .val (.int p2), .val (.int p3), .val (.ref b1), .unset, .unset, .unset, .unset, .unset, .unset, .unset] [(.int (5 : Int32)), (.long q0), (.int (5 : Int32)), (.ref b1)])) _
  refine st12 _ ?_
  show Steps p.tables e below (T12.setTop (mkF m 59 #[.val (.long q0), .second, .val (.int p1), .val (.int p2), .val (.int p3), .val (.ref b1), .unset, .unset, .unset, .unset, .unset, .unset, .unset] [(.int (F1_0 q0 (5 : Int32))), (.int (5 : Int32)), (.ref b1)])) _
  refine st13 _ ?_
  show Steps p.tables e below (T13.setTop (mkF m 60 #[.val (.long q0), .second, .val (.int p1), .val (.int p2), .val (.int p3), .val (.ref b1), .unset, .unset, .unset, .unset, .unset, .unset, .unset] [])) _
  refine XS.aload X13.here hx rfl (hb hby at_60) rfl rfl ?_
  show Steps p.tables e below (T13.setTop (mkF m 62 #[.val (.long q0), .second, .val (.int p1), .val (.int p2), .val (.int p3), .val (.ref b1), .unset, .unset, .unset, .unset, .unset, .unset, .unset] [(.ref b1)])) _
  refine XS.bipush X13.here hx rfl (hb hby at_62) ?_
  show Steps p.tables e below (T13.setTop (mkF m 64 #[.val (.long q0), .second, .val (.int p1), .val (.int p2), .val (.int p3), .val (.ref b1), .unset, .unset, .unset, .unset, .unset, .unset, .unset] [(.int (6 : Int32)), (.ref b1)])) _
  refine XS.lloadN X13.here hx rfl (hb hby at_64) rfl ?_
  show Steps p.tables e below (T13.setTop (mkF m 65 #[.val (.long q0), .second, .val (.int p1), .val (.int p2), .val (.int p3), .val (.ref b1), .unset, .unset, .unset, .unset, .unset, .unset, .unset] [(.long q0), (.int (6 : Int32)), (.ref b1)])) _
  refine XS.bipush X13.here hx rfl (hb hby at_65) ?_
  show Steps p.tables e below (T13.setTop (mkF m 67 #[.val (.long q0), .second, .val (.int p1), .val (.int p2), .val (.int p3), .val (.ref b1), .unset, .unset, .unset, .unset, .unset, .unset, .unset] [(.int (6 : Int32)), (.long q0), (.int (6 : Int32)), (.ref b1)])) _
  refine st14 _ ?_
  show Steps p.tables e below (T14.setTop (mkF m 70 #[.val (.long q0), .second, .val (.int p1), .val (.int p2), .val (.int p3), .val (.ref b1), .unset, .unset, .unset, .unset, .unset, .unset, .unset] [(.int (F1_0 q0 (6 : Int32))), (.int (6 : Int32)), (.ref b1)])) _
  refine st15 _ ?_
  show Steps p.tables e below (T15.setTop (mkF m 71 #[.val (.long q0), .second, .val (.int p1), .val (.int p2), .val (.int p3), .val (.ref b1), .unset, .unset, .unset, .unset, .unset, .unset, .unset] [])) _
  refine XS.aload X15.here hx rfl (hb hby at_71) rfl rfl ?_
  show Steps p.tables e below (T15.setTop (mkF m 73 #[.val (.long q0), .second, .val (.int p1), .val (.int p2), .val (.int p3), .val (.ref b1), .unset, .unset, .unset, .unset, .unset, .unset, .unset] [(.ref b1)])) _
  refine XS.bipush X15.here hx rfl (hb hby at_73) ?_
  show Steps p.tables e below (T15.setTop (mkF m 75 #[.val (.long q0), .second, .val (.int p1), .val (.int p2), .val (.int p3), .val (.ref b1), .unset, .unset, .unset, .unset, .unset, .unset, .unset] [(.int (7 : Int32)), (.ref b1)])) _
  refine XS.lloadN X15.here hx rfl (hb hby at_75) rfl ?_
  show Steps p.tables e below (T15.setTop (mkF m 76 #[.val (.long q0), .second, .val (.int p1), .val (.int p2), .val (.int p3), .val (.ref b1), .unset, .unset, .unset, .unset, .unset, .unset, .unset] [(.long q0), (.int (7 : Int32)), (.ref b1)])) _
  refine XS.bipush X15.here hx rfl (hb hby at_76) ?_
  show Steps p.tables e below (T15.setTop (mkF m 78 #[.val (.long q0), .second, .val (.int p1), .val (.int p2), .val (.int p3), .val (.ref b1), .unset, .unset, .unset, .unset, .unset, .unset, .unset] [(.int (7 : Int32)), (.long q0), (.int (7 : Int32)), (.ref b1)])) _
  refine st16 _ ?_
  show Steps p.tables e below (T16.setTop (mkF m 81 #[.val (.long q0), .second, .val (.int p1), .val (.int p2), .val (.int p3), .val (.ref b1), .unset, .unset, .unset, .unset, .unset, .unset, .unset] [(.int (F1_0 q0 (7 : Int32))), (.int (7 : Int32)), (.ref b1)])) _
  refine st17 _ ?_
  show Steps p.tables e below (T17.setTop (mkF m 82 #[.val (.long q0), .second, .val (.int p1), .val (.int p2), .val (.int p3), .val (.ref b1), .unset, .unset, .unset, .unset, .unset, .unset, .unset] [])) _
  refine XS.iloadN X17.here hx rfl (hb hby at_82) rfl ?_
  show Steps p.tables e below (T17.setTop (mkF m 83 #[.val (.long q0), .second, .val (.int p1), .val (.int p2), .val (.int p3), .val (.ref b1), .unset, .unset, .unset, .unset, .unset, .unset, .unset] [(.int p1)])) _
  refine X17.ldcInt hx hown (mvT hZ (hw _ (List.mem_of_getElem? (i := 5) rfl))) (g := (mkF m 83 #[.val (.long q0), .second, .val (.int p1), .val (.int p2), .val (.int p3), .val (.ref b1), .unset, .unset, .unset, .unset, .unset, .unset, .unset] [(.int p1)])) rfl (hb hby at_83) _ ?_
  show Steps p.tables e below (T17.setTop (mkF m 85 #[.val (.long q0), .second, .val (.int p1), .val (.int p2), .val (.int p3), .val (.ref b1), .unset, .unset, .unset, .unset, .unset, .unset, .unset] [(.int (2147483647 : Int32)), (.int p1)])) _
  refine XS.iand X17.here hx rfl (hb hby at_85) rfl ?_
  show Steps p.tables e below (T17.setTop (mkF m 86 #[.val (.long q0), .second, .val (.int p1), .val (.int p2), .val (.int p3), .val (.ref b1), .unset, .unset, .unset, .unset, .unset, .unset, .unset] [(.int (p1 &&& (2147483647 : Int32)))])) _
  refine XS.bipush X17.here hx rfl (hb hby at_86) ?_
  show Steps p.tables e below (T17.setTop (mkF m 88 #[.val (.long q0), .second, .val (.int p1), .val (.int p2), .val (.int p3), .val (.ref b1), .unset, .unset, .unset, .unset, .unset, .unset, .unset] [(.int (9 : Int32)), (.int (p1 &&& (2147483647 : Int32)))])) _
  refine XS.irem X17.here hx rfl (hb hby at_88) rfl (by decide) ?_
  show Steps p.tables e below (T17.setTop (mkF m 89 #[.val (.long q0), .second, .val (.int p1), .val (.int p2), .val (.int p3), .val (.ref b1), .unset, .unset, .unset, .unset, .unset, .unset, .unset] [(.int ((p1 &&& (2147483647 : Int32)) - ((p1 &&& (2147483647 : Int32)) / (9 : Int32)) * (9 : Int32)))])) _
  refine XS.istore X17.here hx rfl (hb hby at_89) rfl (l' := #[.val (.long q0), .second, .val (.int p1), .val (.int p2), .val (.int p3), .val (.ref b1), .val (.int ((p1 &&& (2147483647 : Int32)) - ((p1 &&& (2147483647 : Int32)) / (9 : Int32)) * (9 : Int32))), .unset, .unset, .unset, .unset, .unset, .unset]) rfl ?_
  show Steps p.tables e below (T17.setTop (mkF m 91 #[.val (.long q0), .second, .val (.int p1), .val (.int p2), .val (.int p3), .val (.ref b1), .val (.int (vO p1)), .unset, .unset, .unset, .unset, .unset, .unset] [])) _
  refine XS.iloadN X17.here hx rfl (hb hby at_91) rfl ?_
  show Steps p.tables e below (T17.setTop (mkF m 92 #[.val (.long q0), .second, .val (.int p1), .val (.int p2), .val (.int p3), .val (.ref b1), .val (.int (vO p1)), .unset, .unset, .unset, .unset, .unset, .unset] [(.int p2)])) _
  refine X17.ldcInt hx hown (mvT hZ (hw _ (List.mem_of_getElem? (i := 5) rfl))) (g := (mkF m 92 #[.val (.long q0), .second, .val (.int p1), .val (.int p2), .val (.int p3), .val (.ref b1), .val (.int (vO p1)), .unset, .unset, .unset, .unset, .unset, .unset] [(.int p2)])) rfl (hb hby at_92) _ ?_
  show Steps p.tables e below (T17.setTop (mkF m 94 #[.val (.long q0), .second, .val (.int p1), .val (.int p2), .val (.int p3), .val (.ref b1), .val (.int (vO p1)), .unset, .unset, .unset, .unset, .unset, .unset] [(.int (2147483647 : Int32)), (.int p2)])) _
  refine XS.iand X17.here hx rfl (hb hby at_94) rfl ?_
  show Steps p.tables e below (T17.setTop (mkF m 95 #[.val (.long q0), .second, .val (.int p1), .val (.int p2), .val (.int p3), .val (.ref b1), .val (.int (vO p1)), .unset, .unset, .unset, .unset, .unset, .unset] [(.int (p2 &&& (2147483647 : Int32)))])) _
  refine XS.bipush X17.here hx rfl (hb hby at_95) ?_
  show Steps p.tables e below (T17.setTop (mkF m 97 #[.val (.long q0), .second, .val (.int p1), .val (.int p2), .val (.int p3), .val (.ref b1), .val (.int (vO p1)), .unset, .unset, .unset, .unset, .unset, .unset] [(.int (9 : Int32)), (.int (p2 &&& (2147483647 : Int32)))])) _
  refine XS.iload X17.here hx rfl (hb hby at_97) rfl ?_
  show Steps p.tables e below (T17.setTop (mkF m 99 #[.val (.long q0), .second, .val (.int p1), .val (.int p2), .val (.int p3), .val (.ref b1), .val (.int (vO p1)), .unset, .unset, .unset, .unset, .unset, .unset] [(.int (vO p1)), (.int (9 : Int32)), (.int (p2 &&& (2147483647 : Int32)))])) _
  refine XS.isub X17.here hx rfl (hb hby at_99) rfl ?_
  show Steps p.tables e below (T17.setTop (mkF m 100 #[.val (.long q0), .second, .val (.int p1), .val (.int p2), .val (.int p3), .val (.ref b1), .val (.int (vO p1)), .unset, .unset, .unset, .unset, .unset, .unset] [(.int ((9 : Int32) - (vO p1))), (.int (p2 &&& (2147483647 : Int32)))])) _
  refine XS.irem X17.here hx rfl (hb hby at_100) rfl (own_nz p1) ?_
  show Steps p.tables e below (T17.setTop (mkF m 101 #[.val (.long q0), .second, .val (.int p1), .val (.int p2), .val (.int p3), .val (.ref b1), .val (.int (vO p1)), .unset, .unset, .unset, .unset, .unset, .unset] [(.int ((p2 &&& (2147483647 : Int32)) - ((p2 &&& (2147483647 : Int32)) / ((9 : Int32) - (vO p1))) * ((9 : Int32) - (vO p1))))])) _
  refine XS.istore X17.here hx rfl (hb hby at_101) rfl (l' := #[.val (.long q0), .second, .val (.int p1), .val (.int p2), .val (.int p3), .val (.ref b1), .val (.int (vO p1)), .val (.int ((p2 &&& (2147483647 : Int32)) - ((p2 &&& (2147483647 : Int32)) / ((9 : Int32) - (vO p1))) * ((9 : Int32) - (vO p1)))), .unset, .unset, .unset, .unset, .unset]) rfl ?_
  show Steps p.tables e below (T17.setTop (mkF m 103 #[.val (.long q0), .second, .val (.int p1), .val (.int p2), .val (.int p3), .val (.ref b1), .val (.int (vO p1)), .val (.int (vLen p1 p2)), .unset, .unset, .unset, .unset, .unset] [])) _
  refine XS.iload X17.here hx rfl (hb hby at_103) rfl ?_
  show Steps p.tables e below (T17.setTop (mkF m 105 #[.val (.long q0), .second, .val (.int p1), .val (.int p2), .val (.int p3), .val (.ref b1), .val (.int (vO p1)), .val (.int (vLen p1 p2)), .unset, .unset, .unset, .unset, .unset] [(.int p3)])) _
  refine XS.bipush X17.here hx rfl (hb hby at_105) ?_
  show Steps p.tables e below (T17.setTop (mkF m 107 #[.val (.long q0), .second, .val (.int p1), .val (.int p2), .val (.int p3), .val (.ref b1), .val (.int (vO p1)), .val (.int (vLen p1 p2)), .unset, .unset, .unset, .unset, .unset] [(.int (7 : Int32)), (.int p3)])) _
  refine XS.iand X17.here hx rfl (hb hby at_107) rfl ?_
  show Steps p.tables e below (T17.setTop (mkF m 108 #[.val (.long q0), .second, .val (.int p1), .val (.int p2), .val (.int p3), .val (.ref b1), .val (.int (vO p1)), .val (.int (vLen p1 p2)), .unset, .unset, .unset, .unset, .unset] [(.int (p3 &&& (7 : Int32)))])) _
  refine XS.iconst X17.here hx rfl (hb hby at_108) ?_
  show Steps p.tables e below (T17.setTop (mkF m 109 #[.val (.long q0), .second, .val (.int p1), .val (.int p2), .val (.int p3), .val (.ref b1), .val (.int (vO p1)), .val (.int (vLen p1 p2)), .unset, .unset, .unset, .unset, .unset] [(.int (5 : Int32)), (.int (p3 &&& (7 : Int32)))])) _
  refine XS.irem X17.here hx rfl (hb hby at_109) rfl (by decide) ?_
  show Steps p.tables e below (T17.setTop (mkF m 110 #[.val (.long q0), .second, .val (.int p1), .val (.int p2), .val (.int p3), .val (.ref b1), .val (.int (vO p1)), .val (.int (vLen p1 p2)), .unset, .unset, .unset, .unset, .unset] [(.int ((p3 &&& (7 : Int32)) - ((p3 &&& (7 : Int32)) / (5 : Int32)) * (5 : Int32)))])) _
  refine XS.iload X17.here hx rfl (hb hby at_110) rfl ?_
  show Steps p.tables e below (T17.setTop (mkF m 112 #[.val (.long q0), .second, .val (.int p1), .val (.int p2), .val (.int p3), .val (.ref b1), .val (.int (vO p1)), .val (.int (vLen p1 p2)), .unset, .unset, .unset, .unset, .unset] [(.int (vLen p1 p2)), (.int ((p3 &&& (7 : Int32)) - ((p3 &&& (7 : Int32)) / (5 : Int32)) * (5 : Int32)))])) _
  refine st18 _ ?_
  show Steps p.tables e below (T18.setTop (mkF m 115 #[.val (.long q0), .second, .val (.int p1), .val (.int p2), .val (.int p3), .val (.ref b1), .val (.int (vO p1)), .val (.int (vLen p1 p2)), .unset, .unset, .unset, .unset, .unset] [(.int (F2_0 ((p3 &&& (7 : Int32)) - ((p3 &&& (7 : Int32)) / (5 : Int32)) * (5 : Int32)) (vLen p1 p2)))])) _
  refine XS.istore X18.here hx rfl (hb hby at_115) rfl (l' := #[.val (.long q0), .second, .val (.int p1), .val (.int p2), .val (.int p3), .val (.ref b1), .val (.int (vO p1)), .val (.int (vLen p1 p2)), .val (.int (F2_0 ((p3 &&& (7 : Int32)) - ((p3 &&& (7 : Int32)) / (5 : Int32)) * (5 : Int32)) (vLen p1 p2))), .unset, .unset, .unset, .unset]) rfl ?_
  show Steps p.tables e below (T18.setTop (mkF m 117 #[.val (.long q0), .second, .val (.int p1), .val (.int p2), .val (.int p3), .val (.ref b1), .val (.int (vO p1)), .val (.int (vLen p1 p2)), .val (.int (vN p1 p2 p3)), .unset, .unset, .unset, .unset] [])) _
  refine st19 _ ?_
  show Steps p.tables e below (T19.setTop (mkF m 120 #[.val (.long q0), .second, .val (.int p1), .val (.int p2), .val (.int p3), .val (.ref b1), .val (.int (vO p1)), .val (.int (vLen p1 p2)), .val (.int (vN p1 p2 p3)), .unset, .unset, .unset, .unset] [(.ref b19)])) _
  refine XS.dup X19.here hx rfl (hb hby at_120) rfl rfl ?_
  show Steps p.tables e below (T19.setTop (mkF m 121 #[.val (.long q0), .second, .val (.int p1), .val (.int p2), .val (.int p3), .val (.ref b1), .val (.int (vO p1)), .val (.int (vLen p1 p2)), .val (.int (vN p1 p2 p3)), .unset, .unset, .unset, .unset] [(.ref b19), (.ref b19)])) _
  refine XS.aload X19.here hx rfl (hb hby at_121) rfl rfl ?_
  show Steps p.tables e below (T19.setTop (mkF m 123 #[.val (.long q0), .second, .val (.int p1), .val (.int p2), .val (.int p3), .val (.ref b1), .val (.int (vO p1)), .val (.int (vLen p1 p2)), .val (.int (vN p1 p2 p3)), .unset, .unset, .unset, .unset] [(.ref b1), (.ref b19), (.ref b19)])) _
  refine XS.iload X19.here hx rfl (hb hby at_123) rfl ?_
  show Steps p.tables e below (T19.setTop (mkF m 125 #[.val (.long q0), .second, .val (.int p1), .val (.int p2), .val (.int p3), .val (.ref b1), .val (.int (vO p1)), .val (.int (vLen p1 p2)), .val (.int (vN p1 p2 p3)), .unset, .unset, .unset, .unset] [(.int (vO p1)), (.ref b1), (.ref b19), (.ref b19)])) _
  refine XS.iload X19.here hx rfl (hb hby at_125) rfl ?_
  show Steps p.tables e below (T19.setTop (mkF m 127 #[.val (.long q0), .second, .val (.int p1), .val (.int p2), .val (.int p3), .val (.ref b1), .val (.int (vO p1)), .val (.int (vLen p1 p2)), .val (.int (vN p1 p2 p3)), .unset, .unset, .unset, .unset] [(.int (vLen p1 p2)), (.int (vO p1)), (.ref b1), (.ref b19), (.ref b19)])) _
  refine st20.trans ?_
  show Steps p.tables e below (T20.setTop (mkF m 130 #[.val (.long q0), .second, .val (.int p1), .val (.int p2), .val (.int p3), .val (.ref b1), .val (.int (vO p1)), .val (.int (vLen p1 p2)), .val (.int (vN p1 p2 p3)), .unset, .unset, .unset, .unset] [(.ref b19)])) _
  refine XS.astore X20.here hx rfl (hb hby at_130) rfl rfl (l' := #[.val (.long q0), .second, .val (.int p1), .val (.int p2), .val (.int p3), .val (.ref b1), .val (.int (vO p1)), .val (.int (vLen p1 p2)), .val (.int (vN p1 p2 p3)), .val (.ref b19), .unset, .unset, .unset]) rfl ?_
  show Steps p.tables e below (T20.setTop (mkF m 132 #[.val (.long q0), .second, .val (.int p1), .val (.int p2), .val (.int p3), .val (.ref b1), .val (.int (vO p1)), .val (.int (vLen p1 p2)), .val (.int (vN p1 p2 p3)), .val (.ref b19), .unset, .unset, .unset] [])) _
  refine XS.iconst X20.here hx rfl (hb hby at_132) ?_
  show Steps p.tables e below (T20.setTop (mkF m 133 #[.val (.long q0), .second, .val (.int p1), .val (.int p2), .val (.int p3), .val (.ref b1), .val (.int (vO p1)), .val (.int (vLen p1 p2)), .val (.int (vN p1 p2 p3)), .val (.ref b19), .unset, .unset, .unset] [(.int (1 : Int32))])) _
  refine XS.istore X20.here hx rfl (hb hby at_133) rfl (l' := #[.val (.long q0), .second, .val (.int p1), .val (.int p2), .val (.int p3), .val (.ref b1), .val (.int (vO p1)), .val (.int (vLen p1 p2)), .val (.int (vN p1 p2 p3)), .val (.ref b19), .val (.int (1 : Int32)), .unset, .unset]) rfl ?_
  show Steps p.tables e below (T20.setTop (mkF m 135 #[.val (.long q0), .second, .val (.int p1), .val (.int p2), .val (.int p3), .val (.ref b1), .val (.int (vO p1)), .val (.int (vLen p1 p2)), .val (.int (vN p1 p2 p3)), .val (.ref b19), .val (.int (1 : Int32)), .unset, .unset] [])) _
  refine XS.iload X20.here hx rfl (hb hby at_135) rfl ?_
  show Steps p.tables e below (T20.setTop (mkF m 137 #[.val (.long q0), .second, .val (.int p1), .val (.int p2), .val (.int p3), .val (.ref b1), .val (.int (vO p1)), .val (.int (vLen p1 p2)), .val (.int (vN p1 p2 p3)), .val (.ref b19), .val (.int (1 : Int32)), .unset, .unset] [(.int (vN p1 p2 p3))])) _
  refine XS.iconst X20.here hx rfl (hb hby at_137) ?_
  show Steps p.tables e below (T20.setTop (mkF m 138 #[.val (.long q0), .second, .val (.int p1), .val (.int p2), .val (.int p3), .val (.ref b1), .val (.int (vO p1)), .val (.int (vLen p1 p2)), .val (.int (vN p1 p2 p3)), .val (.ref b19), .val (.int (1 : Int32)), .unset, .unset] [(.int (1 : Int32)), (.int (vN p1 p2 p3))])) _
  refine XS.icmpNo X20.here hx rfl (hb hby at_138) rfl (flt hc138).1 ?_
  show Steps p.tables e below (T20.setTop (mkF m 141 #[.val (.long q0), .second, .val (.int p1), .val (.int p2), .val (.int p3), .val (.ref b1), .val (.int (vO p1)), .val (.int (vLen p1 p2)), .val (.int (vN p1 p2 p3)), .val (.ref b19), .val (.int (1 : Int32)), .unset, .unset] [])) _
  refine XS.iload X20.here hx rfl (hb hby at_141) rfl ?_
  show Steps p.tables e below (T20.setTop (mkF m 143 #[.val (.long q0), .second, .val (.int p1), .val (.int p2), .val (.int p3), .val (.ref b1), .val (.int (vO p1)), .val (.int (vLen p1 p2)), .val (.int (vN p1 p2 p3)), .val (.ref b19), .val (.int (1 : Int32)), .unset, .unset] [(.int (1 : Int32))])) _
  refine XS.ifNo X20.here hx rfl (hb hby at_143) rfl ((if0 _ _).trans (feq (by decide)).1) ?_
  show Steps p.tables e below (T20.setTop (mkF m 146 #[.val (.long q0), .second, .val (.int p1), .val (.int p2), .val (.int p3), .val (.ref b1), .val (.int (vO p1)), .val (.int (vLen p1 p2)), .val (.int (vN p1 p2 p3)), .val (.ref b19), .val (.int (1 : Int32)), .unset, .unset] [])) _
  refine XS.aload X20.here hx rfl (hb hby at_146) rfl rfl ?_
  show Steps p.tables e below (T20.setTop (mkF m 148 #[.val (.long q0), .second, .val (.int p1), .val (.int p2), .val (.int p3), .val (.ref b1), .val (.int (vO p1)), .val (.int (vLen p1 p2)), .val (.int (vN p1 p2 p3)), .val (.ref b19), .val (.int (1 : Int32)), .unset, .unset] [(.ref b19)])) _
  refine st21.trans ?_
  show Steps p.tables e below (T21.setTop (mkF m 151 #[.val (.long q0), .second, .val (.int p1), .val (.int p2), .val (.int p3), .val (.ref b1), .val (.int (vO p1)), .val (.int (vLen p1 p2)), .val (.int (vN p1 p2 p3)), .val (.ref b19), .val (.int (1 : Int32)), .unset, .unset] [(.int (((bys q0).getD (vO p1).toNatClampNeg 0).toInt8.toInt32))])) _
  refine XS.lloadN X21.here hx rfl (hb hby at_151) rfl ?_
  show Steps p.tables e below (T21.setTop (mkF m 152 #[.val (.long q0), .second, .val (.int p1), .val (.int p2), .val (.int p3), .val (.ref b1), .val (.int (vO p1)), .val (.int (vLen p1 p2)), .val (.int (vN p1 p2 p3)), .val (.ref b19), .val (.int (1 : Int32)), .unset, .unset] [(.long q0), (.int (((bys q0).getD (vO p1).toNatClampNeg 0).toInt8.toInt32))])) _
  refine XS.iload X21.here hx rfl (hb hby at_152) rfl ?_
  show Steps p.tables e below (T21.setTop (mkF m 154 #[.val (.long q0), .second, .val (.int p1), .val (.int p2), .val (.int p3), .val (.ref b1), .val (.int (vO p1)), .val (.int (vLen p1 p2)), .val (.int (vN p1 p2 p3)), .val (.ref b19), .val (.int (1 : Int32)), .unset, .unset] [(.int (vO p1)), (.long q0), (.int (((bys q0).getD (vO p1).toNatClampNeg 0).toInt8.toInt32))])) _
  refine st22 _ ?_
  show Steps p.tables e below (T22.setTop (mkF m 157 #[.val (.long q0), .second, .val (.int p1), .val (.int p2), .val (.int p3), .val (.ref b1), .val (.int (vO p1)), .val (.int (vLen p1 p2)), .val (.int (vN p1 p2 p3)), .val (.ref b19), .val (.int (1 : Int32)), .unset, .unset] [(.int (F1_0 q0 (vO p1))), (.int (((bys q0).getD (vO p1).toNatClampNeg 0).toInt8.toInt32))])) _
  refine XS.icmpNo X22.here hx rfl (hb hby at_157) rfl (teq (own_cmp0 q0 p1 p2 p3 hc138)).2 ?_
  show Steps p.tables e below (T22.setTop (mkF m 160 #[.val (.long q0), .second, .val (.int p1), .val (.int p2), .val (.int p3), .val (.ref b1), .val (.int (vO p1)), .val (.int (vLen p1 p2)), .val (.int (vN p1 p2 p3)), .val (.ref b19), .val (.int (1 : Int32)), .unset, .unset] [])) _
  refine XS.iconst X22.here hx rfl (hb hby at_160) ?_
  show Steps p.tables e below (T22.setTop (mkF m 161 #[.val (.long q0), .second, .val (.int p1), .val (.int p2), .val (.int p3), .val (.ref b1), .val (.int (vO p1)), .val (.int (vLen p1 p2)), .val (.int (vN p1 p2 p3)), .val (.ref b19), .val (.int (1 : Int32)), .unset, .unset] [(.int (1 : Int32))])) _
  refine XS.goto X22.here hx rfl (pc0 := 161) (pc' := 165) rfl (hb hby at_161) (by decide) (by decide) ?_
  show Steps p.tables e below (T22.setTop (mkF m 165 #[.val (.long q0), .second, .val (.int p1), .val (.int p2), .val (.int p3), .val (.ref b1), .val (.int (vO p1)), .val (.int (vLen p1 p2)), .val (.int (vN p1 p2 p3)), .val (.ref b19), .val (.int (1 : Int32)), .unset, .unset] [(.int (1 : Int32))])) _
  refine XS.istore X22.here hx rfl (hb hby at_165) rfl (l' := #[.val (.long q0), .second, .val (.int p1), .val (.int p2), .val (.int p3), .val (.ref b1), .val (.int (vO p1)), .val (.int (vLen p1 p2)), .val (.int (vN p1 p2 p3)), .val (.ref b19), .val (.int (1 : Int32)), .unset, .unset]) rfl ?_
  show Steps p.tables e below (T22.setTop (mkF m 167 #[.val (.long q0), .second, .val (.int p1), .val (.int p2), .val (.int p3), .val (.ref b1), .val (.int (vO p1)), .val (.int (vLen p1 p2)), .val (.int (vN p1 p2 p3)), .val (.ref b19), .val (.int (1 : Int32)), .unset, .unset] [])) _
  refine XS.iload X22.here hx rfl (hb hby at_167) rfl ?_
  show Steps p.tables e below (T22.setTop (mkF m 169 #[.val (.long q0), .second, .val (.int p1), .val (.int p2), .val (.int p3), .val (.ref b1), .val (.int (vO p1)), .val (.int (vLen p1 p2)), .val (.int (vN p1 p2 p3)), .val (.ref b19), .val (.int (1 : Int32)), .unset, .unset] [(.int (vN p1 p2 p3))])) _
  refine XS.iconst X22.here hx rfl (hb hby at_169) ?_
  show Steps p.tables e below (T22.setTop (mkF m 170 #[.val (.long q0), .second, .val (.int p1), .val (.int p2), .val (.int p3), .val (.ref b1), .val (.int (vO p1)), .val (.int (vLen p1 p2)), .val (.int (vN p1 p2 p3)), .val (.ref b19), .val (.int (1 : Int32)), .unset, .unset] [(.int (2 : Int32)), (.int (vN p1 p2 p3))])) _
  refine XS.icmpYes X22.here hx rfl (pc0 := 170) (pc' := 201) rfl (hb hby at_170) rfl (tlt hc170).1 (by decide) (by decide) ?_
  show Steps p.tables e below (T22.setTop (mkF m 201 #[.val (.long q0), .second, .val (.int p1), .val (.int p2), .val (.int p3), .val (.ref b1), .val (.int (vO p1)), .val (.int (vLen p1 p2)), .val (.int (vN p1 p2 p3)), .val (.ref b19), .val (.int (1 : Int32)), .unset, .unset] [])) _
  refine XS.iload X22.here hx rfl (hb hby at_201) rfl ?_
  show Steps p.tables e below (T22.setTop (mkF m 203 #[.val (.long q0), .second, .val (.int p1), .val (.int p2), .val (.int p3), .val (.ref b1), .val (.int (vO p1)), .val (.int (vLen p1 p2)), .val (.int (vN p1 p2 p3)), .val (.ref b19), .val (.int (1 : Int32)), .unset, .unset] [(.int (vN p1 p2 p3))])) _
  refine XS.iconst X22.here hx rfl (hb hby at_203) ?_
  show Steps p.tables e below (T22.setTop (mkF m 204 #[.val (.long q0), .second, .val (.int p1), .val (.int p2), .val (.int p3), .val (.ref b1), .val (.int (vO p1)), .val (.int (vLen p1 p2)), .val (.int (vN p1 p2 p3)), .val (.ref b19), .val (.int (1 : Int32)), .unset, .unset] [(.int (3 : Int32)), (.int (vN p1 p2 p3))])) _
  refine XS.icmpYes X22.here hx rfl (pc0 := 204) (pc' := 235) rfl (hb hby at_204) rfl (tlt hc204).1 (by decide) (by decide) ?_
  show Steps p.tables e below (T22.setTop (mkF m 235 #[.val (.long q0), .second, .val (.int p1), .val (.int p2), .val (.int p3), .val (.ref b1), .val (.int (vO p1)), .val (.int (vLen p1 p2)), .val (.int (vN p1 p2 p3)), .val (.ref b19), .val (.int (1 : Int32)), .unset, .unset] [])) _
  refine XS.iload X22.here hx rfl (hb hby at_235) rfl ?_
  show Steps p.tables e below (T22.setTop (mkF m 237 #[.val (.long q0), .second, .val (.int p1), .val (.int p2), .val (.int p3), .val (.ref b1), .val (.int (vO p1)), .val (.int (vLen p1 p2)), .val (.int (vN p1 p2 p3)), .val (.ref b19), .val (.int (1 : Int32)), .unset, .unset] [(.int (vN p1 p2 p3))])) _
  refine XS.iconst X22.here hx rfl (hb hby at_237) ?_
  show Steps p.tables e below (T22.setTop (mkF m 238 #[.val (.long q0), .second, .val (.int p1), .val (.int p2), .val (.int p3), .val (.ref b1), .val (.int (vO p1)), .val (.int (vLen p1 p2)), .val (.int (vN p1 p2 p3)), .val (.ref b19), .val (.int (1 : Int32)), .unset, .unset] [(.int (4 : Int32)), (.int (vN p1 p2 p3))])) _
  refine XS.icmpYes X22.here hx rfl (pc0 := 238) (pc' := 269) rfl (hb hby at_238) rfl (tlt hc238).1 (by decide) (by decide) ?_
  show Steps p.tables e below (T22.setTop (mkF m 269 #[.val (.long q0), .second, .val (.int p1), .val (.int p2), .val (.int p3), .val (.ref b1), .val (.int (vO p1)), .val (.int (vLen p1 p2)), .val (.int (vN p1 p2 p3)), .val (.ref b19), .val (.int (1 : Int32)), .unset, .unset] [])) _
  refine XS.aload X22.here hx rfl (hb hby at_269) rfl rfl ?_
  show Steps p.tables e below (T22.setTop (mkF m 271 #[.val (.long q0), .second, .val (.int p1), .val (.int p2), .val (.int p3), .val (.ref b1), .val (.int (vO p1)), .val (.int (vLen p1 p2)), .val (.int (vN p1 p2 p3)), .val (.ref b19), .val (.int (1 : Int32)), .unset, .unset] [(.ref b19)])) _
  refine X22.ldc2Long hx hown20 (mvT hZ20 (hw _ (List.mem_of_getElem? (i := 52) rfl))) (g := (mkF m 271 #[.val (.long q0), .second, .val (.int p1), .val (.int p2), .val (.int p3), .val (.ref b1), .val (.int (vO p1)), .val (.int (vLen p1 p2)), .val (.int (vN p1 p2 p3)), .val (.ref b19), .val (.int (1 : Int32)), .unset, .unset] [(.ref b19)])) rfl (hb hby at_271) _ ?_
  show Steps p.tables e below (T22.setTop (mkF m 274 #[.val (.long q0), .second, .val (.int p1), .val (.int p2), .val (.int p3), .val (.ref b1), .val (.int (vO p1)), .val (.int (vLen p1 p2)), .val (.int (vN p1 p2 p3)), .val (.ref b19), .val (.int (1 : Int32)), .unset, .unset] [(.long (8 : Int64)), (.ref b19)])) _
  refine st23.trans ?_
  show Steps p.tables e below (T23.setTop (mkF m 277 #[.val (.long q0), .second, .val (.int p1), .val (.int p2), .val (.int p3), .val (.ref b1), .val (.int (vO p1)), .val (.int (vLen p1 p2)), .val (.int (vN p1 p2 p3)), .val (.ref b19), .val (.int (1 : Int32)), .unset, .unset] [(.long (((F11_0 (8 : Int64) ((((vO p1) + (vLen p1 p2)) - ((vO p1) + (1 : Int32))).toInt64)).toInt32).toInt64))])) _
  refine XS.lstore X23.here hx rfl (hb hby at_277) rfl (l' := #[.val (.long q0), .second, .val (.int p1), .val (.int p2), .val (.int p3), .val (.ref b1), .val (.int (vO p1)), .val (.int (vLen p1 p2)), .val (.int (vN p1 p2 p3)), .val (.ref b19), .val (.int (1 : Int32)), .val (.long (((F11_0 (8 : Int64) ((((vO p1) + (vLen p1 p2)) - ((vO p1) + (1 : Int32))).toInt64)).toInt32).toInt64)), .second]) rfl ?_
  show Steps p.tables e below (T23.setTop (mkF m 279 #[.val (.long q0), .second, .val (.int p1), .val (.int p2), .val (.int p3), .val (.ref b1), .val (.int (vO p1)), .val (.int (vLen p1 p2)), .val (.int (vN p1 p2 p3)), .val (.ref b19), .val (.int (1 : Int32)), .val (.long (((F11_0 (8 : Int64) ((((vO p1) + (vLen p1 p2)) - ((vO p1) + (1 : Int32))).toInt64)).toInt32).toInt64)), .second] [])) _
  refine XS.iload X23.here hx rfl (hb hby at_279) rfl ?_
  show Steps p.tables e below (T23.setTop (mkF m 281 #[.val (.long q0), .second, .val (.int p1), .val (.int p2), .val (.int p3), .val (.ref b1), .val (.int (vO p1)), .val (.int (vLen p1 p2)), .val (.int (vN p1 p2 p3)), .val (.ref b19), .val (.int (1 : Int32)), .val (.long (((F11_0 (8 : Int64) ((((vO p1) + (vLen p1 p2)) - ((vO p1) + (1 : Int32))).toInt64)).toInt32).toInt64)), .second] [(.int (1 : Int32))])) _
  refine XS.ifNo X23.here hx rfl (hb hby at_281) rfl ((if0 _ _).trans (feq (by decide)).1) ?_
  show Steps p.tables e below (T23.setTop (mkF m 284 #[.val (.long q0), .second, .val (.int p1), .val (.int p2), .val (.int p3), .val (.ref b1), .val (.int (vO p1)), .val (.int (vLen p1 p2)), .val (.int (vN p1 p2 p3)), .val (.ref b19), .val (.int (1 : Int32)), .val (.long (((F11_0 (8 : Int64) ((((vO p1) + (vLen p1 p2)) - ((vO p1) + (1 : Int32))).toInt64)).toInt32).toInt64)), .second] [])) _
  refine XS.lload X23.here hx rfl (hb hby at_284) rfl ?_
  show Steps p.tables e below (T23.setTop (mkF m 286 #[.val (.long q0), .second, .val (.int p1), .val (.int p2), .val (.int p3), .val (.ref b1), .val (.int (vO p1)), .val (.int (vLen p1 p2)), .val (.int (vN p1 p2 p3)), .val (.ref b19), .val (.int (1 : Int32)), .val (.long (((F11_0 (8 : Int64) ((((vO p1) + (vLen p1 p2)) - ((vO p1) + (1 : Int32))).toInt64)).toInt32).toInt64)), .second] [(.long (((F11_0 (8 : Int64) ((((vO p1) + (vLen p1 p2)) - ((vO p1) + (1 : Int32))).toInt64)).toInt32).toInt64))])) _
  refine XS.iload X23.here hx rfl (hb hby at_286) rfl ?_
  show Steps p.tables e below (T23.setTop (mkF m 288 #[.val (.long q0), .second, .val (.int p1), .val (.int p2), .val (.int p3), .val (.ref b1), .val (.int (vO p1)), .val (.int (vLen p1 p2)), .val (.int (vN p1 p2 p3)), .val (.ref b19), .val (.int (1 : Int32)), .val (.long (((F11_0 (8 : Int64) ((((vO p1) + (vLen p1 p2)) - ((vO p1) + (1 : Int32))).toInt64)).toInt32).toInt64)), .second] [(.int (vLen p1 p2)), (.long (((F11_0 (8 : Int64) ((((vO p1) + (vLen p1 p2)) - ((vO p1) + (1 : Int32))).toInt64)).toInt32).toInt64))])) _
  refine XS.iload X23.here hx rfl (hb hby at_288) rfl ?_
  show Steps p.tables e below (T23.setTop (mkF m 290 #[.val (.long q0), .second, .val (.int p1), .val (.int p2), .val (.int p3), .val (.ref b1), .val (.int (vO p1)), .val (.int (vLen p1 p2)), .val (.int (vN p1 p2 p3)), .val (.ref b19), .val (.int (1 : Int32)), .val (.long (((F11_0 (8 : Int64) ((((vO p1) + (vLen p1 p2)) - ((vO p1) + (1 : Int32))).toInt64)).toInt32).toInt64)), .second] [(.int (vN p1 p2 p3)), (.int (vLen p1 p2)), (.long (((F11_0 (8 : Int64) ((((vO p1) + (vLen p1 p2)) - ((vO p1) + (1 : Int32))).toInt64)).toInt32).toInt64))])) _
  refine XS.isub X23.here hx rfl (hb hby at_290) rfl ?_
  show Steps p.tables e below (T23.setTop (mkF m 291 #[.val (.long q0), .second, .val (.int p1), .val (.int p2), .val (.int p3), .val (.ref b1), .val (.int (vO p1)), .val (.int (vLen p1 p2)), .val (.int (vN p1 p2 p3)), .val (.ref b19), .val (.int (1 : Int32)), .val (.long (((F11_0 (8 : Int64) ((((vO p1) + (vLen p1 p2)) - ((vO p1) + (1 : Int32))).toInt64)).toInt32).toInt64)), .second] [(.int ((vLen p1 p2) - (vN p1 p2 p3))), (.long (((F11_0 (8 : Int64) ((((vO p1) + (vLen p1 p2)) - ((vO p1) + (1 : Int32))).toInt64)).toInt32).toInt64))])) _
  refine XS.i2l X23.here hx rfl (hb hby at_291) rfl ?_
  show Steps p.tables e below (T23.setTop (mkF m 292 #[.val (.long q0), .second, .val (.int p1), .val (.int p2), .val (.int p3), .val (.ref b1), .val (.int (vO p1)), .val (.int (vLen p1 p2)), .val (.int (vN p1 p2 p3)), .val (.ref b19), .val (.int (1 : Int32)), .val (.long (((F11_0 (8 : Int64) ((((vO p1) + (vLen p1 p2)) - ((vO p1) + (1 : Int32))).toInt64)).toInt32).toInt64)), .second] [(.long (((vLen p1 p2) - (vN p1 p2 p3)).toInt64)), (.long (((F11_0 (8 : Int64) ((((vO p1) + (vLen p1 p2)) - ((vO p1) + (1 : Int32))).toInt64)).toInt32).toInt64))])) _
  refine XS.lcmp X23.here hx rfl (hb hby at_292) rfl ?_
  show Steps p.tables e below (T23.setTop (mkF m 293 #[.val (.long q0), .second, .val (.int p1), .val (.int p2), .val (.int p3), .val (.ref b1), .val (.int (vO p1)), .val (.int (vLen p1 p2)), .val (.int (vN p1 p2 p3)), .val (.ref b19), .val (.int (1 : Int32)), .val (.long (((F11_0 (8 : Int64) ((((vO p1) + (vLen p1 p2)) - ((vO p1) + (1 : Int32))).toInt64)).toInt32).toInt64)), .second] [(.int (lcmpW (((F11_0 (8 : Int64) ((((vO p1) + (vLen p1 p2)) - ((vO p1) + (1 : Int32))).toInt64)).toInt32).toInt64) (((vLen p1 p2) - (vN p1 p2 p3)).toInt64)))])) _
  refine XS.ifNo X23.here hx rfl (hb hby at_293) rfl ((if0 _ _).trans (teq ((lw_eq _ _).mpr (own_rest1 p1 p2 p3 hc138 hc170))).2) ?_
  show Steps p.tables e below (T23.setTop (mkF m 296 #[.val (.long q0), .second, .val (.int p1), .val (.int p2), .val (.int p3), .val (.ref b1), .val (.int (vO p1)), .val (.int (vLen p1 p2)), .val (.int (vN p1 p2 p3)), .val (.ref b19), .val (.int (1 : Int32)), .val (.long (((F11_0 (8 : Int64) ((((vO p1) + (vLen p1 p2)) - ((vO p1) + (1 : Int32))).toInt64)).toInt32).toInt64)), .second] [])) _
  refine XS.iconst X23.here hx rfl (hb hby at_296) ?_
  show Steps p.tables e below (T23.setTop (mkF m 297 #[.val (.long q0), .second, .val (.int p1), .val (.int p2), .val (.int p3), .val (.ref b1), .val (.int (vO p1)), .val (.int (vLen p1 p2)), .val (.int (vN p1 p2 p3)), .val (.ref b19), .val (.int (1 : Int32)), .val (.long (((F11_0 (8 : Int64) ((((vO p1) + (vLen p1 p2)) - ((vO p1) + (1 : Int32))).toInt64)).toInt32).toInt64)), .second] [(.int (1 : Int32))])) _
  refine XS.goto X23.here hx rfl (pc0 := 297) (pc' := 301) rfl (hb hby at_297) (by decide) (by decide) ?_
  show Steps p.tables e below (T23.setTop (mkF m 301 #[.val (.long q0), .second, .val (.int p1), .val (.int p2), .val (.int p3), .val (.ref b1), .val (.int (vO p1)), .val (.int (vLen p1 p2)), .val (.int (vN p1 p2 p3)), .val (.ref b19), .val (.int (1 : Int32)), .val (.long (((F11_0 (8 : Int64) ((((vO p1) + (vLen p1 p2)) - ((vO p1) + (1 : Int32))).toInt64)).toInt32).toInt64)), .second] [(.int (1 : Int32))])) _
  exact retN X23 hx (t := .boolean) Bd.returns (by simp) (hb hby at_301) hr
def Q_rm0_2 (Z : State) (q0 : Int64) (p1 : Int32) (p2 : Int32) (p3 : Int32) (h0 : Heap) (n0 : Nat) (v : Option Value) (h : Heap) (L : List Loc) : Prop := (v = some (.int (1 : Int32)) ∧ Fr n0 L)
set_option maxRecDepth 65536 in
set_option maxHeartbeats 40000000 in
theorem rm0_2 (l : Launch) (Z : State) (a0 : Array Value) (hw : ∀ d ∈ tables_1, d.before a0 Z = true) (ws : List Jvm.Cond) (q0 : Int64) (p1 : Int32) (p2 : Int32) (p3 : Int32) (h0 : Heap) (n0 : Nat) (Z0 : n0 ≤ h0.size) (hc138 : ¬ ((vN p1 p2 p3) < (1 : Int32))) (hc170 : ¬ ((vN p1 p2 p3) < (2 : Int32))) (hc204 : (vN p1 p2 p3) < (3 : Int32)) (hc238 : (vN p1 p2 p3) < (4 : Int32)) :
    MetFree l x (head1 (Jvm.Cond.code x code maxLocals ret :: ws) room_1) (fun a U => a = #[(.long q0), (.int p1), (.int p2), (.int p3)] ∧ Z.Warmed39 U.vm ∧ U.heap = h0) (fun _ _ _ _ _ => True) (fun _ U o U' => ∃ v L, o = .returned v ∧ Q_rm0_2 Z q0 p1 p2 p3 h0 n0 v U'.heap L ∧ ReturnedEndW U o U' L room_1.cells room_1.slots) := by
  refine MetFree.of_bodySF (plainFor_of_name pn_0) hisR ?_
  intro p e s m args below meth c s₁ Bd hml0 hP hK
  obtain ⟨rfl, hZ, hh⟩ := hP
  have hx := Bd.exec
  have hby := Bd.bytes
  have hml : c.maxLocals = 13 := hml0
  have hown : s.vm.findClass "com/example/packwise/packwise/ByteArraySourceReadBytePinLaw" = some m.cls := findClass_of_methodNamed Bd.named
  have hnm := (name_of_methodNamed Bd.named Bd.method).1
  have X0 : Stand p l e room_1 s m #[(.long q0), (.int p1), (.int p2), (.int p3)] below meth c s₁ [] 0 0 := Stand.of_body Bd
  have e0 : s₁.heap = h0 := by rw [← hh, Bd.state]; rfl
  have N0 := Fr.nil n0
  have pre0 : ∀ t, Steps p.tables e below (s₁.setTop (mkF m 0 #[.val (.long q0), .second, .val (.int p1), .val (.int p2), .val (.int p3), .unset, .unset, .unset, .unset, .unset, .unset, .unset, .unset] [])) t → Steps p.tables e below (s₁.setTop (entryFrame m #[(.long q0), (.int p1), (.int p2), (.int p3)] maxLocals)) t := fun t k => castTop (ef_0 m q0 p1 p2 p3) k
  obtain ⟨T1, h1, k1, X1, e1, E1, A1, Ex1, st1⟩ := newPE X0 hx hZ (hw _ (List.mem_of_getElem? (i := 0) rfl)) e0 (g := (mkF m 2 #[.val (.long q0), .second, .val (.int p1), .val (.int p2), .val (.int p3), .unset, .unset, .unset, .unset, .unset, .unset, .unset, .unset] [(.int (8 : Int32))])) rfl (hb hby at_2) rfl (by decide) (cap := 8) (by decide) (by decide) (by decide) (by decide) (ad := "[B") (by decide)
  obtain ⟨b1, g1⟩ : ∃ z, z = Array.size h0 := ⟨_, rfl⟩
  rw [← g1] at A1 st1 Ex1
  have G1 : n0 ≤ b1 := Nat.le_trans Z0 (Nat.le_of_eq g1.symm)
  have Z1 : n0 ≤ Array.size h1 := Nat.le_trans Z0 E1.1
  have V1_b1 : ArrL .byte Z h1 b1 [(0 : Int32), (0 : Int32), (0 : Int32), (0 : Int32), (0 : Int32), (0 : Int32), (0 : Int32), (0 : Int32)] := ArrL.new (n := 8) (Arv.new A1 (by decide)) (by decide)
  obtain ⟨_, _, ⟨T2, L2, k2, n2⟩, -, X2, ⟨Lc2, hQ2, l2, y2, z2⟩, st2⟩ := Jvm.LawKit.callS X1 hx (y := (⟨"com/example/packwise/packwise/ByteArraySourceReadBytePinLaw", "at", "(JI)B"⟩ : MethodName)) hown (mvT hZ (hw _ (List.mem_of_getElem? (i := 1) rfl))) (mvT hZ (hw _ (List.mem_of_getElem? (i := 2) rfl))) (mvT hZ (hw _ (List.mem_of_getElem? (i := 3) rfl))) (mvT hZ (hw _ (List.mem_of_getElem? (i := 4) rfl))) (by decide) (backOf (W := 2) (rm1 l Z a0 hw [] q0 (0 : Int32) h1 n0 Z1) hZ (hw _ (List.mem_of_getElem? (i := 4) rfl)) (hw _ (List.mem_of_getElem? (i := 3) rfl)) (by decide) (by decide)) (g := (mkF m 11 #[.val (.long q0), .second, .val (.int p1), .val (.int p2), .val (.int p3), .val (.ref b1), .unset, .unset, .unset, .unset, .unset, .unset, .unset] [(.int (0 : Int32)), (.long q0), (.int (0 : Int32)), (.ref b1)])) rfl (by rw [hml]; rfl) (argsL := [(.long q0), (.int (0 : Int32))]) (rest := [(.int (0 : Int32)), (.ref b1)]) (lenOf pd6 rfl) rfl (by show 2 * 0 + _ ≤ _; exact Nat.le_of_eq rfl) (hb hby at_11) (fun _ _ => ⟨rfl, e1, (by decide : 1 + 0 ≤ _), (by decide : 8 + 0 ≤ _)⟩)
  dsimp only [Pt.U, Pt.locs, Pt.cells, Pt.slots] at X2 l2 y2 z2 st2 hQ2
  subst y2 z2
  obtain ⟨rfl, N2q, e2⟩ := hQ2
  have N2 : Fr n0 L2 := by rw [l2]; exact Fr.app N0 N2q
  obtain ⟨T3, h3, X3, e3, W3, U3, st3⟩ := own_al_stB X2 hx hZ e2 V1_b1 (g := (mkF m 14 #[.val (.long q0), .second, .val (.int p1), .val (.int p2), .val (.int p3), .val (.ref b1), .unset, .unset, .unset, .unset, .unset, .unset, .unset] [(.int (F1_0 q0 (0 : Int32))), (.int (0 : Int32)), (.ref b1)])) (by decide) (Nat.le_of_ble_eq_true rfl) rfl rfl (hb hby at_14)
  have N3 := Fr.snoc X3 N2 G1
  have f3_E_b1 : Exa Z h3 b1 "[B" := Ex1.wr W3
  have Z3 : n0 ≤ Array.size h3 := Nat.le_trans Z1 (Keep.of_wr W3).1
  have V3_b1 : ArrL .byte Z h3 b1 [(nar .byte (F1_0 q0 (0 : Int32))), (0 : Int32), (0 : Int32), (0 : Int32), (0 : Int32), (0 : Int32), (0 : Int32), (0 : Int32)] := U3
  obtain ⟨_, _, ⟨T4, L4, k4, n4⟩, -, X4, ⟨Lc4, hQ4, l4, y4, z4⟩, st4⟩ := Jvm.LawKit.callS X3 hx (y := (⟨"com/example/packwise/packwise/ByteArraySourceReadBytePinLaw", "at", "(JI)B"⟩ : MethodName)) hown (mvT hZ (hw _ (List.mem_of_getElem? (i := 1) rfl))) (mvT hZ (hw _ (List.mem_of_getElem? (i := 2) rfl))) (mvT hZ (hw _ (List.mem_of_getElem? (i := 3) rfl))) (mvT hZ (hw _ (List.mem_of_getElem? (i := 4) rfl))) (by decide) (backOf (W := 2) (rm1 l Z a0 hw [] q0 (1 : Int32) h3 n0 Z3) hZ (hw _ (List.mem_of_getElem? (i := 4) rfl)) (hw _ (List.mem_of_getElem? (i := 3) rfl)) (by decide) (by decide)) (g := (mkF m 20 #[.val (.long q0), .second, .val (.int p1), .val (.int p2), .val (.int p3), .val (.ref b1), .unset, .unset, .unset, .unset, .unset, .unset, .unset] [(.int (1 : Int32)), (.long q0), (.int (1 : Int32)), (.ref b1)])) rfl (by rw [hml]; rfl) (argsL := [(.long q0), (.int (1 : Int32))]) (rest := [(.int (1 : Int32)), (.ref b1)]) (lenOf pd6 rfl) rfl (by show 2 * 0 + _ ≤ _; exact Nat.le_of_eq rfl) (hb hby at_20) (fun _ _ => ⟨rfl, e3, (by decide : 1 + 0 ≤ _), (by decide : 8 + 0 ≤ _)⟩)
  dsimp only [Pt.U, Pt.locs, Pt.cells, Pt.slots] at X4 l4 y4 z4 st4 hQ4
  subst y4 z4
  obtain ⟨rfl, N4q, e4⟩ := hQ4
  have N4 : Fr n0 L4 := by rw [l4]; exact Fr.app N3 N4q
  obtain ⟨T5, h5, X5, e5, W5, U5, st5⟩ := own_al_stB X4 hx hZ e4 V3_b1 (g := (mkF m 23 #[.val (.long q0), .second, .val (.int p1), .val (.int p2), .val (.int p3), .val (.ref b1), .unset, .unset, .unset, .unset, .unset, .unset, .unset] [(.int (F1_0 q0 (1 : Int32))), (.int (1 : Int32)), (.ref b1)])) (by decide) (Nat.le_of_ble_eq_true rfl) rfl rfl (hb hby at_23)
  have N5 := Fr.snoc X5 N4 G1
  have f5_E_b1 : Exa Z h5 b1 "[B" := f3_E_b1.wr W5
  have Z5 : n0 ≤ Array.size h5 := Nat.le_trans Z3 (Keep.of_wr W5).1
  have V5_b1 : ArrL .byte Z h5 b1 [(nar .byte (F1_0 q0 (0 : Int32))), (nar .byte (F1_0 q0 (1 : Int32))), (0 : Int32), (0 : Int32), (0 : Int32), (0 : Int32), (0 : Int32), (0 : Int32)] := U5
  obtain ⟨_, _, ⟨T6, L6, k6, n6⟩, -, X6, ⟨Lc6, hQ6, l6, y6, z6⟩, st6⟩ := Jvm.LawKit.callS X5 hx (y := (⟨"com/example/packwise/packwise/ByteArraySourceReadBytePinLaw", "at", "(JI)B"⟩ : MethodName)) hown (mvT hZ (hw _ (List.mem_of_getElem? (i := 1) rfl))) (mvT hZ (hw _ (List.mem_of_getElem? (i := 2) rfl))) (mvT hZ (hw _ (List.mem_of_getElem? (i := 3) rfl))) (mvT hZ (hw _ (List.mem_of_getElem? (i := 4) rfl))) (by decide) (backOf (W := 2) (rm1 l Z a0 hw [] q0 (2 : Int32) h5 n0 Z5) hZ (hw _ (List.mem_of_getElem? (i := 4) rfl)) (hw _ (List.mem_of_getElem? (i := 3) rfl)) (by decide) (by decide)) (g := (mkF m 29 #[.val (.long q0), .second, .val (.int p1), .val (.int p2), .val (.int p3), .val (.ref b1), .unset, .unset, .unset, .unset, .unset, .unset, .unset] [(.int (2 : Int32)), (.long q0), (.int (2 : Int32)), (.ref b1)])) rfl (by rw [hml]; rfl) (argsL := [(.long q0), (.int (2 : Int32))]) (rest := [(.int (2 : Int32)), (.ref b1)]) (lenOf pd6 rfl) rfl (by show 2 * 0 + _ ≤ _; exact Nat.le_of_eq rfl) (hb hby at_29) (fun _ _ => ⟨rfl, e5, (by decide : 1 + 0 ≤ _), (by decide : 8 + 0 ≤ _)⟩)
  dsimp only [Pt.U, Pt.locs, Pt.cells, Pt.slots] at X6 l6 y6 z6 st6 hQ6
  subst y6 z6
  obtain ⟨rfl, N6q, e6⟩ := hQ6
  have N6 : Fr n0 L6 := by rw [l6]; exact Fr.app N5 N6q
  obtain ⟨T7, h7, X7, e7, W7, U7, st7⟩ := own_al_stB X6 hx hZ e6 V5_b1 (g := (mkF m 32 #[.val (.long q0), .second, .val (.int p1), .val (.int p2), .val (.int p3), .val (.ref b1), .unset, .unset, .unset, .unset, .unset, .unset, .unset] [(.int (F1_0 q0 (2 : Int32))), (.int (2 : Int32)), (.ref b1)])) (by decide) (Nat.le_of_ble_eq_true rfl) rfl rfl (hb hby at_32)
  have N7 := Fr.snoc X7 N6 G1
  have f7_E_b1 : Exa Z h7 b1 "[B" := f5_E_b1.wr W7
  have Z7 : n0 ≤ Array.size h7 := Nat.le_trans Z5 (Keep.of_wr W7).1
  have V7_b1 : ArrL .byte Z h7 b1 [(nar .byte (F1_0 q0 (0 : Int32))), (nar .byte (F1_0 q0 (1 : Int32))), (nar .byte (F1_0 q0 (2 : Int32))), (0 : Int32), (0 : Int32), (0 : Int32), (0 : Int32), (0 : Int32)] := U7
  obtain ⟨_, _, ⟨T8, L8, k8, n8⟩, -, X8, ⟨Lc8, hQ8, l8, y8, z8⟩, st8⟩ := Jvm.LawKit.callS X7 hx (y := (⟨"com/example/packwise/packwise/ByteArraySourceReadBytePinLaw", "at", "(JI)B"⟩ : MethodName)) hown (mvT hZ (hw _ (List.mem_of_getElem? (i := 1) rfl))) (mvT hZ (hw _ (List.mem_of_getElem? (i := 2) rfl))) (mvT hZ (hw _ (List.mem_of_getElem? (i := 3) rfl))) (mvT hZ (hw _ (List.mem_of_getElem? (i := 4) rfl))) (by decide) (backOf (W := 2) (rm1 l Z a0 hw [] q0 (3 : Int32) h7 n0 Z7) hZ (hw _ (List.mem_of_getElem? (i := 4) rfl)) (hw _ (List.mem_of_getElem? (i := 3) rfl)) (by decide) (by decide)) (g := (mkF m 38 #[.val (.long q0), .second, .val (.int p1), .val (.int p2), .val (.int p3), .val (.ref b1), .unset, .unset, .unset, .unset, .unset, .unset, .unset] [(.int (3 : Int32)), (.long q0), (.int (3 : Int32)), (.ref b1)])) rfl (by rw [hml]; rfl) (argsL := [(.long q0), (.int (3 : Int32))]) (rest := [(.int (3 : Int32)), (.ref b1)]) (lenOf pd6 rfl) rfl (by show 2 * 0 + _ ≤ _; exact Nat.le_of_eq rfl) (hb hby at_38) (fun _ _ => ⟨rfl, e7, (by decide : 1 + 0 ≤ _), (by decide : 8 + 0 ≤ _)⟩)
  dsimp only [Pt.U, Pt.locs, Pt.cells, Pt.slots] at X8 l8 y8 z8 st8 hQ8
  subst y8 z8
  obtain ⟨rfl, N8q, e8⟩ := hQ8
  have N8 : Fr n0 L8 := by rw [l8]; exact Fr.app N7 N8q
  obtain ⟨T9, h9, X9, e9, W9, U9, st9⟩ := own_al_stB X8 hx hZ e8 V7_b1 (g := (mkF m 41 #[.val (.long q0), .second, .val (.int p1), .val (.int p2), .val (.int p3), .val (.ref b1), .unset, .unset, .unset, .unset, .unset, .unset, .unset] [(.int (F1_0 q0 (3 : Int32))), (.int (3 : Int32)), (.ref b1)])) (by decide) (Nat.le_of_ble_eq_true rfl) rfl rfl (hb hby at_41)
  have N9 := Fr.snoc X9 N8 G1
  have f9_E_b1 : Exa Z h9 b1 "[B" := f7_E_b1.wr W9
  have Z9 : n0 ≤ Array.size h9 := Nat.le_trans Z7 (Keep.of_wr W9).1
  have V9_b1 : ArrL .byte Z h9 b1 [(nar .byte (F1_0 q0 (0 : Int32))), (nar .byte (F1_0 q0 (1 : Int32))), (nar .byte (F1_0 q0 (2 : Int32))), (nar .byte (F1_0 q0 (3 : Int32))), (0 : Int32), (0 : Int32), (0 : Int32), (0 : Int32)] := U9
  obtain ⟨_, _, ⟨T10, L10, k10, n10⟩, -, X10, ⟨Lc10, hQ10, l10, y10, z10⟩, st10⟩ := Jvm.LawKit.callS X9 hx (y := (⟨"com/example/packwise/packwise/ByteArraySourceReadBytePinLaw", "at", "(JI)B"⟩ : MethodName)) hown (mvT hZ (hw _ (List.mem_of_getElem? (i := 1) rfl))) (mvT hZ (hw _ (List.mem_of_getElem? (i := 2) rfl))) (mvT hZ (hw _ (List.mem_of_getElem? (i := 3) rfl))) (mvT hZ (hw _ (List.mem_of_getElem? (i := 4) rfl))) (by decide) (backOf (W := 2) (rm1 l Z a0 hw [] q0 (4 : Int32) h9 n0 Z9) hZ (hw _ (List.mem_of_getElem? (i := 4) rfl)) (hw _ (List.mem_of_getElem? (i := 3) rfl)) (by decide) (by decide)) (g := (mkF m 47 #[.val (.long q0), .second, .val (.int p1), .val (.int p2), .val (.int p3), .val (.ref b1), .unset, .unset, .unset, .unset, .unset, .unset, .unset] [(.int (4 : Int32)), (.long q0), (.int (4 : Int32)), (.ref b1)])) rfl (by rw [hml]; rfl) (argsL := [(.long q0), (.int (4 : Int32))]) (rest := [(.int (4 : Int32)), (.ref b1)]) (lenOf pd6 rfl) rfl (by show 2 * 0 + _ ≤ _; exact Nat.le_of_eq rfl) (hb hby at_47) (fun _ _ => ⟨rfl, e9, (by decide : 1 + 0 ≤ _), (by decide : 8 + 0 ≤ _)⟩)
  dsimp only [Pt.U, Pt.locs, Pt.cells, Pt.slots] at X10 l10 y10 z10 st10 hQ10
  subst y10 z10
  obtain ⟨rfl, N10q, e10⟩ := hQ10
  have N10 : Fr n0 L10 := by rw [l10]; exact Fr.app N9 N10q
  obtain ⟨T11, h11, X11, e11, W11, U11, st11⟩ := own_al_stB X10 hx hZ e10 V9_b1 (g := (mkF m 50 #[.val (.long q0), .second, .val (.int p1), .val (.int p2), .val (.int p3), .val (.ref b1), .unset, .unset, .unset, .unset, .unset, .unset, .unset] [(.int (F1_0 q0 (4 : Int32))), (.int (4 : Int32)), (.ref b1)])) (by decide) (Nat.le_of_ble_eq_true rfl) rfl rfl (hb hby at_50)
  have N11 := Fr.snoc X11 N10 G1
  have f11_E_b1 : Exa Z h11 b1 "[B" := f9_E_b1.wr W11
  have Z11 : n0 ≤ Array.size h11 := Nat.le_trans Z9 (Keep.of_wr W11).1
  have V11_b1 : ArrL .byte Z h11 b1 [(nar .byte (F1_0 q0 (0 : Int32))), (nar .byte (F1_0 q0 (1 : Int32))), (nar .byte (F1_0 q0 (2 : Int32))), (nar .byte (F1_0 q0 (3 : Int32))), (nar .byte (F1_0 q0 (4 : Int32))), (0 : Int32), (0 : Int32), (0 : Int32)] := U11
  obtain ⟨_, _, ⟨T12, L12, k12, n12⟩, -, X12, ⟨Lc12, hQ12, l12, y12, z12⟩, st12⟩ := Jvm.LawKit.callS X11 hx (y := (⟨"com/example/packwise/packwise/ByteArraySourceReadBytePinLaw", "at", "(JI)B"⟩ : MethodName)) hown (mvT hZ (hw _ (List.mem_of_getElem? (i := 1) rfl))) (mvT hZ (hw _ (List.mem_of_getElem? (i := 2) rfl))) (mvT hZ (hw _ (List.mem_of_getElem? (i := 3) rfl))) (mvT hZ (hw _ (List.mem_of_getElem? (i := 4) rfl))) (by decide) (backOf (W := 2) (rm1 l Z a0 hw [] q0 (5 : Int32) h11 n0 Z11) hZ (hw _ (List.mem_of_getElem? (i := 4) rfl)) (hw _ (List.mem_of_getElem? (i := 3) rfl)) (by decide) (by decide)) (g := (mkF m 56 #[.val (.long q0), .second, .val (.int p1), .val (.int p2), .val (.int p3), .val (.ref b1), .unset, .unset, .unset, .unset, .unset, .unset, .unset] [(.int (5 : Int32)), (.long q0), (.int (5 : Int32)), (.ref b1)])) rfl (by rw [hml]; rfl) (argsL := [(.long q0), (.int (5 : Int32))]) (rest := [(.int (5 : Int32)), (.ref b1)]) (lenOf pd6 rfl) rfl (by show 2 * 0 + _ ≤ _; exact Nat.le_of_eq rfl) (hb hby at_56) (fun _ _ => ⟨rfl, e11, (by decide : 1 + 0 ≤ _), (by decide : 8 + 0 ≤ _)⟩)
  dsimp only [Pt.U, Pt.locs, Pt.cells, Pt.slots] at X12 l12 y12 z12 st12 hQ12
  subst y12 z12
  obtain ⟨rfl, N12q, e12⟩ := hQ12
  have N12 : Fr n0 L12 := by rw [l12]; exact Fr.app N11 N12q
  obtain ⟨T13, h13, X13, e13, W13, U13, st13⟩ := own_al_stB X12 hx hZ e12 V11_b1 (g := (mkF m 59 #[.val (.long q0), .second, .val (.int p1), .val (.int p2), .val (.int p3), .val (.ref b1), .unset, .unset, .unset, .unset, .unset, .unset, .unset] [(.int (F1_0 q0 (5 : Int32))), (.int (5 : Int32)), (.ref b1)])) (by decide) (Nat.le_of_ble_eq_true rfl) rfl rfl (hb hby at_59)
  have N13 := Fr.snoc X13 N12 G1
  have f13_E_b1 : Exa Z h13 b1 "[B" := f11_E_b1.wr W13
  have Z13 : n0 ≤ Array.size h13 := Nat.le_trans Z11 (Keep.of_wr W13).1
  have V13_b1 : ArrL .byte Z h13 b1 [(nar .byte (F1_0 q0 (0 : Int32))), (nar .byte (F1_0 q0 (1 : Int32))), (nar .byte (F1_0 q0 (2 : Int32))), (nar .byte (F1_0 q0 (3 : Int32))), (nar .byte (F1_0 q0 (4 : Int32))), (nar .byte (F1_0 q0 (5 : Int32))), (0 : Int32), (0 : Int32)] := U13
  obtain ⟨_, _, ⟨T14, L14, k14, n14⟩, -, X14, ⟨Lc14, hQ14, l14, y14, z14⟩, st14⟩ := Jvm.LawKit.callS X13 hx (y := (⟨"com/example/packwise/packwise/ByteArraySourceReadBytePinLaw", "at", "(JI)B"⟩ : MethodName)) hown (mvT hZ (hw _ (List.mem_of_getElem? (i := 1) rfl))) (mvT hZ (hw _ (List.mem_of_getElem? (i := 2) rfl))) (mvT hZ (hw _ (List.mem_of_getElem? (i := 3) rfl))) (mvT hZ (hw _ (List.mem_of_getElem? (i := 4) rfl))) (by decide) (backOf (W := 2) (rm1 l Z a0 hw [] q0 (6 : Int32) h13 n0 Z13) hZ (hw _ (List.mem_of_getElem? (i := 4) rfl)) (hw _ (List.mem_of_getElem? (i := 3) rfl)) (by decide) (by decide)) (g := (mkF m 67 #[.val (.long q0), .second, .val (.int p1), .val (.int p2), .val (.int p3), .val (.ref b1), .unset, .unset, .unset, .unset, .unset, .unset, .unset] [(.int (6 : Int32)), (.long q0), (.int (6 : Int32)), (.ref b1)])) rfl (by rw [hml]; rfl) (argsL := [(.long q0), (.int (6 : Int32))]) (rest := [(.int (6 : Int32)), (.ref b1)]) (lenOf pd6 rfl) rfl (by show 2 * 0 + _ ≤ _; exact Nat.le_of_eq rfl) (hb hby at_67) (fun _ _ => ⟨rfl, e13, (by decide : 1 + 0 ≤ _), (by decide : 8 + 0 ≤ _)⟩)
  dsimp only [Pt.U, Pt.locs, Pt.cells, Pt.slots] at X14 l14 y14 z14 st14 hQ14
  subst y14 z14
  obtain ⟨rfl, N14q, e14⟩ := hQ14
  have N14 : Fr n0 L14 := by rw [l14]; exact Fr.app N13 N14q
  obtain ⟨T15, h15, X15, e15, W15, U15, st15⟩ := own_al_stB X14 hx hZ e14 V13_b1 (g := (mkF m 70 #[.val (.long q0), .second, .val (.int p1), .val (.int p2), .val (.int p3), .val (.ref b1), .unset, .unset, .unset, .unset, .unset, .unset, .unset] [(.int (F1_0 q0 (6 : Int32))), (.int (6 : Int32)), (.ref b1)])) (by decide) (Nat.le_of_ble_eq_true rfl) rfl rfl (hb hby at_70)
  have N15 := Fr.snoc X15 N14 G1
  have f15_E_b1 : Exa Z h15 b1 "[B" := f13_E_b1.wr W15
  have Z15 : n0 ≤ Array.size h15 := Nat.le_trans Z13 (Keep.of_wr W15).1
  have V15_b1 : ArrL .byte Z h15 b1 [(nar .byte (F1_0 q0 (0 : Int32))), (nar .byte (F1_0 q0 (1 : Int32))), (nar .byte (F1_0 q0 (2 : Int32))), (nar .byte (F1_0 q0 (3 : Int32))), (nar .byte (F1_0 q0 (4 : Int32))), (nar .byte (F1_0 q0 (5 : Int32))), (nar .byte (F1_0 q0 (6 : Int32))), (0 : Int32)] := U15
  obtain ⟨_, _, ⟨T16, L16, k16, n16⟩, -, X16, ⟨Lc16, hQ16, l16, y16, z16⟩, st16⟩ := Jvm.LawKit.callS X15 hx (y := (⟨"com/example/packwise/packwise/ByteArraySourceReadBytePinLaw", "at", "(JI)B"⟩ : MethodName)) hown (mvT hZ (hw _ (List.mem_of_getElem? (i := 1) rfl))) (mvT hZ (hw _ (List.mem_of_getElem? (i := 2) rfl))) (mvT hZ (hw _ (List.mem_of_getElem? (i := 3) rfl))) (mvT hZ (hw _ (List.mem_of_getElem? (i := 4) rfl))) (by decide) (backOf (W := 2) (rm1 l Z a0 hw [] q0 (7 : Int32) h15 n0 Z15) hZ (hw _ (List.mem_of_getElem? (i := 4) rfl)) (hw _ (List.mem_of_getElem? (i := 3) rfl)) (by decide) (by decide)) (g := (mkF m 78 #[.val (.long q0), .second, .val (.int p1), .val (.int p2), .val (.int p3), .val (.ref b1), .unset, .unset, .unset, .unset, .unset, .unset, .unset] [(.int (7 : Int32)), (.long q0), (.int (7 : Int32)), (.ref b1)])) rfl (by rw [hml]; rfl) (argsL := [(.long q0), (.int (7 : Int32))]) (rest := [(.int (7 : Int32)), (.ref b1)]) (lenOf pd6 rfl) rfl (by show 2 * 0 + _ ≤ _; exact Nat.le_of_eq rfl) (hb hby at_78) (fun _ _ => ⟨rfl, e15, (by decide : 1 + 0 ≤ _), (by decide : 8 + 0 ≤ _)⟩)
  dsimp only [Pt.U, Pt.locs, Pt.cells, Pt.slots] at X16 l16 y16 z16 st16 hQ16
  subst y16 z16
  obtain ⟨rfl, N16q, e16⟩ := hQ16
  have N16 : Fr n0 L16 := by rw [l16]; exact Fr.app N15 N16q
  obtain ⟨T17, h17, X17, e17, W17, U17, st17⟩ := own_al_stB X16 hx hZ e16 V15_b1 (g := (mkF m 81 #[.val (.long q0), .second, .val (.int p1), .val (.int p2), .val (.int p3), .val (.ref b1), .unset, .unset, .unset, .unset, .unset, .unset, .unset] [(.int (F1_0 q0 (7 : Int32))), (.int (7 : Int32)), (.ref b1)])) (by decide) (Nat.le_of_ble_eq_true rfl) rfl rfl (hb hby at_81)
  have N17 := Fr.snoc X17 N16 G1
  have f17_E_b1 : Exa Z h17 b1 "[B" := f15_E_b1.wr W17
  have Z17 : n0 ≤ Array.size h17 := Nat.le_trans Z15 (Keep.of_wr W17).1
  have V17_b1 : ArrL .byte Z h17 b1 [(nar .byte (F1_0 q0 (0 : Int32))), (nar .byte (F1_0 q0 (1 : Int32))), (nar .byte (F1_0 q0 (2 : Int32))), (nar .byte (F1_0 q0 (3 : Int32))), (nar .byte (F1_0 q0 (4 : Int32))), (nar .byte (F1_0 q0 (5 : Int32))), (nar .byte (F1_0 q0 (6 : Int32))), (nar .byte (F1_0 q0 (7 : Int32)))] := U17
  have Vb : ArrL .byte Z h17 b1 (bys q0) := V17_b1
  obtain ⟨_, _, ⟨T18, L18, k18, n18⟩, -, X18, ⟨Lc18, hQ18, l18, y18, z18⟩, st18⟩ := Jvm.LawKit.callS X17 hx (y := (⟨"java/lang/Math", "min", "(II)I"⟩ : MethodName)) hown (mvT hZ (hw _ (List.mem_of_getElem? (i := 6) rfl))) (mvT hZ (hw _ (List.mem_of_getElem? (i := 7) rfl))) (mvT hZ (hw _ (List.mem_of_getElem? (i := 8) rfl))) (mvT hZ (hw _ (List.mem_of_getElem? (i := 9) rfl))) (by decide) (backOf (W := 0) (rm2 l Z a0 hw [] ((p3 &&& (7 : Int32)) - ((p3 &&& (7 : Int32)) / (5 : Int32)) * (5 : Int32)) (vLen p1 p2) h17 n0 Z17) hZ (hw _ (List.mem_of_getElem? (i := 9) rfl)) (hw _ (List.mem_of_getElem? (i := 8) rfl)) (by decide) (by decide)) (g := (mkF m 112 #[.val (.long q0), .second, .val (.int p1), .val (.int p2), .val (.int p3), .val (.ref b1), .val (.int (vO p1)), .val (.int (vLen p1 p2)), .unset, .unset, .unset, .unset, .unset] [(.int (vLen p1 p2)), (.int ((p3 &&& (7 : Int32)) - ((p3 &&& (7 : Int32)) / (5 : Int32)) * (5 : Int32)))])) rfl (by rw [hml]; rfl) (argsL := [(.int ((p3 &&& (7 : Int32)) - ((p3 &&& (7 : Int32)) / (5 : Int32)) * (5 : Int32))), (.int (vLen p1 p2))]) (rest := []) (lenOf pd7 rfl) rfl (by show 2 * 0 + _ ≤ _; exact Nat.le_of_eq rfl) (hb hby at_112) (fun _ _ => ⟨rfl, e17, (by decide : 1 + 0 ≤ _), (by decide : 8 + 0 ≤ _)⟩)
  dsimp only [Pt.U, Pt.locs, Pt.cells, Pt.slots] at X18 l18 y18 z18 st18 hQ18
  subst y18 z18
  obtain ⟨rfl, N18q, e18⟩ := hQ18
  have N18 : Fr n0 L18 := by rw [l18]; exact Fr.app N17 N18q
  obtain ⟨T19, h19, X19, e19, E19, A19, D19, -, st19⟩ := newO X18 hx hZ hown (hw _ (List.mem_of_getElem? (i := 10) rfl)) (hw _ (List.mem_of_getElem? (i := 11) rfl)) (hw _ (List.mem_of_getElem? (i := 12) rfl)) e18 (g := (mkF m 117 #[.val (.long q0), .second, .val (.int p1), .val (.int p2), .val (.int p3), .val (.ref b1), .val (.int (vO p1)), .val (.int (vLen p1 p2)), .val (.int (vN p1 p2 p3)), .unset, .unset, .unset, .unset] [])) rfl (hb hby at_117) (by decide) (by decide)
  obtain ⟨b19, g19⟩ : ∃ z, z = Array.size h17 := ⟨_, rfl⟩
  rw [← g19] at A19 D19 st19
  have G19 : n0 ≤ b19 := Nat.le_trans Z17 (Nat.le_of_eq g19.symm)
  have ne_b1_b19 : b1 ≠ b19 := Nat.ne_of_lt (Nat.lt_of_lt_of_le f17_E_b1.lt (Nat.le_of_eq g19.symm))
  have f19_E_b1 : Exa Z h19 b1 "[B" := f17_E_b1.ext E19
  have f19_V_b1 : ArrL .byte Z h19 b1 (bys q0) := Vb.ext E19
  have Z19 : n0 ≤ Array.size h19 := Nat.le_trans Z17 E19.1
  have F19_bytes : Fld Z h19 b19 "com/example/packwise/packwise/ByteArraySource" "bytes" "[B" .null := D19 (Or.inr (hw _ (List.mem_of_getElem? (i := 47) rfl))) (ty := (.array .byte)) (by decide)
  have F19_end : Fld Z h19 b19 "com/example/packwise/packwise/ByteArraySource" "end" "I" (.int (0 : Int32)) := D19 (Or.inr (hw _ (List.mem_of_getElem? (i := 49) rfl))) (ty := .int) (by decide)
  have F19_position : Fld Z h19 b19 "com/example/packwise/packwise/ByteArraySource" "position" "I" (.int (0 : Int32)) := D19 (Or.inl (hw _ (List.mem_of_getElem? (i := 51) rfl))) (ty := .int) (by decide)
  obtain ⟨_, _, ⟨T20, L20, k20, n20⟩, -, X20', S20', hge20, ⟨Lc20, hQ20, l20, y20, z20⟩, st20⟩ := X19.specialBackS hx (y := (⟨"com/example/packwise/packwise/ByteArraySource", "<init>", "([BII)V"⟩ : MethodName)) rfl hown (mvT hZ (hw _ (List.mem_of_getElem? (i := 13) rfl))) (mvT hZ (hw _ (List.mem_of_getElem? (i := 14) rfl))) (mvT hZ (hw _ (List.mem_of_getElem? (i := 15) rfl))) (by decide) (backOfS (W := 1) (rm3 l Z a0 hw [] b19 b1 (vO p1) (vLen p1 p2) (bys q0) h19 n0 Z19 A19 F19_bytes F19_end F19_position G19 f19_E_b1 f19_V_b1 (Ne.symm ne_b1_b19) rfl (own_q1 p1) (own_q2 p1 p2) (own_q3 p1 p2)) hZ (hw _ (List.mem_of_getElem? (i := 15) rfl)) (hw _ (List.mem_of_getElem? (i := 12) rfl)) (by decide) (by decide)) (g := (mkF m 127 #[.val (.long q0), .second, .val (.int p1), .val (.int p2), .val (.int p3), .val (.ref b1), .val (.int (vO p1)), .val (.int (vLen p1 p2)), .val (.int (vN p1 p2 p3)), .unset, .unset, .unset, .unset] [(.int (vLen p1 p2)), (.int (vO p1)), (.ref b1), (.ref b19), (.ref b19)])) rfl (by rw [hml]; rfl) (Steps.refl _) (a := b19) (argsL := [(.ref b1), (.int (vO p1)), (.int (vLen p1 p2))]) (rest := [(.ref b19)]) (lenOf pd3 rfl) rfl (by show 2 * 0 + _ ≤ _; exact Nat.le_of_eq rfl) (hb hby at_127) (fun _ _ => ⟨rfl, e19, (by decide : 2 + 4 ≤ _), (by decide : 11 + 48 ≤ _)⟩)
  dsimp only [Pt.U, Pt.locs, Pt.cells, Pt.slots] at X20' S20' hge20 l20 y20 z20 st20 hQ20
  subst y20 z20
  obtain ⟨X20, S20, hZ20, hown20⟩ := rebS (s := s) (vm0 := s.vm) ((State.WarmedH.refl s).since 0) (Nat.zero_le _) X20' S20' hge20 hZ hown
  obtain ⟨rfl, N20q, K20, Ec20, Fc20_bytes, Fc20_end, Fc20_position⟩ := hQ20
  have f20_E_b1 : Exa Z T20.heap b1 "[B" := f19_E_b1.keep K20
  have f20_V_b1 : ArrL .byte Z T20.heap b1 (bys q0) := f19_V_b1.keep K20 (ninS ne_b1_b19 nin0)
  have Z20 : n0 ≤ Array.size T20.heap := Nat.le_trans Z19 K20.1
  have N20 : Fr n0 L20 := by rw [l20]; exact Fr.app N18 N20q
  obtain ⟨cq21, kq21, q21a, q21b, q21c⟩ := isOf hZ20 rfl Ec20
  obtain ⟨_, _, ⟨T21, L21, k21, n21⟩, -, X21, ⟨Lc21, hQ21, l21, y21, z21⟩, st21⟩ := X20.virtualBack hx (y := (⟨"com/example/packwise/packwise/ByteArraySource", "readByte", "()B"⟩ : MethodName)) (z := (⟨"com/example/packwise/packwise/ByteArraySource", "readByte", "()B"⟩ : MethodName)) hown20 (mvT hZ20 (hw _ (List.mem_of_getElem? (i := 65) rfl))) (mvT hZ20 (hw _ (List.mem_of_getElem? (i := 66) rfl))) (notFace_of_selects (args := #[]) (mvT hZ20 (hw _ (List.mem_of_getElem? (i := 68) rfl)))) (mvT hZ20 (hw _ (List.mem_of_getElem? (i := 68) rfl))) (mvT hZ20 (hw _ (List.mem_of_getElem? (i := 67) rfl))) (by decide) (backOf (W := 0) (rm12 l Z a0 hw [] b19 b1 ((vO p1) + (vLen p1 p2)) (vO p1) (bys q0) T20.heap n0 Z20 Ec20 Fc20_bytes Fc20_end Fc20_position G19 f20_V_b1 (Ne.symm ne_b1_b19) (own_in0 q0 p1 p2 p3 hc138) (own_ne0 p1 p2 p3 hc138)) hZ20 (hw _ (List.mem_of_getElem? (i := 69) rfl)) (hw _ (List.mem_of_getElem? (i := 12) rfl)) (by decide) (by decide)) q21a q21c (g := (mkF m 148 #[.val (.long q0), .second, .val (.int p1), .val (.int p2), .val (.int p3), .val (.ref b1), .val (.int (vO p1)), .val (.int (vLen p1 p2)), .val (.int (vN p1 p2 p3)), .val (.ref b19), .val (.int (1 : Int32)), .unset, .unset] [(.ref b19)])) rfl (by rw [hml]; rfl) (Steps.refl _) (argsL := []) (rest := []) (lenOf pd9 rfl) rfl (by show 2 * 0 + _ ≤ _; exact Nat.le_of_eq rfl) (hb hby at_148) (fun _ _ => ⟨rfl, rfl, (by decide : 6 + 0 ≤ _), (by decide : 59 + 0 ≤ _)⟩)
  dsimp only [Pt.U, Pt.locs, Pt.cells, Pt.slots] at X21 l21 y21 z21 st21 hQ21
  subst y21 z21
  obtain ⟨rfl, N21q, K21, Em21, Fm21_bytes, Fm21_end, Fm21_position⟩ := hQ21
  have f21_E_b1 : Exa Z T21.heap b1 "[B" := f20_E_b1.keep K21
  have f21_V_b1 : ArrL .byte Z T21.heap b1 (bys q0) := f20_V_b1.keep K21 (ninS ne_b1_b19 nin0)
  have Z21 : n0 ≤ Array.size T21.heap := Nat.le_trans Z20 K21.1
  have kp21 : T20.heap.size ≤ Array.size T21.heap := Nat.le_trans (Nat.le_refl _) K21.1
  have N21 : Fr n0 L21 := by rw [l21]; exact Fr.app N20 N21q
  obtain ⟨_, _, ⟨T22, L22, k22, n22⟩, -, X22, ⟨Lc22, hQ22, l22, y22, z22⟩, st22⟩ := Jvm.LawKit.callS X21 hx (y := (⟨"com/example/packwise/packwise/ByteArraySourceReadBytePinLaw", "at", "(JI)B"⟩ : MethodName)) hown20 (mvT hZ20 (hw _ (List.mem_of_getElem? (i := 1) rfl))) (mvT hZ20 (hw _ (List.mem_of_getElem? (i := 2) rfl))) (mvT hZ20 (hw _ (List.mem_of_getElem? (i := 3) rfl))) (mvT hZ20 (hw _ (List.mem_of_getElem? (i := 4) rfl))) (by decide) (backOf (W := 1) (rm1 l Z a0 hw [] q0 (vO p1) T21.heap n0 Z21) hZ20 (hw _ (List.mem_of_getElem? (i := 4) rfl)) (hw _ (List.mem_of_getElem? (i := 3) rfl)) (by decide) (by decide)) (g := (mkF m 154 #[.val (.long q0), .second, .val (.int p1), .val (.int p2), .val (.int p3), .val (.ref b1), .val (.int (vO p1)), .val (.int (vLen p1 p2)), .val (.int (vN p1 p2 p3)), .val (.ref b19), .val (.int (1 : Int32)), .unset, .unset] [(.int (vO p1)), (.long q0), (.int (((bys q0).getD (vO p1).toNatClampNeg 0).toInt8.toInt32))])) rfl (by rw [hml]; rfl) (argsL := [(.long q0), (.int (vO p1))]) (rest := [(.int (((bys q0).getD (vO p1).toNatClampNeg 0).toInt8.toInt32))]) (lenOf pd6 rfl) rfl (by show 2 * 0 + _ ≤ _; exact Nat.le_of_eq rfl) (hb hby at_154) (fun _ _ => ⟨rfl, rfl, (by decide : 6 + 0 ≤ _), (by decide : 59 + 0 ≤ _)⟩)
  dsimp only [Pt.U, Pt.locs, Pt.cells, Pt.slots] at X22 l22 y22 z22 st22 hQ22
  subst y22 z22
  obtain ⟨rfl, N22q, e22⟩ := hQ22
  have N22 : Fr n0 L22 := by rw [l22]; exact Fr.app N21 N22q
  obtain ⟨cq23, kq23, q23a, q23b, q23c⟩ := isOf hZ20 e22 Em21
  obtain ⟨_, _, ⟨T23, L23, k23, n23⟩, -, X23, ⟨Lc23, hQ23, l23, y23, z23⟩, st23⟩ := X22.virtualBack hx (y := (⟨"com/example/packwise/packwise/ByteArraySource", "readByte", "()B"⟩ : MethodName)) (z := (⟨"com/example/packwise/packwise/ByteArraySource", "readByte", "()B"⟩ : MethodName)) hown20 (mvT hZ20 (hw _ (List.mem_of_getElem? (i := 65) rfl))) (mvT hZ20 (hw _ (List.mem_of_getElem? (i := 66) rfl))) (notFace_of_selects (args := #[]) (mvT hZ20 (hw _ (List.mem_of_getElem? (i := 68) rfl)))) (mvT hZ20 (hw _ (List.mem_of_getElem? (i := 68) rfl))) (mvT hZ20 (hw _ (List.mem_of_getElem? (i := 67) rfl))) (by decide) (backOf (W := 0) (rm12 l Z a0 hw [] b19 b1 ((vO p1) + (vLen p1 p2)) ((vO p1) + (1 : Int32)) (bys q0) T21.heap n0 Z21 Em21 Fm21_bytes Fm21_end Fm21_position G19 f21_V_b1 (Ne.symm ne_b1_b19) (own_in1 q0 p1 p2 p3 hc170) (own_ne1 p1 p2 p3 hc170)) hZ20 (hw _ (List.mem_of_getElem? (i := 69) rfl)) (hw _ (List.mem_of_getElem? (i := 12) rfl)) (by decide) (by decide)) q23a q23c (g := (mkF m 180 #[.val (.long q0), .second, .val (.int p1), .val (.int p2), .val (.int p3), .val (.ref b1), .val (.int (vO p1)), .val (.int (vLen p1 p2)), .val (.int (vN p1 p2 p3)), .val (.ref b19), .val (.int (1 : Int32)), .unset, .unset] [(.ref b19)])) rfl (by rw [hml]; rfl) (Steps.refl _) (argsL := []) (rest := []) (lenOf pd9 rfl) rfl (by show 2 * 0 + _ ≤ _; exact Nat.le_of_eq rfl) (hb hby at_180) (fun _ _ => ⟨rfl, e22, (by decide : 6 + 0 ≤ _), (by decide : 59 + 0 ≤ _)⟩)
  dsimp only [Pt.U, Pt.locs, Pt.cells, Pt.slots] at X23 l23 y23 z23 st23 hQ23
  subst y23 z23
  obtain ⟨rfl, N23q, K23, Em23, Fm23_bytes, Fm23_end, Fm23_position⟩ := hQ23
  have f23_E_b1 : Exa Z T23.heap b1 "[B" := f21_E_b1.keep K23
  have f23_V_b1 : ArrL .byte Z T23.heap b1 (bys q0) := f21_V_b1.keep K23 (ninS ne_b1_b19 nin0)
  have Z23 : n0 ≤ Array.size T23.heap := Nat.le_trans Z21 K23.1
  have kp23 : T20.heap.size ≤ Array.size T23.heap := Nat.le_trans kp21 K23.1
  have N23 : Fr n0 L23 := by rw [l23]; exact Fr.app N22 N23q
  obtain ⟨_, _, ⟨T24, L24, k24, n24⟩, -, X24, ⟨Lc24, hQ24, l24, y24, z24⟩, st24⟩ := Jvm.LawKit.callS X23 hx (y := (⟨"com/example/packwise/packwise/ByteArraySourceReadBytePinLaw", "at", "(JI)B"⟩ : MethodName)) hown20 (mvT hZ20 (hw _ (List.mem_of_getElem? (i := 1) rfl))) (mvT hZ20 (hw _ (List.mem_of_getElem? (i := 2) rfl))) (mvT hZ20 (hw _ (List.mem_of_getElem? (i := 3) rfl))) (mvT hZ20 (hw _ (List.mem_of_getElem? (i := 4) rfl))) (by decide) (backOf (W := 1) (rm1 l Z a0 hw [] q0 ((vO p1) + (1 : Int32)) T23.heap n0 Z23) hZ20 (hw _ (List.mem_of_getElem? (i := 4) rfl)) (hw _ (List.mem_of_getElem? (i := 3) rfl)) (by decide) (by decide)) (g := (mkF m 188 #[.val (.long q0), .second, .val (.int p1), .val (.int p2), .val (.int p3), .val (.ref b1), .val (.int (vO p1)), .val (.int (vLen p1 p2)), .val (.int (vN p1 p2 p3)), .val (.ref b19), .val (.int (1 : Int32)), .unset, .unset] [(.int ((vO p1) + (1 : Int32))), (.long q0), (.int (((bys q0).getD ((vO p1) + (1 : Int32)).toNatClampNeg 0).toInt8.toInt32))])) rfl (by rw [hml]; rfl) (argsL := [(.long q0), (.int ((vO p1) + (1 : Int32)))]) (rest := [(.int (((bys q0).getD ((vO p1) + (1 : Int32)).toNatClampNeg 0).toInt8.toInt32))]) (lenOf pd6 rfl) rfl (by show 2 * 0 + _ ≤ _; exact Nat.le_of_eq rfl) (hb hby at_188) (fun _ _ => ⟨rfl, rfl, (by decide : 6 + 0 ≤ _), (by decide : 59 + 0 ≤ _)⟩)
  dsimp only [Pt.U, Pt.locs, Pt.cells, Pt.slots] at X24 l24 y24 z24 st24 hQ24
  subst y24 z24
  obtain ⟨rfl, N24q, e24⟩ := hQ24
  have N24 : Fr n0 L24 := by rw [l24]; exact Fr.app N23 N24q
  obtain ⟨cq25, kq25, q25a, q25b, q25c⟩ := isOf hZ20 e24 Em23
  obtain ⟨_, _, ⟨T25, L25, k25, n25⟩, -, X25, ⟨Lc25, hQ25, l25, y25, z25⟩, st25⟩ := X24.virtualBack hx (y := (⟨"com/example/packwise/packwise/ByteArraySource", "skipBytes", "(J)J"⟩ : MethodName)) (z := (⟨"com/example/packwise/packwise/ByteArraySource", "skipBytes", "(J)J"⟩ : MethodName)) hown20 (mvT hZ20 (hw _ (List.mem_of_getElem? (i := 53) rfl))) (mvT hZ20 (hw _ (List.mem_of_getElem? (i := 54) rfl))) (notFace_of_selects (args := #[]) (mvT hZ20 (hw _ (List.mem_of_getElem? (i := 56) rfl)))) (mvT hZ20 (hw _ (List.mem_of_getElem? (i := 56) rfl))) (mvT hZ20 (hw _ (List.mem_of_getElem? (i := 55) rfl))) (by decide) (backOf (W := 0) (rm9 l Z a0 hw [] b19 (8 : Int64) ((vO p1) + (vLen p1 p2)) (((vO p1) + (1 : Int32)) + (1 : Int32)) T23.heap n0 Z23 Em23 Fm23_end Fm23_position G19 (by decide)) hZ20 (hw _ (List.mem_of_getElem? (i := 57) rfl)) (hw _ (List.mem_of_getElem? (i := 12) rfl)) (by decide) (by decide)) q25a q25c (g := (mkF m 274 #[.val (.long q0), .second, .val (.int p1), .val (.int p2), .val (.int p3), .val (.ref b1), .val (.int (vO p1)), .val (.int (vLen p1 p2)), .val (.int (vN p1 p2 p3)), .val (.ref b19), .val (.int (1 : Int32)), .unset, .unset] [(.long (8 : Int64)), (.ref b19)])) rfl (by rw [hml]; rfl) (Steps.refl _) (argsL := [(.long (8 : Int64))]) (rest := []) (lenOf pd8 rfl) rfl (by show 2 * 0 + _ ≤ _; exact Nat.le_of_eq rfl) (hb hby at_274) (fun _ _ => ⟨rfl, e24, (by decide : 6 + 0 ≤ _), (by decide : 59 + 0 ≤ _)⟩)
  dsimp only [Pt.U, Pt.locs, Pt.cells, Pt.slots] at X25 l25 y25 z25 st25 hQ25
  subst y25 z25
  obtain ⟨rfl, N25q, K25, Em25, Fm25_end, Fm25_position⟩ := hQ25
  have f25_E_b1 : Exa Z T25.heap b1 "[B" := f23_E_b1.keep K25
  have f25_V_b1 : ArrL .byte Z T25.heap b1 (bys q0) := f23_V_b1.keep K25 (ninS ne_b1_b19 nin0)
  have Z25 : n0 ≤ Array.size T25.heap := Nat.le_trans Z23 K25.1
  have kp25 : T20.heap.size ≤ Array.size T25.heap := Nat.le_trans kp23 K25.1
  have N25 : Fr n0 L25 := by rw [l25]; exact Fr.app N24 N25q
  obtain ⟨fs, hr, hrun, hended, hEnd⟩ := X25.leaveW (s := s) (vm₁ := T20.vm) S20 kp25 (v := some (.int (1 : Int32))) (fun h => by rw [Bd.returns] at h; cases h)
  refine ⟨_, _, pre0 _ ?_, hrun, hended, _, _, rfl, ⟨rfl, N25⟩, hEnd.1, hEnd.2.1, hEnd.2.2.1, hEnd.2.2.2.mono (by decide) (by decide)⟩
  show Steps p.tables e below (s₁.setTop (mkF m 0 #[.val (.long q0), .second, .val (.int p1), .val (.int p2), .val (.int p3), .unset, .unset, .unset, .unset, .unset, .unset, .unset, .unset] [])) _
  refine XS.bipush X0.here hx rfl (hb hby at_0) ?_
  show Steps p.tables e below (s₁.setTop (mkF m 2 #[.val (.long q0), .second, .val (.int p1), .val (.int p2), .val (.int p3), .unset, .unset, .unset, .unset, .unset, .unset, .unset, .unset] [(.int (8 : Int32))])) _
  refine st1 _ ?_
  show Steps p.tables e below (T1.setTop (mkF m 4 #[.val (.long q0), .second, .val (.int p1), .val (.int p2), .val (.int p3), .unset, .unset, .unset, .unset, .unset, .unset, .unset, .unset] [(.ref b1)])) _
  refine XS.astore X1.here hx rfl (hb hby at_4) rfl rfl (l' := #[.val (.long q0), .second, .val (.int p1), .val (.int p2), .val (.int p3), .val (.ref b1), .unset, .unset, .unset, .unset, .unset, .unset, .unset]) rfl ?_
  show Steps p.tables e below (T1.setTop (mkF m 6 #[.val (.long q0), .second, .val (.int p1), .val (.int p2), .val (.int p3), .val (.ref b1), .unset, .unset, .unset, .unset, .unset, .unset, .unset] [])) _
  refine XS.aload X1.here hx rfl (hb hby at_6) rfl rfl ?_
  show Steps p.tables e below (T1.setTop (mkF m 8 #[.val (.long q0), .second, .val (.int p1), .val (.int p2), .val (.int p3), .val (.ref b1), .unset, .unset, .unset, .unset, .unset, .unset, .unset] [(.ref b1)])) _
  refine XS.iconst X1.here hx rfl (hb hby at_8) ?_
  show Steps p.tables e below (T1.setTop (mkF m 9 #[.val (.long q0), .second, .val (.int p1), .val (.int p2), .val (.int p3), .val (.ref b1), .unset, .unset, .unset, .unset, .unset, .unset, .unset] [(.int (0 : Int32)), (.ref b1)])) _
  refine XS.lloadN X1.here hx rfl (hb hby at_9) rfl ?_
  show Steps p.tables e below (T1.setTop (mkF m 10 #[.val (.long q0), .second, .val (.int p1), .val (.int p2), .val (.int p3), .val (.ref b1), .unset, .unset, .unset, .unset, .unset, .unset, .unset] [(.long q0), (.int (0 : Int32)), (.ref b1)])) _
  refine XS.iconst X1.here hx rfl (hb hby at_10) ?_
  show Steps p.tables e below (T1.setTop (mkF m 11 #[.val (.long q0), .second, .val (.int p1), .val (.int p2), .val (.int p3), .val (.ref b1), .unset, .unset, .unset, .unset, .unset, .unset, .unset] [(.int (0 : Int32)), (.long q0), (.int (0 : Int32)), (.ref b1)])) _
  refine st2 _ ?_
  show Steps p.tables e below (T2.setTop (mkF m 14 #[.val (.long q0), .second, .val (.int p1), .val (.int p2), .val (.int p3), .val (.ref b1), .unset, .unset, .unset, .unset, .unset, .unset, .unset] [(.int (F1_0 q0 (0 : Int32))), (.int (0 : Int32)), (.ref b1)])) _
  refine st3 _ ?_
  show Steps p.tables e below (T3.setTop (mkF m 15 #[.val (.long q0), .second, .val (.int p1), .val (.int p2), .val (.int p3), .val (.ref b1), .unset, .unset, .unset, .unset, .unset, .unset, .unset] [])) _
  refine XS.aload X3.here hx rfl (hb hby at_15) rfl rfl ?_
  show Steps p.tables e below (T3.setTop (mkF m 17 #[.val (.long q0), .second, .val (.int p1), .val (.int p2), .val (.int p3), .val (.ref b1), .unset, .unset, .unset, .unset, .unset, .unset, .unset] [(.ref b1)])) _
  refine XS.iconst X3.here hx rfl (hb hby at_17) ?_
  show Steps p.tables e below (T3.setTop (mkF m 18 #[.val (.long q0), .second, .val (.int p1), .val (.int p2), .val (.int p3), .val (.ref b1), .unset, .unset, .unset, .unset, .unset, .unset, .unset] [(.int (1 : Int32)), (.ref b1)])) _
  refine XS.lloadN X3.here hx rfl (hb hby at_18) rfl ?_
  show Steps p.tables e below (T3.setTop (mkF m 19 #[.val (.long q0), .second, .val (.int p1), .val (.int p2), .val (.int p3), .val (.ref b1), .unset, .unset, .unset, .unset, .unset, .unset, .unset] [(.long q0), (.int (1 : Int32)), (.ref b1)])) _
  refine XS.iconst X3.here hx rfl (hb hby at_19) ?_
  show Steps p.tables e below (T3.setTop (mkF m 20 #[.val (.long q0), .second, .val (.int p1), .val (.int p2), .val (.int p3), .val (.ref b1), .unset, .unset, .unset, .unset, .unset, .unset, .unset] [(.int (1 : Int32)), (.long q0), (.int (1 : Int32)), (.ref b1)])) _
  refine st4 _ ?_
  show Steps p.tables e below (T4.setTop (mkF m 23 #[.val (.long q0), .second, .val (.int p1), .val (.int p2), .val (.int p3), .val (.ref b1), .unset, .unset, .unset, .unset, .unset, .unset, .unset] [(.int (F1_0 q0 (1 : Int32))), (.int (1 : Int32)), (.ref b1)])) _
  refine st5 _ ?_
  show Steps p.tables e below (T5.setTop (mkF m 24 #[.val (.long q0), .second, .val (.int p1), .val (.int p2), .val (.int p3), .val (.ref b1), .unset, .unset, .unset, .unset, .unset, .unset, .unset] [])) _
  refine XS.aload X5.here hx rfl (hb hby at_24) rfl rfl ?_
  show Steps p.tables e below (T5.setTop (mkF m 26 #[.val (.long q0), .second, .val (.int p1), .val (.int p2), .val (.int p3), .val (.ref b1), .unset, .unset, .unset, .unset, .unset, .unset, .unset] [(.ref b1)])) _
  refine XS.iconst X5.here hx rfl (hb hby at_26) ?_
  show Steps p.tables e below (T5.setTop (mkF m 27 #[.val (.long q0), .second, .val (.int p1), .val (.int p2), .val (.int p3), .val (.ref b1), .unset, .unset, .unset, .unset, .unset, .unset, .unset] [(.int (2 : Int32)), (.ref b1)])) _
  refine XS.lloadN X5.here hx rfl (hb hby at_27) rfl ?_
  show Steps p.tables e below (T5.setTop (mkF m 28 #[.val (.long q0), .second, .val (.int p1), .val (.int p2), .val (.int p3), .val (.ref b1), .unset, .unset, .unset, .unset, .unset, .unset, .unset] [(.long q0), (.int (2 : Int32)), (.ref b1)])) _
  refine XS.iconst X5.here hx rfl (hb hby at_28) ?_
  show Steps p.tables e below (T5.setTop (mkF m 29 #[.val (.long q0), .second, .val (.int p1), .val (.int p2), .val (.int p3), .val (.ref b1), .unset, .unset, .unset, .unset, .unset, .unset, .unset] [(.int (2 : Int32)), (.long q0), (.int (2 : Int32)), (.ref b1)])) _
  refine st6 _ ?_
  show Steps p.tables e below (T6.setTop (mkF m 32 #[.val (.long q0), .second, .val (.int p1), .val (.int p2), .val (.int p3), .val (.ref b1), .unset, .unset, .unset, .unset, .unset, .unset, .unset] [(.int (F1_0 q0 (2 : Int32))), (.int (2 : Int32)), (.ref b1)])) _
  refine st7 _ ?_
  show Steps p.tables e below (T7.setTop (mkF m 33 #[.val (.long q0), .second, .val (.int p1), .val (.int p2), .val (.int p3), .val (.ref b1), .unset, .unset, .unset, .unset, .unset, .unset, .unset] [])) _
  refine XS.aload X7.here hx rfl (hb hby at_33) rfl rfl ?_
  show Steps p.tables e below (T7.setTop (mkF m 35 #[.val (.long q0), .second, .val (.int p1), .val (.int p2), .val (.int p3), .val (.ref b1), .unset, .unset, .unset, .unset, .unset, .unset, .unset] [(.ref b1)])) _
  refine XS.iconst X7.here hx rfl (hb hby at_35) ?_
  show Steps p.tables e below (T7.setTop (mkF m 36 #[.val (.long q0), .second, .val (.int p1), .val (.int p2), .val (.int p3), .val (.ref b1), .unset, .unset, .unset, .unset, .unset, .unset, .unset] [(.int (3 : Int32)), (.ref b1)])) _
  refine XS.lloadN X7.here hx rfl (hb hby at_36) rfl ?_
  show Steps p.tables e below (T7.setTop (mkF m 37 #[.val (.long q0), .second, .val (.int p1), .val (.int p2), .val (.int p3), .val (.ref b1), .unset, .unset, .unset, .unset, .unset, .unset, .unset] [(.long q0), (.int (3 : Int32)), (.ref b1)])) _
  refine XS.iconst X7.here hx rfl (hb hby at_37) ?_
  show Steps p.tables e below (T7.setTop (mkF m 38 #[.val (.long q0), .second, .val (.int p1), .val (.int p2), .val (.int p3), .val (.ref b1), .unset, .unset, .unset, .unset, .unset, .unset, .unset] [(.int (3 : Int32)), (.long q0), (.int (3 : Int32)), (.ref b1)])) _
  refine st8 _ ?_
  show Steps p.tables e below (T8.setTop (mkF m 41 #[.val (.long q0), .second, .val (.int p1), .val (.int p2), .val (.int p3), .val (.ref b1), .unset, .unset, .unset, .unset, .unset, .unset, .unset] [(.int (F1_0 q0 (3 : Int32))), (.int (3 : Int32)), (.ref b1)])) _
  refine st9 _ ?_
  show Steps p.tables e below (T9.setTop (mkF m 42 #[.val (.long q0), .second, .val (.int p1), .val (.int p2), .val (.int p3), .val (.ref b1), .unset, .unset, .unset, .unset, .unset, .unset, .unset] [])) _
  refine XS.aload X9.here hx rfl (hb hby at_42) rfl rfl ?_
  show Steps p.tables e below (T9.setTop (mkF m 44 #[.val (.long q0), .second, .val (.int p1), .val (.int p2), .val (.int p3), .val (.ref b1), .unset, .unset, .unset, .unset, .unset, .unset, .unset] [(.ref b1)])) _
  refine XS.iconst X9.here hx rfl (hb hby at_44) ?_
  show Steps p.tables e below (T9.setTop (mkF m 45 #[.val (.long q0), .second, .val (.int p1), .val (.int p2), .val (.int p3), .val (.ref b1), .unset, .unset, .unset, .unset, .unset, .unset, .unset] [(.int (4 : Int32)), (.ref b1)])) _
  refine XS.lloadN X9.here hx rfl (hb hby at_45) rfl ?_
  show Steps p.tables e below (T9.setTop (mkF m 46 #[.val (.long q0), .second, .val (.int p1), .val (.int p2), .val (.int p3), .val (.ref b1), .unset, .unset, .unset, .unset, .unset, .unset, .unset] [(.long q0), (.int (4 : Int32)), (.ref b1)])) _
  refine XS.iconst X9.here hx rfl (hb hby at_46) ?_
  show Steps p.tables e below (T9.setTop (mkF m 47 #[.val (.long q0), .second, .val (.int p1), .val (.int p2), .val (.int p3), .val (.ref b1), .unset, .unset, .unset, .unset, .unset, .unset, .unset] [(.int (4 : Int32)), (.long q0), (.int (4 : Int32)), (.ref b1)])) _
  refine st10 _ ?_
  show Steps p.tables e below (T10.setTop (mkF m 50 #[.val (.long q0), .second, .val (.int p1), .val (.int p2), .val (.int p3), .val (.ref b1), .unset, .unset, .unset, .unset, .unset, .unset, .unset] [(.int (F1_0 q0 (4 : Int32))), (.int (4 : Int32)), (.ref b1)])) _
  refine st11 _ ?_
  show Steps p.tables e below (T11.setTop (mkF m 51 #[.val (.long q0), .second, .val (.int p1), .val (.int p2), .val (.int p3), .val (.ref b1), .unset, .unset, .unset, .unset, .unset, .unset, .unset] [])) _
  refine XS.aload X11.here hx rfl (hb hby at_51) rfl rfl ?_
  show Steps p.tables e below (T11.setTop (mkF m 53 #[.val (.long q0), .second, .val (.int p1), .val (.int p2), .val (.int p3), .val (.ref b1), .unset, .unset, .unset, .unset, .unset, .unset, .unset] [(.ref b1)])) _
  refine XS.iconst X11.here hx rfl (hb hby at_53) ?_
  show Steps p.tables e below (T11.setTop (mkF m 54 #[.val (.long q0), .second, .val (.int p1), .val (.int p2), .val (.int p3), .val (.ref b1), .unset, .unset, .unset, .unset, .unset, .unset, .unset] [(.int (5 : Int32)), (.ref b1)])) _
  refine XS.lloadN X11.here hx rfl (hb hby at_54) rfl ?_
  show Steps p.tables e below (T11.setTop (mkF m 55 #[.val (.long q0), .second, .val (.int p1), .val (.int p2), .val (.int p3), .val (.ref b1), .unset, .unset, .unset, .unset, .unset, .unset, .unset] [(.long q0), (.int (5 : Int32)), (.ref b1)])) _
  refine XS.iconst X11.here hx rfl (hb hby at_55) ?_
  show Steps p.tables e below (T11.setTop (mkF m 56 #[.val (.long q0), .second, .val (.int p1), .val (.int p2), .val (.int p3), .val (.ref b1), .unset, .unset, .unset, .unset, .unset, .unset, .unset] [(.int (5 : Int32)), (.long q0), (.int (5 : Int32)), (.ref b1)])) _
  refine st12 _ ?_
  show Steps p.tables e below (T12.setTop (mkF m 59 #[.val (.long q0), .second, .val (.int p1), .val (.int p2), .val (.int p3), .val (.ref b1), .unset, .unset, .unset, .unset, .unset, .unset, .unset] [(.int (F1_0 q0 (5 : Int32))), (.int (5 : Int32)), (.ref b1)])) _
  refine st13 _ ?_
  show Steps p.tables e below (T13.setTop (mkF m 60 #[.val (.long q0), .second, .val (.int p1), .val (.int p2), .val (.int p3), .val (.ref b1), .unset, .unset, .unset, .unset, .unset, .unset, .unset] [])) _
  refine XS.aload X13.here hx rfl (hb hby at_60) rfl rfl ?_
  show Steps p.tables e below (T13.setTop (mkF m 62 #[.val (.long q0), .second, .val (.int p1), .val (.int p2), .val (.int p3), .val (.ref b1), .unset, .unset, .unset, .unset, .unset, .unset, .unset] [(.ref b1)])) _
  refine XS.bipush X13.here hx rfl (hb hby at_62) ?_
  show Steps p.tables e below (T13.setTop (mkF m 64 #[.val (.long q0), .second, .val (.int p1), .val (.int p2), .val (.int p3), .val (.ref b1), .unset, .unset, .unset, .unset, .unset, .unset, .unset] [(.int (6 : Int32)), (.ref b1)])) _
  refine XS.lloadN X13.here hx rfl (hb hby at_64) rfl ?_
  show Steps p.tables e below (T13.setTop (mkF m 65 #[.val (.long q0), .second, .val (.int p1), .val (.int p2), .val (.int p3), .val (.ref b1), .unset, .unset, .unset, .unset, .unset, .unset, .unset] [(.long q0), (.int (6 : Int32)), (.ref b1)])) _
  refine XS.bipush X13.here hx rfl (hb hby at_65) ?_
  show Steps p.tables e below (T13.setTop (mkF m 67 #[.val (.long q0), .second, .val (.int p1), .val (.int p2), .val (.int p3), .val (.ref b1), .unset, .unset, .unset, .unset, .unset, .unset, .unset] [(.int (6 : Int32)), (.long q0), (.int (6 : Int32)), (.ref b1)])) _
  refine st14 _ ?_
  show Steps p.tables e below (T14.setTop (mkF m 70 #[.val (.long q0), .second, .val (.int p1), .val (.int p2), .val (.int p3), .val (.ref b1), .unset, .unset, .unset, .unset, .unset, .unset, .unset] [(.int (F1_0 q0 (6 : Int32))), (.int (6 : Int32)), (.ref b1)])) _
  refine st15 _ ?_
  show Steps p.tables e below (T15.setTop (mkF m 71 #[.val (.long q0), .second, .val (.int p1), .val (.int p2), .val (.int p3), .val (.ref b1), .unset, .unset, .unset, .unset, .unset, .unset, .unset] [])) _
  refine XS.aload X15.here hx rfl (hb hby at_71) rfl rfl ?_
  show Steps p.tables e below (T15.setTop (mkF m 73 #[.val (.long q0), .second, .val (.int p1), .val (.int p2), .val (.int p3), .val (.ref b1), .unset, .unset, .unset, .unset, .unset, .unset, .unset] [(.ref b1)])) _
  refine XS.bipush X15.here hx rfl (hb hby at_73) ?_
  show Steps p.tables e below (T15.setTop (mkF m 75 #[.val (.long q0), .second, .val (.int p1), .val (.int p2), .val (.int p3), .val (.ref b1), .unset, .unset, .unset, .unset, .unset, .unset, .unset] [(.int (7 : Int32)), (.ref b1)])) _
  refine XS.lloadN X15.here hx rfl (hb hby at_75) rfl ?_
  show Steps p.tables e below (T15.setTop (mkF m 76 #[.val (.long q0), .second, .val (.int p1), .val (.int p2), .val (.int p3), .val (.ref b1), .unset, .unset, .unset, .unset, .unset, .unset, .unset] [(.long q0), (.int (7 : Int32)), (.ref b1)])) _
  refine XS.bipush X15.here hx rfl (hb hby at_76) ?_
  show Steps p.tables e below (T15.setTop (mkF m 78 #[.val (.long q0), .second, .val (.int p1), .val (.int p2), .val (.int p3), .val (.ref b1), .unset, .unset, .unset, .unset, .unset, .unset, .unset] [(.int (7 : Int32)), (.long q0), (.int (7 : Int32)), (.ref b1)])) _
  refine st16 _ ?_
  show Steps p.tables e below (T16.setTop (mkF m 81 #[.val (.long q0), .second, .val (.int p1), .val (.int p2), .val (.int p3), .val (.ref b1), .unset, .unset, .unset, .unset, .unset, .unset, .unset] [(.int (F1_0 q0 (7 : Int32))), (.int (7 : Int32)), (.ref b1)])) _
  refine st17 _ ?_
  show Steps p.tables e below (T17.setTop (mkF m 82 #[.val (.long q0), .second, .val (.int p1), .val (.int p2), .val (.int p3), .val (.ref b1), .unset, .unset, .unset, .unset, .unset, .unset, .unset] [])) _
  refine XS.iloadN X17.here hx rfl (hb hby at_82) rfl ?_
  show Steps p.tables e below (T17.setTop (mkF m 83 #[.val (.long q0), .second, .val (.int p1), .val (.int p2), .val (.int p3), .val (.ref b1), .unset, .unset, .unset, .unset, .unset, .unset, .unset] [(.int p1)])) _
  refine X17.ldcInt hx hown (mvT hZ (hw _ (List.mem_of_getElem? (i := 5) rfl))) (g := (mkF m 83 #[.val (.long q0), .second, .val (.int p1), .val (.int p2), .val (.int p3), .val (.ref b1), .unset, .unset, .unset, .unset, .unset, .unset, .unset] [(.int p1)])) rfl (hb hby at_83) _ ?_
  show Steps p.tables e below (T17.setTop (mkF m 85 #[.val (.long q0), .second, .val (.int p1), .val (.int p2), .val (.int p3), .val (.ref b1), .unset, .unset, .unset, .unset, .unset, .unset, .unset] [(.int (2147483647 : Int32)), (.int p1)])) _
  refine XS.iand X17.here hx rfl (hb hby at_85) rfl ?_
  show Steps p.tables e below (T17.setTop (mkF m 86 #[.val (.long q0), .second, .val (.int p1), .val (.int p2), .val (.int p3), .val (.ref b1), .unset, .unset, .unset, .unset, .unset, .unset, .unset] [(.int (p1 &&& (2147483647 : Int32)))])) _
  refine XS.bipush X17.here hx rfl (hb hby at_86) ?_
  show Steps p.tables e below (T17.setTop (mkF m 88 #[.val (.long q0), .second, .val (.int p1), .val (.int p2), .val (.int p3), .val (.ref b1), .unset, .unset, .unset, .unset, .unset, .unset, .unset] [(.int (9 : Int32)), (.int (p1 &&& (2147483647 : Int32)))])) _
  refine XS.irem X17.here hx rfl (hb hby at_88) rfl (by decide) ?_
  show Steps p.tables e below (T17.setTop (mkF m 89 #[.val (.long q0), .second, .val (.int p1), .val (.int p2), .val (.int p3), .val (.ref b1), .unset, .unset, .unset, .unset, .unset, .unset, .unset] [(.int ((p1 &&& (2147483647 : Int32)) - ((p1 &&& (2147483647 : Int32)) / (9 : Int32)) * (9 : Int32)))])) _
  refine XS.istore X17.here hx rfl (hb hby at_89) rfl (l' := #[.val (.long q0), .second, .val (.int p1), .val (.int p2), .val (.int p3), .val (.ref b1), .val (.int ((p1 &&& (2147483647 : Int32)) - ((p1 &&& (2147483647 : Int32)) / (9 : Int32)) * (9 : Int32))), .unset, .unset, .unset, .unset, .unset, .unset]) rfl ?_
  show Steps p.tables e below (T17.setTop (mkF m 91 #[.val (.long q0), .second, .val (.int p1), .val (.int p2), .val (.int p3), .val (.ref b1), .val (.int (vO p1)), .unset, .unset, .unset, .unset, .unset, .unset] [])) _
  refine XS.iloadN X17.here hx rfl (hb hby at_91) rfl ?_
  show Steps p.tables e below (T17.setTop (mkF m 92 #[.val (.long q0), .second, .val (.int p1), .val (.int p2), .val (.int p3), .val (.ref b1), .val (.int (vO p1)), .unset, .unset, .unset, .unset, .unset, .unset] [(.int p2)])) _
  refine X17.ldcInt hx hown (mvT hZ (hw _ (List.mem_of_getElem? (i := 5) rfl))) (g := (mkF m 92 #[.val (.long q0), .second, .val (.int p1), .val (.int p2), .val (.int p3), .val (.ref b1), .val (.int (vO p1)), .unset, .unset, .unset, .unset, .unset, .unset] [(.int p2)])) rfl (hb hby at_92) _ ?_
  show Steps p.tables e below (T17.setTop (mkF m 94 #[.val (.long q0), .second, .val (.int p1), .val (.int p2), .val (.int p3), .val (.ref b1), .val (.int (vO p1)), .unset, .unset, .unset, .unset, .unset, .unset] [(.int (2147483647 : Int32)), (.int p2)])) _
  refine XS.iand X17.here hx rfl (hb hby at_94) rfl ?_
  show Steps p.tables e below (T17.setTop (mkF m 95 #[.val (.long q0), .second, .val (.int p1), .val (.int p2), .val (.int p3), .val (.ref b1), .val (.int (vO p1)), .unset, .unset, .unset, .unset, .unset, .unset] [(.int (p2 &&& (2147483647 : Int32)))])) _
  refine XS.bipush X17.here hx rfl (hb hby at_95) ?_
  show Steps p.tables e below (T17.setTop (mkF m 97 #[.val (.long q0), .second, .val (.int p1), .val (.int p2), .val (.int p3), .val (.ref b1), .val (.int (vO p1)), .unset, .unset, .unset, .unset, .unset, .unset] [(.int (9 : Int32)), (.int (p2 &&& (2147483647 : Int32)))])) _
  refine XS.iload X17.here hx rfl (hb hby at_97) rfl ?_
  show Steps p.tables e below (T17.setTop (mkF m 99 #[.val (.long q0), .second, .val (.int p1), .val (.int p2), .val (.int p3), .val (.ref b1), .val (.int (vO p1)), .unset, .unset, .unset, .unset, .unset, .unset] [(.int (vO p1)), (.int (9 : Int32)), (.int (p2 &&& (2147483647 : Int32)))])) _
  refine XS.isub X17.here hx rfl (hb hby at_99) rfl ?_
  show Steps p.tables e below (T17.setTop (mkF m 100 #[.val (.long q0), .second, .val (.int p1), .val (.int p2), .val (.int p3), .val (.ref b1), .val (.int (vO p1)), .unset, .unset, .unset, .unset, .unset, .unset] [(.int ((9 : Int32) - (vO p1))), (.int (p2 &&& (2147483647 : Int32)))])) _
  refine XS.irem X17.here hx rfl (hb hby at_100) rfl (own_nz p1) ?_
  show Steps p.tables e below (T17.setTop (mkF m 101 #[.val (.long q0), .second, .val (.int p1), .val (.int p2), .val (.int p3), .val (.ref b1), .val (.int (vO p1)), .unset, .unset, .unset, .unset, .unset, .unset] [(.int ((p2 &&& (2147483647 : Int32)) - ((p2 &&& (2147483647 : Int32)) / ((9 : Int32) - (vO p1))) * ((9 : Int32) - (vO p1))))])) _
  refine XS.istore X17.here hx rfl (hb hby at_101) rfl (l' := #[.val (.long q0), .second, .val (.int p1), .val (.int p2), .val (.int p3), .val (.ref b1), .val (.int (vO p1)), .val (.int ((p2 &&& (2147483647 : Int32)) - ((p2 &&& (2147483647 : Int32)) / ((9 : Int32) - (vO p1))) * ((9 : Int32) - (vO p1)))), .unset, .unset, .unset, .unset, .unset]) rfl ?_
  show Steps p.tables e below (T17.setTop (mkF m 103 #[.val (.long q0), .second, .val (.int p1), .val (.int p2), .val (.int p3), .val (.ref b1), .val (.int (vO p1)), .val (.int (vLen p1 p2)), .unset, .unset, .unset, .unset, .unset] [])) _
  refine XS.iload X17.here hx rfl (hb hby at_103) rfl ?_
  show Steps p.tables e below (T17.setTop (mkF m 105 #[.val (.long q0), .second, .val (.int p1), .val (.int p2), .val (.int p3), .val (.ref b1), .val (.int (vO p1)), .val (.int (vLen p1 p2)), .unset, .unset, .unset, .unset, .unset] [(.int p3)])) _
  refine XS.bipush X17.here hx rfl (hb hby at_105) ?_
  show Steps p.tables e below (T17.setTop (mkF m 107 #[.val (.long q0), .second, .val (.int p1), .val (.int p2), .val (.int p3), .val (.ref b1), .val (.int (vO p1)), .val (.int (vLen p1 p2)), .unset, .unset, .unset, .unset, .unset] [(.int (7 : Int32)), (.int p3)])) _
  refine XS.iand X17.here hx rfl (hb hby at_107) rfl ?_
  show Steps p.tables e below (T17.setTop (mkF m 108 #[.val (.long q0), .second, .val (.int p1), .val (.int p2), .val (.int p3), .val (.ref b1), .val (.int (vO p1)), .val (.int (vLen p1 p2)), .unset, .unset, .unset, .unset, .unset] [(.int (p3 &&& (7 : Int32)))])) _
  refine XS.iconst X17.here hx rfl (hb hby at_108) ?_
  show Steps p.tables e below (T17.setTop (mkF m 109 #[.val (.long q0), .second, .val (.int p1), .val (.int p2), .val (.int p3), .val (.ref b1), .val (.int (vO p1)), .val (.int (vLen p1 p2)), .unset, .unset, .unset, .unset, .unset] [(.int (5 : Int32)), (.int (p3 &&& (7 : Int32)))])) _
  refine XS.irem X17.here hx rfl (hb hby at_109) rfl (by decide) ?_
  show Steps p.tables e below (T17.setTop (mkF m 110 #[.val (.long q0), .second, .val (.int p1), .val (.int p2), .val (.int p3), .val (.ref b1), .val (.int (vO p1)), .val (.int (vLen p1 p2)), .unset, .unset, .unset, .unset, .unset] [(.int ((p3 &&& (7 : Int32)) - ((p3 &&& (7 : Int32)) / (5 : Int32)) * (5 : Int32)))])) _
  refine XS.iload X17.here hx rfl (hb hby at_110) rfl ?_
  show Steps p.tables e below (T17.setTop (mkF m 112 #[.val (.long q0), .second, .val (.int p1), .val (.int p2), .val (.int p3), .val (.ref b1), .val (.int (vO p1)), .val (.int (vLen p1 p2)), .unset, .unset, .unset, .unset, .unset] [(.int (vLen p1 p2)), (.int ((p3 &&& (7 : Int32)) - ((p3 &&& (7 : Int32)) / (5 : Int32)) * (5 : Int32)))])) _
  refine st18 _ ?_
  show Steps p.tables e below (T18.setTop (mkF m 115 #[.val (.long q0), .second, .val (.int p1), .val (.int p2), .val (.int p3), .val (.ref b1), .val (.int (vO p1)), .val (.int (vLen p1 p2)), .unset, .unset, .unset, .unset, .unset] [(.int (F2_0 ((p3 &&& (7 : Int32)) - ((p3 &&& (7 : Int32)) / (5 : Int32)) * (5 : Int32)) (vLen p1 p2)))])) _
  refine XS.istore X18.here hx rfl (hb hby at_115) rfl (l' := #[.val (.long q0), .second, .val (.int p1), .val (.int p2), .val (.int p3), .val (.ref b1), .val (.int (vO p1)), .val (.int (vLen p1 p2)), .val (.int (F2_0 ((p3 &&& (7 : Int32)) - ((p3 &&& (7 : Int32)) / (5 : Int32)) * (5 : Int32)) (vLen p1 p2))), .unset, .unset, .unset, .unset]) rfl ?_
  show Steps p.tables e below (T18.setTop (mkF m 117 #[.val (.long q0), .second, .val (.int p1), .val (.int p2), .val (.int p3), .val (.ref b1), .val (.int (vO p1)), .val (.int (vLen p1 p2)), .val (.int (vN p1 p2 p3)), .unset, .unset, .unset, .unset] [])) _
  refine st19 _ ?_
  show Steps p.tables e below (T19.setTop (mkF m 120 #[.val (.long q0), .second, .val (.int p1), .val (.int p2), .val (.int p3), .val (.ref b1), .val (.int (vO p1)), .val (.int (vLen p1 p2)), .val (.int (vN p1 p2 p3)), .unset, .unset, .unset, .unset] [(.ref b19)])) _
  refine XS.dup X19.here hx rfl (hb hby at_120) rfl rfl ?_
  show Steps p.tables e below (T19.setTop (mkF m 121 #[.val (.long q0), .second, .val (.int p1), .val (.int p2), .val (.int p3), .val (.ref b1), .val (.int (vO p1)), .val (.int (vLen p1 p2)), .val (.int (vN p1 p2 p3)), .unset, .unset, .unset, .unset] [(.ref b19), (.ref b19)])) _
  refine XS.aload X19.here hx rfl (hb hby at_121) rfl rfl ?_
  show Steps p.tables e below (T19.setTop (mkF m 123 #[.val (.long q0), .second, .val (.int p1), .val (.int p2), .val (.int p3), .val (.ref b1), .val (.int (vO p1)), .val (.int (vLen p1 p2)), .val (.int (vN p1 p2 p3)), .unset, .unset, .unset, .unset] [(.ref b1), (.ref b19), (.ref b19)])) _
  refine XS.iload X19.here hx rfl (hb hby at_123) rfl ?_
  show Steps p.tables e below (T19.setTop (mkF m 125 #[.val (.long q0), .second, .val (.int p1), .val (.int p2), .val (.int p3), .val (.ref b1), .val (.int (vO p1)), .val (.int (vLen p1 p2)), .val (.int (vN p1 p2 p3)), .unset, .unset, .unset, .unset] [(.int (vO p1)), (.ref b1), (.ref b19), (.ref b19)])) _
  refine XS.iload X19.here hx rfl (hb hby at_125) rfl ?_
  show Steps p.tables e below (T19.setTop (mkF m 127 #[.val (.long q0), .second, .val (.int p1), .val (.int p2), .val (.int p3), .val (.ref b1), .val (.int (vO p1)), .val (.int (vLen p1 p2)), .val (.int (vN p1 p2 p3)), .unset, .unset, .unset, .unset] [(.int (vLen p1 p2)), (.int (vO p1)), (.ref b1), (.ref b19), (.ref b19)])) _
  refine st20.trans ?_
  show Steps p.tables e below (T20.setTop (mkF m 130 #[.val (.long q0), .second, .val (.int p1), .val (.int p2), .val (.int p3), .val (.ref b1), .val (.int (vO p1)), .val (.int (vLen p1 p2)), .val (.int (vN p1 p2 p3)), .unset, .unset, .unset, .unset] [(.ref b19)])) _
  refine XS.astore X20.here hx rfl (hb hby at_130) rfl rfl (l' := #[.val (.long q0), .second, .val (.int p1), .val (.int p2), .val (.int p3), .val (.ref b1), .val (.int (vO p1)), .val (.int (vLen p1 p2)), .val (.int (vN p1 p2 p3)), .val (.ref b19), .unset, .unset, .unset]) rfl ?_
  show Steps p.tables e below (T20.setTop (mkF m 132 #[.val (.long q0), .second, .val (.int p1), .val (.int p2), .val (.int p3), .val (.ref b1), .val (.int (vO p1)), .val (.int (vLen p1 p2)), .val (.int (vN p1 p2 p3)), .val (.ref b19), .unset, .unset, .unset] [])) _
  refine XS.iconst X20.here hx rfl (hb hby at_132) ?_
  show Steps p.tables e below (T20.setTop (mkF m 133 #[.val (.long q0), .second, .val (.int p1), .val (.int p2), .val (.int p3), .val (.ref b1), .val (.int (vO p1)), .val (.int (vLen p1 p2)), .val (.int (vN p1 p2 p3)), .val (.ref b19), .unset, .unset, .unset] [(.int (1 : Int32))])) _
  refine XS.istore X20.here hx rfl (hb hby at_133) rfl (l' := #[.val (.long q0), .second, .val (.int p1), .val (.int p2), .val (.int p3), .val (.ref b1), .val (.int (vO p1)), .val (.int (vLen p1 p2)), .val (.int (vN p1 p2 p3)), .val (.ref b19), .val (.int (1 : Int32)), .unset, .unset]) rfl ?_
  show Steps p.tables e below (T20.setTop (mkF m 135 #[.val (.long q0), .second, .val (.int p1), .val (.int p2), .val (.int p3), .val (.ref b1), .val (.int (vO p1)), .val (.int (vLen p1 p2)), .val (.int (vN p1 p2 p3)), .val (.ref b19), .val (.int (1 : Int32)), .unset, .unset] [])) _
  refine XS.iload X20.here hx rfl (hb hby at_135) rfl ?_
  show Steps p.tables e below (T20.setTop (mkF m 137 #[.val (.long q0), .second, .val (.int p1), .val (.int p2), .val (.int p3), .val (.ref b1), .val (.int (vO p1)), .val (.int (vLen p1 p2)), .val (.int (vN p1 p2 p3)), .val (.ref b19), .val (.int (1 : Int32)), .unset, .unset] [(.int (vN p1 p2 p3))])) _
  refine XS.iconst X20.here hx rfl (hb hby at_137) ?_
  show Steps p.tables e below (T20.setTop (mkF m 138 #[.val (.long q0), .second, .val (.int p1), .val (.int p2), .val (.int p3), .val (.ref b1), .val (.int (vO p1)), .val (.int (vLen p1 p2)), .val (.int (vN p1 p2 p3)), .val (.ref b19), .val (.int (1 : Int32)), .unset, .unset] [(.int (1 : Int32)), (.int (vN p1 p2 p3))])) _
  refine XS.icmpNo X20.here hx rfl (hb hby at_138) rfl (flt hc138).1 ?_
  show Steps p.tables e below (T20.setTop (mkF m 141 #[.val (.long q0), .second, .val (.int p1), .val (.int p2), .val (.int p3), .val (.ref b1), .val (.int (vO p1)), .val (.int (vLen p1 p2)), .val (.int (vN p1 p2 p3)), .val (.ref b19), .val (.int (1 : Int32)), .unset, .unset] [])) _
  refine XS.iload X20.here hx rfl (hb hby at_141) rfl ?_
  show Steps p.tables e below (T20.setTop (mkF m 143 #[.val (.long q0), .second, .val (.int p1), .val (.int p2), .val (.int p3), .val (.ref b1), .val (.int (vO p1)), .val (.int (vLen p1 p2)), .val (.int (vN p1 p2 p3)), .val (.ref b19), .val (.int (1 : Int32)), .unset, .unset] [(.int (1 : Int32))])) _
  refine XS.ifNo X20.here hx rfl (hb hby at_143) rfl ((if0 _ _).trans (feq (by decide)).1) ?_
  show Steps p.tables e below (T20.setTop (mkF m 146 #[.val (.long q0), .second, .val (.int p1), .val (.int p2), .val (.int p3), .val (.ref b1), .val (.int (vO p1)), .val (.int (vLen p1 p2)), .val (.int (vN p1 p2 p3)), .val (.ref b19), .val (.int (1 : Int32)), .unset, .unset] [])) _
  refine XS.aload X20.here hx rfl (hb hby at_146) rfl rfl ?_
  show Steps p.tables e below (T20.setTop (mkF m 148 #[.val (.long q0), .second, .val (.int p1), .val (.int p2), .val (.int p3), .val (.ref b1), .val (.int (vO p1)), .val (.int (vLen p1 p2)), .val (.int (vN p1 p2 p3)), .val (.ref b19), .val (.int (1 : Int32)), .unset, .unset] [(.ref b19)])) _
  refine st21.trans ?_
  show Steps p.tables e below (T21.setTop (mkF m 151 #[.val (.long q0), .second, .val (.int p1), .val (.int p2), .val (.int p3), .val (.ref b1), .val (.int (vO p1)), .val (.int (vLen p1 p2)), .val (.int (vN p1 p2 p3)), .val (.ref b19), .val (.int (1 : Int32)), .unset, .unset] [(.int (((bys q0).getD (vO p1).toNatClampNeg 0).toInt8.toInt32))])) _
  refine XS.lloadN X21.here hx rfl (hb hby at_151) rfl ?_
  show Steps p.tables e below (T21.setTop (mkF m 152 #[.val (.long q0), .second, .val (.int p1), .val (.int p2), .val (.int p3), .val (.ref b1), .val (.int (vO p1)), .val (.int (vLen p1 p2)), .val (.int (vN p1 p2 p3)), .val (.ref b19), .val (.int (1 : Int32)), .unset, .unset] [(.long q0), (.int (((bys q0).getD (vO p1).toNatClampNeg 0).toInt8.toInt32))])) _
  refine XS.iload X21.here hx rfl (hb hby at_152) rfl ?_
  show Steps p.tables e below (T21.setTop (mkF m 154 #[.val (.long q0), .second, .val (.int p1), .val (.int p2), .val (.int p3), .val (.ref b1), .val (.int (vO p1)), .val (.int (vLen p1 p2)), .val (.int (vN p1 p2 p3)), .val (.ref b19), .val (.int (1 : Int32)), .unset, .unset] [(.int (vO p1)), (.long q0), (.int (((bys q0).getD (vO p1).toNatClampNeg 0).toInt8.toInt32))])) _
  refine st22 _ ?_
  show Steps p.tables e below (T22.setTop (mkF m 157 #[.val (.long q0), .second, .val (.int p1), .val (.int p2), .val (.int p3), .val (.ref b1), .val (.int (vO p1)), .val (.int (vLen p1 p2)), .val (.int (vN p1 p2 p3)), .val (.ref b19), .val (.int (1 : Int32)), .unset, .unset] [(.int (F1_0 q0 (vO p1))), (.int (((bys q0).getD (vO p1).toNatClampNeg 0).toInt8.toInt32))])) _
  refine XS.icmpNo X22.here hx rfl (hb hby at_157) rfl (teq (own_cmp0 q0 p1 p2 p3 hc138)).2 ?_
  show Steps p.tables e below (T22.setTop (mkF m 160 #[.val (.long q0), .second, .val (.int p1), .val (.int p2), .val (.int p3), .val (.ref b1), .val (.int (vO p1)), .val (.int (vLen p1 p2)), .val (.int (vN p1 p2 p3)), .val (.ref b19), .val (.int (1 : Int32)), .unset, .unset] [])) _
  refine XS.iconst X22.here hx rfl (hb hby at_160) ?_
  show Steps p.tables e below (T22.setTop (mkF m 161 #[.val (.long q0), .second, .val (.int p1), .val (.int p2), .val (.int p3), .val (.ref b1), .val (.int (vO p1)), .val (.int (vLen p1 p2)), .val (.int (vN p1 p2 p3)), .val (.ref b19), .val (.int (1 : Int32)), .unset, .unset] [(.int (1 : Int32))])) _
  refine XS.goto X22.here hx rfl (pc0 := 161) (pc' := 165) rfl (hb hby at_161) (by decide) (by decide) ?_
  show Steps p.tables e below (T22.setTop (mkF m 165 #[.val (.long q0), .second, .val (.int p1), .val (.int p2), .val (.int p3), .val (.ref b1), .val (.int (vO p1)), .val (.int (vLen p1 p2)), .val (.int (vN p1 p2 p3)), .val (.ref b19), .val (.int (1 : Int32)), .unset, .unset] [(.int (1 : Int32))])) _
  refine XS.istore X22.here hx rfl (hb hby at_165) rfl (l' := #[.val (.long q0), .second, .val (.int p1), .val (.int p2), .val (.int p3), .val (.ref b1), .val (.int (vO p1)), .val (.int (vLen p1 p2)), .val (.int (vN p1 p2 p3)), .val (.ref b19), .val (.int (1 : Int32)), .unset, .unset]) rfl ?_
  show Steps p.tables e below (T22.setTop (mkF m 167 #[.val (.long q0), .second, .val (.int p1), .val (.int p2), .val (.int p3), .val (.ref b1), .val (.int (vO p1)), .val (.int (vLen p1 p2)), .val (.int (vN p1 p2 p3)), .val (.ref b19), .val (.int (1 : Int32)), .unset, .unset] [])) _
  refine XS.iload X22.here hx rfl (hb hby at_167) rfl ?_
  show Steps p.tables e below (T22.setTop (mkF m 169 #[.val (.long q0), .second, .val (.int p1), .val (.int p2), .val (.int p3), .val (.ref b1), .val (.int (vO p1)), .val (.int (vLen p1 p2)), .val (.int (vN p1 p2 p3)), .val (.ref b19), .val (.int (1 : Int32)), .unset, .unset] [(.int (vN p1 p2 p3))])) _
  refine XS.iconst X22.here hx rfl (hb hby at_169) ?_
  show Steps p.tables e below (T22.setTop (mkF m 170 #[.val (.long q0), .second, .val (.int p1), .val (.int p2), .val (.int p3), .val (.ref b1), .val (.int (vO p1)), .val (.int (vLen p1 p2)), .val (.int (vN p1 p2 p3)), .val (.ref b19), .val (.int (1 : Int32)), .unset, .unset] [(.int (2 : Int32)), (.int (vN p1 p2 p3))])) _
  refine XS.icmpNo X22.here hx rfl (hb hby at_170) rfl (flt hc170).1 ?_
  show Steps p.tables e below (T22.setTop (mkF m 173 #[.val (.long q0), .second, .val (.int p1), .val (.int p2), .val (.int p3), .val (.ref b1), .val (.int (vO p1)), .val (.int (vLen p1 p2)), .val (.int (vN p1 p2 p3)), .val (.ref b19), .val (.int (1 : Int32)), .unset, .unset] [])) _
  refine XS.iload X22.here hx rfl (hb hby at_173) rfl ?_
  show Steps p.tables e below (T22.setTop (mkF m 175 #[.val (.long q0), .second, .val (.int p1), .val (.int p2), .val (.int p3), .val (.ref b1), .val (.int (vO p1)), .val (.int (vLen p1 p2)), .val (.int (vN p1 p2 p3)), .val (.ref b19), .val (.int (1 : Int32)), .unset, .unset] [(.int (1 : Int32))])) _
  refine XS.ifNo X22.here hx rfl (hb hby at_175) rfl ((if0 _ _).trans (feq (by decide)).1) ?_
  show Steps p.tables e below (T22.setTop (mkF m 178 #[.val (.long q0), .second, .val (.int p1), .val (.int p2), .val (.int p3), .val (.ref b1), .val (.int (vO p1)), .val (.int (vLen p1 p2)), .val (.int (vN p1 p2 p3)), .val (.ref b19), .val (.int (1 : Int32)), .unset, .unset] [])) _
  refine XS.aload X22.here hx rfl (hb hby at_178) rfl rfl ?_
  show Steps p.tables e below (T22.setTop (mkF m 180 #[.val (.long q0), .second, .val (.int p1), .val (.int p2), .val (.int p3), .val (.ref b1), .val (.int (vO p1)), .val (.int (vLen p1 p2)), .val (.int (vN p1 p2 p3)), .val (.ref b19), .val (.int (1 : Int32)), .unset, .unset] [(.ref b19)])) _
  refine st23.trans ?_
  show Steps p.tables e below (T23.setTop (mkF m 183 #[.val (.long q0), .second, .val (.int p1), .val (.int p2), .val (.int p3), .val (.ref b1), .val (.int (vO p1)), .val (.int (vLen p1 p2)), .val (.int (vN p1 p2 p3)), .val (.ref b19), .val (.int (1 : Int32)), .unset, .unset] [(.int (((bys q0).getD ((vO p1) + (1 : Int32)).toNatClampNeg 0).toInt8.toInt32))])) _
  refine XS.lloadN X23.here hx rfl (hb hby at_183) rfl ?_
  show Steps p.tables e below (T23.setTop (mkF m 184 #[.val (.long q0), .second, .val (.int p1), .val (.int p2), .val (.int p3), .val (.ref b1), .val (.int (vO p1)), .val (.int (vLen p1 p2)), .val (.int (vN p1 p2 p3)), .val (.ref b19), .val (.int (1 : Int32)), .unset, .unset] [(.long q0), (.int (((bys q0).getD ((vO p1) + (1 : Int32)).toNatClampNeg 0).toInt8.toInt32))])) _
  refine XS.iload X23.here hx rfl (hb hby at_184) rfl ?_
  show Steps p.tables e below (T23.setTop (mkF m 186 #[.val (.long q0), .second, .val (.int p1), .val (.int p2), .val (.int p3), .val (.ref b1), .val (.int (vO p1)), .val (.int (vLen p1 p2)), .val (.int (vN p1 p2 p3)), .val (.ref b19), .val (.int (1 : Int32)), .unset, .unset] [(.int (vO p1)), (.long q0), (.int (((bys q0).getD ((vO p1) + (1 : Int32)).toNatClampNeg 0).toInt8.toInt32))])) _
  refine XS.iconst X23.here hx rfl (hb hby at_186) ?_
  show Steps p.tables e below (T23.setTop (mkF m 187 #[.val (.long q0), .second, .val (.int p1), .val (.int p2), .val (.int p3), .val (.ref b1), .val (.int (vO p1)), .val (.int (vLen p1 p2)), .val (.int (vN p1 p2 p3)), .val (.ref b19), .val (.int (1 : Int32)), .unset, .unset] [(.int (1 : Int32)), (.int (vO p1)), (.long q0), (.int (((bys q0).getD ((vO p1) + (1 : Int32)).toNatClampNeg 0).toInt8.toInt32))])) _
  refine XS.iadd X23.here hx rfl (hb hby at_187) rfl ?_
  show Steps p.tables e below (T23.setTop (mkF m 188 #[.val (.long q0), .second, .val (.int p1), .val (.int p2), .val (.int p3), .val (.ref b1), .val (.int (vO p1)), .val (.int (vLen p1 p2)), .val (.int (vN p1 p2 p3)), .val (.ref b19), .val (.int (1 : Int32)), .unset, .unset] [(.int ((vO p1) + (1 : Int32))), (.long q0), (.int (((bys q0).getD ((vO p1) + (1 : Int32)).toNatClampNeg 0).toInt8.toInt32))])) _
  refine st24 _ ?_
  show Steps p.tables e below (T24.setTop (mkF m 191 #[.val (.long q0), .second, .val (.int p1), .val (.int p2), .val (.int p3), .val (.ref b1), .val (.int (vO p1)), .val (.int (vLen p1 p2)), .val (.int (vN p1 p2 p3)), .val (.ref b19), .val (.int (1 : Int32)), .unset, .unset] [(.int (F1_0 q0 ((vO p1) + (1 : Int32)))), (.int (((bys q0).getD ((vO p1) + (1 : Int32)).toNatClampNeg 0).toInt8.toInt32))])) _
  refine XS.icmpNo X24.here hx rfl (hb hby at_191) rfl (teq (own_cmp1 q0 p1 p2 p3 hc170)).2 ?_
  show Steps p.tables e below (T24.setTop (mkF m 194 #[.val (.long q0), .second, .val (.int p1), .val (.int p2), .val (.int p3), .val (.ref b1), .val (.int (vO p1)), .val (.int (vLen p1 p2)), .val (.int (vN p1 p2 p3)), .val (.ref b19), .val (.int (1 : Int32)), .unset, .unset] [])) _
  refine XS.iconst X24.here hx rfl (hb hby at_194) ?_
  show Steps p.tables e below (T24.setTop (mkF m 195 #[.val (.long q0), .second, .val (.int p1), .val (.int p2), .val (.int p3), .val (.ref b1), .val (.int (vO p1)), .val (.int (vLen p1 p2)), .val (.int (vN p1 p2 p3)), .val (.ref b19), .val (.int (1 : Int32)), .unset, .unset] [(.int (1 : Int32))])) _
  refine XS.goto X24.here hx rfl (pc0 := 195) (pc' := 199) rfl (hb hby at_195) (by decide) (by decide) ?_
  show Steps p.tables e below (T24.setTop (mkF m 199 #[.val (.long q0), .second, .val (.int p1), .val (.int p2), .val (.int p3), .val (.ref b1), .val (.int (vO p1)), .val (.int (vLen p1 p2)), .val (.int (vN p1 p2 p3)), .val (.ref b19), .val (.int (1 : Int32)), .unset, .unset] [(.int (1 : Int32))])) _
  refine XS.istore X24.here hx rfl (hb hby at_199) rfl (l' := #[.val (.long q0), .second, .val (.int p1), .val (.int p2), .val (.int p3), .val (.ref b1), .val (.int (vO p1)), .val (.int (vLen p1 p2)), .val (.int (vN p1 p2 p3)), .val (.ref b19), .val (.int (1 : Int32)), .unset, .unset]) rfl ?_
  show Steps p.tables e below (T24.setTop (mkF m 201 #[.val (.long q0), .second, .val (.int p1), .val (.int p2), .val (.int p3), .val (.ref b1), .val (.int (vO p1)), .val (.int (vLen p1 p2)), .val (.int (vN p1 p2 p3)), .val (.ref b19), .val (.int (1 : Int32)), .unset, .unset] [])) _
  refine XS.iload X24.here hx rfl (hb hby at_201) rfl ?_
  show Steps p.tables e below (T24.setTop (mkF m 203 #[.val (.long q0), .second, .val (.int p1), .val (.int p2), .val (.int p3), .val (.ref b1), .val (.int (vO p1)), .val (.int (vLen p1 p2)), .val (.int (vN p1 p2 p3)), .val (.ref b19), .val (.int (1 : Int32)), .unset, .unset] [(.int (vN p1 p2 p3))])) _
  refine XS.iconst X24.here hx rfl (hb hby at_203) ?_
  show Steps p.tables e below (T24.setTop (mkF m 204 #[.val (.long q0), .second, .val (.int p1), .val (.int p2), .val (.int p3), .val (.ref b1), .val (.int (vO p1)), .val (.int (vLen p1 p2)), .val (.int (vN p1 p2 p3)), .val (.ref b19), .val (.int (1 : Int32)), .unset, .unset] [(.int (3 : Int32)), (.int (vN p1 p2 p3))])) _
  refine XS.icmpYes X24.here hx rfl (pc0 := 204) (pc' := 235) rfl (hb hby at_204) rfl (tlt hc204).1 (by decide) (by decide) ?_
  show Steps p.tables e below (T24.setTop (mkF m 235 #[.val (.long q0), .second, .val (.int p1), .val (.int p2), .val (.int p3), .val (.ref b1), .val (.int (vO p1)), .val (.int (vLen p1 p2)), .val (.int (vN p1 p2 p3)), .val (.ref b19), .val (.int (1 : Int32)), .unset, .unset] [])) _
  refine XS.iload X24.here hx rfl (hb hby at_235) rfl ?_
  show Steps p.tables e below (T24.setTop (mkF m 237 #[.val (.long q0), .second, .val (.int p1), .val (.int p2), .val (.int p3), .val (.ref b1), .val (.int (vO p1)), .val (.int (vLen p1 p2)), .val (.int (vN p1 p2 p3)), .val (.ref b19), .val (.int (1 : Int32)), .unset, .unset] [(.int (vN p1 p2 p3))])) _
  refine XS.iconst X24.here hx rfl (hb hby at_237) ?_
  show Steps p.tables e below (T24.setTop (mkF m 238 #[.val (.long q0), .second, .val (.int p1), .val (.int p2), .val (.int p3), .val (.ref b1), .val (.int (vO p1)), .val (.int (vLen p1 p2)), .val (.int (vN p1 p2 p3)), .val (.ref b19), .val (.int (1 : Int32)), .unset, .unset] [(.int (4 : Int32)), (.int (vN p1 p2 p3))])) _
  refine XS.icmpYes X24.here hx rfl (pc0 := 238) (pc' := 269) rfl (hb hby at_238) rfl (tlt hc238).1 (by decide) (by decide) ?_
  show Steps p.tables e below (T24.setTop (mkF m 269 #[.val (.long q0), .second, .val (.int p1), .val (.int p2), .val (.int p3), .val (.ref b1), .val (.int (vO p1)), .val (.int (vLen p1 p2)), .val (.int (vN p1 p2 p3)), .val (.ref b19), .val (.int (1 : Int32)), .unset, .unset] [])) _
  refine XS.aload X24.here hx rfl (hb hby at_269) rfl rfl ?_
  show Steps p.tables e below (T24.setTop (mkF m 271 #[.val (.long q0), .second, .val (.int p1), .val (.int p2), .val (.int p3), .val (.ref b1), .val (.int (vO p1)), .val (.int (vLen p1 p2)), .val (.int (vN p1 p2 p3)), .val (.ref b19), .val (.int (1 : Int32)), .unset, .unset] [(.ref b19)])) _
  refine X24.ldc2Long hx hown20 (mvT hZ20 (hw _ (List.mem_of_getElem? (i := 52) rfl))) (g := (mkF m 271 #[.val (.long q0), .second, .val (.int p1), .val (.int p2), .val (.int p3), .val (.ref b1), .val (.int (vO p1)), .val (.int (vLen p1 p2)), .val (.int (vN p1 p2 p3)), .val (.ref b19), .val (.int (1 : Int32)), .unset, .unset] [(.ref b19)])) rfl (hb hby at_271) _ ?_
  show Steps p.tables e below (T24.setTop (mkF m 274 #[.val (.long q0), .second, .val (.int p1), .val (.int p2), .val (.int p3), .val (.ref b1), .val (.int (vO p1)), .val (.int (vLen p1 p2)), .val (.int (vN p1 p2 p3)), .val (.ref b19), .val (.int (1 : Int32)), .unset, .unset] [(.long (8 : Int64)), (.ref b19)])) _
  refine st25.trans ?_
  show Steps p.tables e below (T25.setTop (mkF m 277 #[.val (.long q0), .second, .val (.int p1), .val (.int p2), .val (.int p3), .val (.ref b1), .val (.int (vO p1)), .val (.int (vLen p1 p2)), .val (.int (vN p1 p2 p3)), .val (.ref b19), .val (.int (1 : Int32)), .unset, .unset] [(.long (((F11_0 (8 : Int64) ((((vO p1) + (vLen p1 p2)) - (((vO p1) + (1 : Int32)) + (1 : Int32))).toInt64)).toInt32).toInt64))])) _
  refine XS.lstore X25.here hx rfl (hb hby at_277) rfl (l' := #[.val (.long q0), .second, .val (.int p1), .val (.int p2), .val (.int p3), .val (.ref b1), .val (.int (vO p1)), .val (.int (vLen p1 p2)), .val (.int (vN p1 p2 p3)), .val (.ref b19), .val (.int (1 : Int32)), .val (.long (((F11_0 (8 : Int64) ((((vO p1) + (vLen p1 p2)) - (((vO p1) + (1 : Int32)) + (1 : Int32))).toInt64)).toInt32).toInt64)), .second]) rfl ?_
  show Steps p.tables e below (T25.setTop (mkF m 279 #[.val (.long q0), .second, .val (.int p1), .val (.int p2), .val (.int p3), .val (.ref b1), .val (.int (vO p1)), .val (.int (vLen p1 p2)), .val (.int (vN p1 p2 p3)), .val (.ref b19), .val (.int (1 : Int32)), .val (.long (((F11_0 (8 : Int64) ((((vO p1) + (vLen p1 p2)) - (((vO p1) + (1 : Int32)) + (1 : Int32))).toInt64)).toInt32).toInt64)), .second] [])) _
  refine XS.iload X25.here hx rfl (hb hby at_279) rfl ?_
  show Steps p.tables e below (T25.setTop (mkF m 281 #[.val (.long q0), .second, .val (.int p1), .val (.int p2), .val (.int p3), .val (.ref b1), .val (.int (vO p1)), .val (.int (vLen p1 p2)), .val (.int (vN p1 p2 p3)), .val (.ref b19), .val (.int (1 : Int32)), .val (.long (((F11_0 (8 : Int64) ((((vO p1) + (vLen p1 p2)) - (((vO p1) + (1 : Int32)) + (1 : Int32))).toInt64)).toInt32).toInt64)), .second] [(.int (1 : Int32))])) _
  refine XS.ifNo X25.here hx rfl (hb hby at_281) rfl ((if0 _ _).trans (feq (by decide)).1) ?_
  show Steps p.tables e below (T25.setTop (mkF m 284 #[.val (.long q0), .second, .val (.int p1), .val (.int p2), .val (.int p3), .val (.ref b1), .val (.int (vO p1)), .val (.int (vLen p1 p2)), .val (.int (vN p1 p2 p3)), .val (.ref b19), .val (.int (1 : Int32)), .val (.long (((F11_0 (8 : Int64) ((((vO p1) + (vLen p1 p2)) - (((vO p1) + (1 : Int32)) + (1 : Int32))).toInt64)).toInt32).toInt64)), .second] [])) _
  refine XS.lload X25.here hx rfl (hb hby at_284) rfl ?_
  show Steps p.tables e below (T25.setTop (mkF m 286 #[.val (.long q0), .second, .val (.int p1), .val (.int p2), .val (.int p3), .val (.ref b1), .val (.int (vO p1)), .val (.int (vLen p1 p2)), .val (.int (vN p1 p2 p3)), .val (.ref b19), .val (.int (1 : Int32)), .val (.long (((F11_0 (8 : Int64) ((((vO p1) + (vLen p1 p2)) - (((vO p1) + (1 : Int32)) + (1 : Int32))).toInt64)).toInt32).toInt64)), .second] [(.long (((F11_0 (8 : Int64) ((((vO p1) + (vLen p1 p2)) - (((vO p1) + (1 : Int32)) + (1 : Int32))).toInt64)).toInt32).toInt64))])) _
  refine XS.iload X25.here hx rfl (hb hby at_286) rfl ?_
  show Steps p.tables e below (T25.setTop (mkF m 288 #[.val (.long q0), .second, .val (.int p1), .val (.int p2), .val (.int p3), .val (.ref b1), .val (.int (vO p1)), .val (.int (vLen p1 p2)), .val (.int (vN p1 p2 p3)), .val (.ref b19), .val (.int (1 : Int32)), .val (.long (((F11_0 (8 : Int64) ((((vO p1) + (vLen p1 p2)) - (((vO p1) + (1 : Int32)) + (1 : Int32))).toInt64)).toInt32).toInt64)), .second] [(.int (vLen p1 p2)), (.long (((F11_0 (8 : Int64) ((((vO p1) + (vLen p1 p2)) - (((vO p1) + (1 : Int32)) + (1 : Int32))).toInt64)).toInt32).toInt64))])) _
  refine XS.iload X25.here hx rfl (hb hby at_288) rfl ?_
  show Steps p.tables e below (T25.setTop (mkF m 290 #[.val (.long q0), .second, .val (.int p1), .val (.int p2), .val (.int p3), .val (.ref b1), .val (.int (vO p1)), .val (.int (vLen p1 p2)), .val (.int (vN p1 p2 p3)), .val (.ref b19), .val (.int (1 : Int32)), .val (.long (((F11_0 (8 : Int64) ((((vO p1) + (vLen p1 p2)) - (((vO p1) + (1 : Int32)) + (1 : Int32))).toInt64)).toInt32).toInt64)), .second] [(.int (vN p1 p2 p3)), (.int (vLen p1 p2)), (.long (((F11_0 (8 : Int64) ((((vO p1) + (vLen p1 p2)) - (((vO p1) + (1 : Int32)) + (1 : Int32))).toInt64)).toInt32).toInt64))])) _
  refine XS.isub X25.here hx rfl (hb hby at_290) rfl ?_
  show Steps p.tables e below (T25.setTop (mkF m 291 #[.val (.long q0), .second, .val (.int p1), .val (.int p2), .val (.int p3), .val (.ref b1), .val (.int (vO p1)), .val (.int (vLen p1 p2)), .val (.int (vN p1 p2 p3)), .val (.ref b19), .val (.int (1 : Int32)), .val (.long (((F11_0 (8 : Int64) ((((vO p1) + (vLen p1 p2)) - (((vO p1) + (1 : Int32)) + (1 : Int32))).toInt64)).toInt32).toInt64)), .second] [(.int ((vLen p1 p2) - (vN p1 p2 p3))), (.long (((F11_0 (8 : Int64) ((((vO p1) + (vLen p1 p2)) - (((vO p1) + (1 : Int32)) + (1 : Int32))).toInt64)).toInt32).toInt64))])) _
  refine XS.i2l X25.here hx rfl (hb hby at_291) rfl ?_
  show Steps p.tables e below (T25.setTop (mkF m 292 #[.val (.long q0), .second, .val (.int p1), .val (.int p2), .val (.int p3), .val (.ref b1), .val (.int (vO p1)), .val (.int (vLen p1 p2)), .val (.int (vN p1 p2 p3)), .val (.ref b19), .val (.int (1 : Int32)), .val (.long (((F11_0 (8 : Int64) ((((vO p1) + (vLen p1 p2)) - (((vO p1) + (1 : Int32)) + (1 : Int32))).toInt64)).toInt32).toInt64)), .second] [(.long (((vLen p1 p2) - (vN p1 p2 p3)).toInt64)), (.long (((F11_0 (8 : Int64) ((((vO p1) + (vLen p1 p2)) - (((vO p1) + (1 : Int32)) + (1 : Int32))).toInt64)).toInt32).toInt64))])) _
  refine XS.lcmp X25.here hx rfl (hb hby at_292) rfl ?_
  show Steps p.tables e below (T25.setTop (mkF m 293 #[.val (.long q0), .second, .val (.int p1), .val (.int p2), .val (.int p3), .val (.ref b1), .val (.int (vO p1)), .val (.int (vLen p1 p2)), .val (.int (vN p1 p2 p3)), .val (.ref b19), .val (.int (1 : Int32)), .val (.long (((F11_0 (8 : Int64) ((((vO p1) + (vLen p1 p2)) - (((vO p1) + (1 : Int32)) + (1 : Int32))).toInt64)).toInt32).toInt64)), .second] [(.int (lcmpW (((F11_0 (8 : Int64) ((((vO p1) + (vLen p1 p2)) - (((vO p1) + (1 : Int32)) + (1 : Int32))).toInt64)).toInt32).toInt64) (((vLen p1 p2) - (vN p1 p2 p3)).toInt64)))])) _
  refine XS.ifNo X25.here hx rfl (hb hby at_293) rfl ((if0 _ _).trans (teq ((lw_eq _ _).mpr (own_rest2 p1 p2 p3 hc170 hc204))).2) ?_
  show Steps p.tables e below (T25.setTop (mkF m 296 #[.val (.long q0), .second, .val (.int p1), .val (.int p2), .val (.int p3), .val (.ref b1), .val (.int (vO p1)), .val (.int (vLen p1 p2)), .val (.int (vN p1 p2 p3)), .val (.ref b19), .val (.int (1 : Int32)), .val (.long (((F11_0 (8 : Int64) ((((vO p1) + (vLen p1 p2)) - (((vO p1) + (1 : Int32)) + (1 : Int32))).toInt64)).toInt32).toInt64)), .second] [])) _
  refine XS.iconst X25.here hx rfl (hb hby at_296) ?_
  show Steps p.tables e below (T25.setTop (mkF m 297 #[.val (.long q0), .second, .val (.int p1), .val (.int p2), .val (.int p3), .val (.ref b1), .val (.int (vO p1)), .val (.int (vLen p1 p2)), .val (.int (vN p1 p2 p3)), .val (.ref b19), .val (.int (1 : Int32)), .val (.long (((F11_0 (8 : Int64) ((((vO p1) + (vLen p1 p2)) - (((vO p1) + (1 : Int32)) + (1 : Int32))).toInt64)).toInt32).toInt64)), .second] [(.int (1 : Int32))])) _
  refine XS.goto X25.here hx rfl (pc0 := 297) (pc' := 301) rfl (hb hby at_297) (by decide) (by decide) ?_
  show Steps p.tables e below (T25.setTop (mkF m 301 #[.val (.long q0), .second, .val (.int p1), .val (.int p2), .val (.int p3), .val (.ref b1), .val (.int (vO p1)), .val (.int (vLen p1 p2)), .val (.int (vN p1 p2 p3)), .val (.ref b19), .val (.int (1 : Int32)), .val (.long (((F11_0 (8 : Int64) ((((vO p1) + (vLen p1 p2)) - (((vO p1) + (1 : Int32)) + (1 : Int32))).toInt64)).toInt32).toInt64)), .second] [(.int (1 : Int32))])) _
  exact retN X25 hx (t := .boolean) Bd.returns (by simp) (hb hby at_301) hr
def Q_rm0_3 (Z : State) (q0 : Int64) (p1 : Int32) (p2 : Int32) (p3 : Int32) (h0 : Heap) (n0 : Nat) (v : Option Value) (h : Heap) (L : List Loc) : Prop := (v = some (.int (1 : Int32)) ∧ Fr n0 L)
set_option maxRecDepth 65536 in
set_option maxHeartbeats 40000000 in
theorem rm0_3 (l : Launch) (Z : State) (a0 : Array Value) (hw : ∀ d ∈ tables_1, d.before a0 Z = true) (ws : List Jvm.Cond) (q0 : Int64) (p1 : Int32) (p2 : Int32) (p3 : Int32) (h0 : Heap) (n0 : Nat) (Z0 : n0 ≤ h0.size) (hc138 : ¬ ((vN p1 p2 p3) < (1 : Int32))) (hc170 : ¬ ((vN p1 p2 p3) < (2 : Int32))) (hc204 : ¬ ((vN p1 p2 p3) < (3 : Int32))) (hc238 : (vN p1 p2 p3) < (4 : Int32)) :
    MetFree l x (head1 (Jvm.Cond.code x code maxLocals ret :: ws) room_1) (fun a U => a = #[(.long q0), (.int p1), (.int p2), (.int p3)] ∧ Z.Warmed39 U.vm ∧ U.heap = h0) (fun _ _ _ _ _ => True) (fun _ U o U' => ∃ v L, o = .returned v ∧ Q_rm0_3 Z q0 p1 p2 p3 h0 n0 v U'.heap L ∧ ReturnedEndW U o U' L room_1.cells room_1.slots) := by
  refine MetFree.of_bodySF (plainFor_of_name pn_0) hisR ?_
  intro p e s m args below meth c s₁ Bd hml0 hP hK
  obtain ⟨rfl, hZ, hh⟩ := hP
  have hx := Bd.exec
  have hby := Bd.bytes
  have hml : c.maxLocals = 13 := hml0
  have hown : s.vm.findClass "com/example/packwise/packwise/ByteArraySourceReadBytePinLaw" = some m.cls := findClass_of_methodNamed Bd.named
  have hnm := (name_of_methodNamed Bd.named Bd.method).1
  have X0 : Stand p l e room_1 s m #[(.long q0), (.int p1), (.int p2), (.int p3)] below meth c s₁ [] 0 0 := Stand.of_body Bd
  have e0 : s₁.heap = h0 := by rw [← hh, Bd.state]; rfl
  have N0 := Fr.nil n0
  have pre0 : ∀ t, Steps p.tables e below (s₁.setTop (mkF m 0 #[.val (.long q0), .second, .val (.int p1), .val (.int p2), .val (.int p3), .unset, .unset, .unset, .unset, .unset, .unset, .unset, .unset] [])) t → Steps p.tables e below (s₁.setTop (entryFrame m #[(.long q0), (.int p1), (.int p2), (.int p3)] maxLocals)) t := fun t k => castTop (ef_0 m q0 p1 p2 p3) k
  obtain ⟨T1, h1, k1, X1, e1, E1, A1, Ex1, st1⟩ := newPE X0 hx hZ (hw _ (List.mem_of_getElem? (i := 0) rfl)) e0 (g := (mkF m 2 #[.val (.long q0), .second, .val (.int p1), .val (.int p2), .val (.int p3), .unset, .unset, .unset, .unset, .unset, .unset, .unset, .unset] [(.int (8 : Int32))])) rfl (hb hby at_2) rfl (by decide) (cap := 8) (by decide) (by decide) (by decide) (by decide) (ad := "[B") (by decide)
  obtain ⟨b1, g1⟩ : ∃ z, z = Array.size h0 := ⟨_, rfl⟩
  rw [← g1] at A1 st1 Ex1
  have G1 : n0 ≤ b1 := Nat.le_trans Z0 (Nat.le_of_eq g1.symm)
  have Z1 : n0 ≤ Array.size h1 := Nat.le_trans Z0 E1.1
  have V1_b1 : ArrL .byte Z h1 b1 [(0 : Int32), (0 : Int32), (0 : Int32), (0 : Int32), (0 : Int32), (0 : Int32), (0 : Int32), (0 : Int32)] := ArrL.new (n := 8) (Arv.new A1 (by decide)) (by decide)
  obtain ⟨_, _, ⟨T2, L2, k2, n2⟩, -, X2, ⟨Lc2, hQ2, l2, y2, z2⟩, st2⟩ := Jvm.LawKit.callS X1 hx (y := (⟨"com/example/packwise/packwise/ByteArraySourceReadBytePinLaw", "at", "(JI)B"⟩ : MethodName)) hown (mvT hZ (hw _ (List.mem_of_getElem? (i := 1) rfl))) (mvT hZ (hw _ (List.mem_of_getElem? (i := 2) rfl))) (mvT hZ (hw _ (List.mem_of_getElem? (i := 3) rfl))) (mvT hZ (hw _ (List.mem_of_getElem? (i := 4) rfl))) (by decide) (backOf (W := 2) (rm1 l Z a0 hw [] q0 (0 : Int32) h1 n0 Z1) hZ (hw _ (List.mem_of_getElem? (i := 4) rfl)) (hw _ (List.mem_of_getElem? (i := 3) rfl)) (by decide) (by decide)) (g := (mkF m 11 #[.val (.long q0), .second, .val (.int p1), .val (.int p2), .val (.int p3), .val (.ref b1), .unset, .unset, .unset, .unset, .unset, .unset, .unset] [(.int (0 : Int32)), (.long q0), (.int (0 : Int32)), (.ref b1)])) rfl (by rw [hml]; rfl) (argsL := [(.long q0), (.int (0 : Int32))]) (rest := [(.int (0 : Int32)), (.ref b1)]) (lenOf pd6 rfl) rfl (by show 2 * 0 + _ ≤ _; exact Nat.le_of_eq rfl) (hb hby at_11) (fun _ _ => ⟨rfl, e1, (by decide : 1 + 0 ≤ _), (by decide : 8 + 0 ≤ _)⟩)
  dsimp only [Pt.U, Pt.locs, Pt.cells, Pt.slots] at X2 l2 y2 z2 st2 hQ2
  subst y2 z2
  obtain ⟨rfl, N2q, e2⟩ := hQ2
  have N2 : Fr n0 L2 := by rw [l2]; exact Fr.app N0 N2q
  obtain ⟨T3, h3, X3, e3, W3, U3, st3⟩ := own_al_stB X2 hx hZ e2 V1_b1 (g := (mkF m 14 #[.val (.long q0), .second, .val (.int p1), .val (.int p2), .val (.int p3), .val (.ref b1), .unset, .unset, .unset, .unset, .unset, .unset, .unset] [(.int (F1_0 q0 (0 : Int32))), (.int (0 : Int32)), (.ref b1)])) (by decide) (Nat.le_of_ble_eq_true rfl) rfl rfl (hb hby at_14)
  have N3 := Fr.snoc X3 N2 G1
  have f3_E_b1 : Exa Z h3 b1 "[B" := Ex1.wr W3
  have Z3 : n0 ≤ Array.size h3 := Nat.le_trans Z1 (Keep.of_wr W3).1
  have V3_b1 : ArrL .byte Z h3 b1 [(nar .byte (F1_0 q0 (0 : Int32))), (0 : Int32), (0 : Int32), (0 : Int32), (0 : Int32), (0 : Int32), (0 : Int32), (0 : Int32)] := U3
  obtain ⟨_, _, ⟨T4, L4, k4, n4⟩, -, X4, ⟨Lc4, hQ4, l4, y4, z4⟩, st4⟩ := Jvm.LawKit.callS X3 hx (y := (⟨"com/example/packwise/packwise/ByteArraySourceReadBytePinLaw", "at", "(JI)B"⟩ : MethodName)) hown (mvT hZ (hw _ (List.mem_of_getElem? (i := 1) rfl))) (mvT hZ (hw _ (List.mem_of_getElem? (i := 2) rfl))) (mvT hZ (hw _ (List.mem_of_getElem? (i := 3) rfl))) (mvT hZ (hw _ (List.mem_of_getElem? (i := 4) rfl))) (by decide) (backOf (W := 2) (rm1 l Z a0 hw [] q0 (1 : Int32) h3 n0 Z3) hZ (hw _ (List.mem_of_getElem? (i := 4) rfl)) (hw _ (List.mem_of_getElem? (i := 3) rfl)) (by decide) (by decide)) (g := (mkF m 20 #[.val (.long q0), .second, .val (.int p1), .val (.int p2), .val (.int p3), .val (.ref b1), .unset, .unset, .unset, .unset, .unset, .unset, .unset] [(.int (1 : Int32)), (.long q0), (.int (1 : Int32)), (.ref b1)])) rfl (by rw [hml]; rfl) (argsL := [(.long q0), (.int (1 : Int32))]) (rest := [(.int (1 : Int32)), (.ref b1)]) (lenOf pd6 rfl) rfl (by show 2 * 0 + _ ≤ _; exact Nat.le_of_eq rfl) (hb hby at_20) (fun _ _ => ⟨rfl, e3, (by decide : 1 + 0 ≤ _), (by decide : 8 + 0 ≤ _)⟩)
  dsimp only [Pt.U, Pt.locs, Pt.cells, Pt.slots] at X4 l4 y4 z4 st4 hQ4
  subst y4 z4
  obtain ⟨rfl, N4q, e4⟩ := hQ4
  have N4 : Fr n0 L4 := by rw [l4]; exact Fr.app N3 N4q
  obtain ⟨T5, h5, X5, e5, W5, U5, st5⟩ := own_al_stB X4 hx hZ e4 V3_b1 (g := (mkF m 23 #[.val (.long q0), .second, .val (.int p1), .val (.int p2), .val (.int p3), .val (.ref b1), .unset, .unset, .unset, .unset, .unset, .unset, .unset] [(.int (F1_0 q0 (1 : Int32))), (.int (1 : Int32)), (.ref b1)])) (by decide) (Nat.le_of_ble_eq_true rfl) rfl rfl (hb hby at_23)
  have N5 := Fr.snoc X5 N4 G1
  have f5_E_b1 : Exa Z h5 b1 "[B" := f3_E_b1.wr W5
  have Z5 : n0 ≤ Array.size h5 := Nat.le_trans Z3 (Keep.of_wr W5).1
  have V5_b1 : ArrL .byte Z h5 b1 [(nar .byte (F1_0 q0 (0 : Int32))), (nar .byte (F1_0 q0 (1 : Int32))), (0 : Int32), (0 : Int32), (0 : Int32), (0 : Int32), (0 : Int32), (0 : Int32)] := U5
  obtain ⟨_, _, ⟨T6, L6, k6, n6⟩, -, X6, ⟨Lc6, hQ6, l6, y6, z6⟩, st6⟩ := Jvm.LawKit.callS X5 hx (y := (⟨"com/example/packwise/packwise/ByteArraySourceReadBytePinLaw", "at", "(JI)B"⟩ : MethodName)) hown (mvT hZ (hw _ (List.mem_of_getElem? (i := 1) rfl))) (mvT hZ (hw _ (List.mem_of_getElem? (i := 2) rfl))) (mvT hZ (hw _ (List.mem_of_getElem? (i := 3) rfl))) (mvT hZ (hw _ (List.mem_of_getElem? (i := 4) rfl))) (by decide) (backOf (W := 2) (rm1 l Z a0 hw [] q0 (2 : Int32) h5 n0 Z5) hZ (hw _ (List.mem_of_getElem? (i := 4) rfl)) (hw _ (List.mem_of_getElem? (i := 3) rfl)) (by decide) (by decide)) (g := (mkF m 29 #[.val (.long q0), .second, .val (.int p1), .val (.int p2), .val (.int p3), .val (.ref b1), .unset, .unset, .unset, .unset, .unset, .unset, .unset] [(.int (2 : Int32)), (.long q0), (.int (2 : Int32)), (.ref b1)])) rfl (by rw [hml]; rfl) (argsL := [(.long q0), (.int (2 : Int32))]) (rest := [(.int (2 : Int32)), (.ref b1)]) (lenOf pd6 rfl) rfl (by show 2 * 0 + _ ≤ _; exact Nat.le_of_eq rfl) (hb hby at_29) (fun _ _ => ⟨rfl, e5, (by decide : 1 + 0 ≤ _), (by decide : 8 + 0 ≤ _)⟩)
  dsimp only [Pt.U, Pt.locs, Pt.cells, Pt.slots] at X6 l6 y6 z6 st6 hQ6
  subst y6 z6
  obtain ⟨rfl, N6q, e6⟩ := hQ6
  have N6 : Fr n0 L6 := by rw [l6]; exact Fr.app N5 N6q
  obtain ⟨T7, h7, X7, e7, W7, U7, st7⟩ := own_al_stB X6 hx hZ e6 V5_b1 (g := (mkF m 32 #[.val (.long q0), .second, .val (.int p1), .val (.int p2), .val (.int p3), .val (.ref b1), .unset, .unset, .unset, .unset, .unset, .unset, .unset] [(.int (F1_0 q0 (2 : Int32))), (.int (2 : Int32)), (.ref b1)])) (by decide) (Nat.le_of_ble_eq_true rfl) rfl rfl (hb hby at_32)
  have N7 := Fr.snoc X7 N6 G1
  have f7_E_b1 : Exa Z h7 b1 "[B" := f5_E_b1.wr W7
  have Z7 : n0 ≤ Array.size h7 := Nat.le_trans Z5 (Keep.of_wr W7).1
  have V7_b1 : ArrL .byte Z h7 b1 [(nar .byte (F1_0 q0 (0 : Int32))), (nar .byte (F1_0 q0 (1 : Int32))), (nar .byte (F1_0 q0 (2 : Int32))), (0 : Int32), (0 : Int32), (0 : Int32), (0 : Int32), (0 : Int32)] := U7
  obtain ⟨_, _, ⟨T8, L8, k8, n8⟩, -, X8, ⟨Lc8, hQ8, l8, y8, z8⟩, st8⟩ := Jvm.LawKit.callS X7 hx (y := (⟨"com/example/packwise/packwise/ByteArraySourceReadBytePinLaw", "at", "(JI)B"⟩ : MethodName)) hown (mvT hZ (hw _ (List.mem_of_getElem? (i := 1) rfl))) (mvT hZ (hw _ (List.mem_of_getElem? (i := 2) rfl))) (mvT hZ (hw _ (List.mem_of_getElem? (i := 3) rfl))) (mvT hZ (hw _ (List.mem_of_getElem? (i := 4) rfl))) (by decide) (backOf (W := 2) (rm1 l Z a0 hw [] q0 (3 : Int32) h7 n0 Z7) hZ (hw _ (List.mem_of_getElem? (i := 4) rfl)) (hw _ (List.mem_of_getElem? (i := 3) rfl)) (by decide) (by decide)) (g := (mkF m 38 #[.val (.long q0), .second, .val (.int p1), .val (.int p2), .val (.int p3), .val (.ref b1), .unset, .unset, .unset, .unset, .unset, .unset, .unset] [(.int (3 : Int32)), (.long q0), (.int (3 : Int32)), (.ref b1)])) rfl (by rw [hml]; rfl) (argsL := [(.long q0), (.int (3 : Int32))]) (rest := [(.int (3 : Int32)), (.ref b1)]) (lenOf pd6 rfl) rfl (by show 2 * 0 + _ ≤ _; exact Nat.le_of_eq rfl) (hb hby at_38) (fun _ _ => ⟨rfl, e7, (by decide : 1 + 0 ≤ _), (by decide : 8 + 0 ≤ _)⟩)
  dsimp only [Pt.U, Pt.locs, Pt.cells, Pt.slots] at X8 l8 y8 z8 st8 hQ8
  subst y8 z8
  obtain ⟨rfl, N8q, e8⟩ := hQ8
  have N8 : Fr n0 L8 := by rw [l8]; exact Fr.app N7 N8q
  obtain ⟨T9, h9, X9, e9, W9, U9, st9⟩ := own_al_stB X8 hx hZ e8 V7_b1 (g := (mkF m 41 #[.val (.long q0), .second, .val (.int p1), .val (.int p2), .val (.int p3), .val (.ref b1), .unset, .unset, .unset, .unset, .unset, .unset, .unset] [(.int (F1_0 q0 (3 : Int32))), (.int (3 : Int32)), (.ref b1)])) (by decide) (Nat.le_of_ble_eq_true rfl) rfl rfl (hb hby at_41)
  have N9 := Fr.snoc X9 N8 G1
  have f9_E_b1 : Exa Z h9 b1 "[B" := f7_E_b1.wr W9
  have Z9 : n0 ≤ Array.size h9 := Nat.le_trans Z7 (Keep.of_wr W9).1
  have V9_b1 : ArrL .byte Z h9 b1 [(nar .byte (F1_0 q0 (0 : Int32))), (nar .byte (F1_0 q0 (1 : Int32))), (nar .byte (F1_0 q0 (2 : Int32))), (nar .byte (F1_0 q0 (3 : Int32))), (0 : Int32), (0 : Int32), (0 : Int32), (0 : Int32)] := U9
  obtain ⟨_, _, ⟨T10, L10, k10, n10⟩, -, X10, ⟨Lc10, hQ10, l10, y10, z10⟩, st10⟩ := Jvm.LawKit.callS X9 hx (y := (⟨"com/example/packwise/packwise/ByteArraySourceReadBytePinLaw", "at", "(JI)B"⟩ : MethodName)) hown (mvT hZ (hw _ (List.mem_of_getElem? (i := 1) rfl))) (mvT hZ (hw _ (List.mem_of_getElem? (i := 2) rfl))) (mvT hZ (hw _ (List.mem_of_getElem? (i := 3) rfl))) (mvT hZ (hw _ (List.mem_of_getElem? (i := 4) rfl))) (by decide) (backOf (W := 2) (rm1 l Z a0 hw [] q0 (4 : Int32) h9 n0 Z9) hZ (hw _ (List.mem_of_getElem? (i := 4) rfl)) (hw _ (List.mem_of_getElem? (i := 3) rfl)) (by decide) (by decide)) (g := (mkF m 47 #[.val (.long q0), .second, .val (.int p1), .val (.int p2), .val (.int p3), .val (.ref b1), .unset, .unset, .unset, .unset, .unset, .unset, .unset] [(.int (4 : Int32)), (.long q0), (.int (4 : Int32)), (.ref b1)])) rfl (by rw [hml]; rfl) (argsL := [(.long q0), (.int (4 : Int32))]) (rest := [(.int (4 : Int32)), (.ref b1)]) (lenOf pd6 rfl) rfl (by show 2 * 0 + _ ≤ _; exact Nat.le_of_eq rfl) (hb hby at_47) (fun _ _ => ⟨rfl, e9, (by decide : 1 + 0 ≤ _), (by decide : 8 + 0 ≤ _)⟩)
  dsimp only [Pt.U, Pt.locs, Pt.cells, Pt.slots] at X10 l10 y10 z10 st10 hQ10
  subst y10 z10
  obtain ⟨rfl, N10q, e10⟩ := hQ10
  have N10 : Fr n0 L10 := by rw [l10]; exact Fr.app N9 N10q
  obtain ⟨T11, h11, X11, e11, W11, U11, st11⟩ := own_al_stB X10 hx hZ e10 V9_b1 (g := (mkF m 50 #[.val (.long q0), .second, .val (.int p1), .val (.int p2), .val (.int p3), .val (.ref b1), .unset, .unset, .unset, .unset, .unset, .unset, .unset] [(.int (F1_0 q0 (4 : Int32))), (.int (4 : Int32)), (.ref b1)])) (by decide) (Nat.le_of_ble_eq_true rfl) rfl rfl (hb hby at_50)
  have N11 := Fr.snoc X11 N10 G1
  have f11_E_b1 : Exa Z h11 b1 "[B" := f9_E_b1.wr W11
  have Z11 : n0 ≤ Array.size h11 := Nat.le_trans Z9 (Keep.of_wr W11).1
  have V11_b1 : ArrL .byte Z h11 b1 [(nar .byte (F1_0 q0 (0 : Int32))), (nar .byte (F1_0 q0 (1 : Int32))), (nar .byte (F1_0 q0 (2 : Int32))), (nar .byte (F1_0 q0 (3 : Int32))), (nar .byte (F1_0 q0 (4 : Int32))), (0 : Int32), (0 : Int32), (0 : Int32)] := U11
  obtain ⟨_, _, ⟨T12, L12, k12, n12⟩, -, X12, ⟨Lc12, hQ12, l12, y12, z12⟩, st12⟩ := Jvm.LawKit.callS X11 hx (y := (⟨"com/example/packwise/packwise/ByteArraySourceReadBytePinLaw", "at", "(JI)B"⟩ : MethodName)) hown (mvT hZ (hw _ (List.mem_of_getElem? (i := 1) rfl))) (mvT hZ (hw _ (List.mem_of_getElem? (i := 2) rfl))) (mvT hZ (hw _ (List.mem_of_getElem? (i := 3) rfl))) (mvT hZ (hw _ (List.mem_of_getElem? (i := 4) rfl))) (by decide) (backOf (W := 2) (rm1 l Z a0 hw [] q0 (5 : Int32) h11 n0 Z11) hZ (hw _ (List.mem_of_getElem? (i := 4) rfl)) (hw _ (List.mem_of_getElem? (i := 3) rfl)) (by decide) (by decide)) (g := (mkF m 56 #[.val (.long q0), .second, .val (.int p1), .val (.int p2), .val (.int p3), .val (.ref b1), .unset, .unset, .unset, .unset, .unset, .unset, .unset] [(.int (5 : Int32)), (.long q0), (.int (5 : Int32)), (.ref b1)])) rfl (by rw [hml]; rfl) (argsL := [(.long q0), (.int (5 : Int32))]) (rest := [(.int (5 : Int32)), (.ref b1)]) (lenOf pd6 rfl) rfl (by show 2 * 0 + _ ≤ _; exact Nat.le_of_eq rfl) (hb hby at_56) (fun _ _ => ⟨rfl, e11, (by decide : 1 + 0 ≤ _), (by decide : 8 + 0 ≤ _)⟩)
  dsimp only [Pt.U, Pt.locs, Pt.cells, Pt.slots] at X12 l12 y12 z12 st12 hQ12
  subst y12 z12
  obtain ⟨rfl, N12q, e12⟩ := hQ12
  have N12 : Fr n0 L12 := by rw [l12]; exact Fr.app N11 N12q
  obtain ⟨T13, h13, X13, e13, W13, U13, st13⟩ := own_al_stB X12 hx hZ e12 V11_b1 (g := (mkF m 59 #[.val (.long q0), .second, .val (.int p1), .val (.int p2), .val (.int p3), .val (.ref b1), .unset, .unset, .unset, .unset, .unset, .unset, .unset] [(.int (F1_0 q0 (5 : Int32))), (.int (5 : Int32)), (.ref b1)])) (by decide) (Nat.le_of_ble_eq_true rfl) rfl rfl (hb hby at_59)
  have N13 := Fr.snoc X13 N12 G1
  have f13_E_b1 : Exa Z h13 b1 "[B" := f11_E_b1.wr W13
  have Z13 : n0 ≤ Array.size h13 := Nat.le_trans Z11 (Keep.of_wr W13).1
  have V13_b1 : ArrL .byte Z h13 b1 [(nar .byte (F1_0 q0 (0 : Int32))), (nar .byte (F1_0 q0 (1 : Int32))), (nar .byte (F1_0 q0 (2 : Int32))), (nar .byte (F1_0 q0 (3 : Int32))), (nar .byte (F1_0 q0 (4 : Int32))), (nar .byte (F1_0 q0 (5 : Int32))), (0 : Int32), (0 : Int32)] := U13
  obtain ⟨_, _, ⟨T14, L14, k14, n14⟩, -, X14, ⟨Lc14, hQ14, l14, y14, z14⟩, st14⟩ := Jvm.LawKit.callS X13 hx (y := (⟨"com/example/packwise/packwise/ByteArraySourceReadBytePinLaw", "at", "(JI)B"⟩ : MethodName)) hown (mvT hZ (hw _ (List.mem_of_getElem? (i := 1) rfl))) (mvT hZ (hw _ (List.mem_of_getElem? (i := 2) rfl))) (mvT hZ (hw _ (List.mem_of_getElem? (i := 3) rfl))) (mvT hZ (hw _ (List.mem_of_getElem? (i := 4) rfl))) (by decide) (backOf (W := 2) (rm1 l Z a0 hw [] q0 (6 : Int32) h13 n0 Z13) hZ (hw _ (List.mem_of_getElem? (i := 4) rfl)) (hw _ (List.mem_of_getElem? (i := 3) rfl)) (by decide) (by decide)) (g := (mkF m 67 #[.val (.long q0), .second, .val (.int p1), .val (.int p2), .val (.int p3), .val (.ref b1), .unset, .unset, .unset, .unset, .unset, .unset, .unset] [(.int (6 : Int32)), (.long q0), (.int (6 : Int32)), (.ref b1)])) rfl (by rw [hml]; rfl) (argsL := [(.long q0), (.int (6 : Int32))]) (rest := [(.int (6 : Int32)), (.ref b1)]) (lenOf pd6 rfl) rfl (by show 2 * 0 + _ ≤ _; exact Nat.le_of_eq rfl) (hb hby at_67) (fun _ _ => ⟨rfl, e13, (by decide : 1 + 0 ≤ _), (by decide : 8 + 0 ≤ _)⟩)
  dsimp only [Pt.U, Pt.locs, Pt.cells, Pt.slots] at X14 l14 y14 z14 st14 hQ14
  subst y14 z14
  obtain ⟨rfl, N14q, e14⟩ := hQ14
  have N14 : Fr n0 L14 := by rw [l14]; exact Fr.app N13 N14q
  obtain ⟨T15, h15, X15, e15, W15, U15, st15⟩ := own_al_stB X14 hx hZ e14 V13_b1 (g := (mkF m 70 #[.val (.long q0), .second, .val (.int p1), .val (.int p2), .val (.int p3), .val (.ref b1), .unset, .unset, .unset, .unset, .unset, .unset, .unset] [(.int (F1_0 q0 (6 : Int32))), (.int (6 : Int32)), (.ref b1)])) (by decide) (Nat.le_of_ble_eq_true rfl) rfl rfl (hb hby at_70)
  have N15 := Fr.snoc X15 N14 G1
  have f15_E_b1 : Exa Z h15 b1 "[B" := f13_E_b1.wr W15
  have Z15 : n0 ≤ Array.size h15 := Nat.le_trans Z13 (Keep.of_wr W15).1
  have V15_b1 : ArrL .byte Z h15 b1 [(nar .byte (F1_0 q0 (0 : Int32))), (nar .byte (F1_0 q0 (1 : Int32))), (nar .byte (F1_0 q0 (2 : Int32))), (nar .byte (F1_0 q0 (3 : Int32))), (nar .byte (F1_0 q0 (4 : Int32))), (nar .byte (F1_0 q0 (5 : Int32))), (nar .byte (F1_0 q0 (6 : Int32))), (0 : Int32)] := U15
  obtain ⟨_, _, ⟨T16, L16, k16, n16⟩, -, X16, ⟨Lc16, hQ16, l16, y16, z16⟩, st16⟩ := Jvm.LawKit.callS X15 hx (y := (⟨"com/example/packwise/packwise/ByteArraySourceReadBytePinLaw", "at", "(JI)B"⟩ : MethodName)) hown (mvT hZ (hw _ (List.mem_of_getElem? (i := 1) rfl))) (mvT hZ (hw _ (List.mem_of_getElem? (i := 2) rfl))) (mvT hZ (hw _ (List.mem_of_getElem? (i := 3) rfl))) (mvT hZ (hw _ (List.mem_of_getElem? (i := 4) rfl))) (by decide) (backOf (W := 2) (rm1 l Z a0 hw [] q0 (7 : Int32) h15 n0 Z15) hZ (hw _ (List.mem_of_getElem? (i := 4) rfl)) (hw _ (List.mem_of_getElem? (i := 3) rfl)) (by decide) (by decide)) (g := (mkF m 78 #[.val (.long q0), .second, .val (.int p1), .val (.int p2), .val (.int p3), .val (.ref b1), .unset, .unset, .unset, .unset, .unset, .unset, .unset] [(.int (7 : Int32)), (.long q0), (.int (7 : Int32)), (.ref b1)])) rfl (by rw [hml]; rfl) (argsL := [(.long q0), (.int (7 : Int32))]) (rest := [(.int (7 : Int32)), (.ref b1)]) (lenOf pd6 rfl) rfl (by show 2 * 0 + _ ≤ _; exact Nat.le_of_eq rfl) (hb hby at_78) (fun _ _ => ⟨rfl, e15, (by decide : 1 + 0 ≤ _), (by decide : 8 + 0 ≤ _)⟩)
  dsimp only [Pt.U, Pt.locs, Pt.cells, Pt.slots] at X16 l16 y16 z16 st16 hQ16
  subst y16 z16
  obtain ⟨rfl, N16q, e16⟩ := hQ16
  have N16 : Fr n0 L16 := by rw [l16]; exact Fr.app N15 N16q
  obtain ⟨T17, h17, X17, e17, W17, U17, st17⟩ := own_al_stB X16 hx hZ e16 V15_b1 (g := (mkF m 81 #[.val (.long q0), .second, .val (.int p1), .val (.int p2), .val (.int p3), .val (.ref b1), .unset, .unset, .unset, .unset, .unset, .unset, .unset] [(.int (F1_0 q0 (7 : Int32))), (.int (7 : Int32)), (.ref b1)])) (by decide) (Nat.le_of_ble_eq_true rfl) rfl rfl (hb hby at_81)
  have N17 := Fr.snoc X17 N16 G1
  have f17_E_b1 : Exa Z h17 b1 "[B" := f15_E_b1.wr W17
  have Z17 : n0 ≤ Array.size h17 := Nat.le_trans Z15 (Keep.of_wr W17).1
  have V17_b1 : ArrL .byte Z h17 b1 [(nar .byte (F1_0 q0 (0 : Int32))), (nar .byte (F1_0 q0 (1 : Int32))), (nar .byte (F1_0 q0 (2 : Int32))), (nar .byte (F1_0 q0 (3 : Int32))), (nar .byte (F1_0 q0 (4 : Int32))), (nar .byte (F1_0 q0 (5 : Int32))), (nar .byte (F1_0 q0 (6 : Int32))), (nar .byte (F1_0 q0 (7 : Int32)))] := U17
  have Vb : ArrL .byte Z h17 b1 (bys q0) := V17_b1
  obtain ⟨_, _, ⟨T18, L18, k18, n18⟩, -, X18, ⟨Lc18, hQ18, l18, y18, z18⟩, st18⟩ := Jvm.LawKit.callS X17 hx (y := (⟨"java/lang/Math", "min", "(II)I"⟩ : MethodName)) hown (mvT hZ (hw _ (List.mem_of_getElem? (i := 6) rfl))) (mvT hZ (hw _ (List.mem_of_getElem? (i := 7) rfl))) (mvT hZ (hw _ (List.mem_of_getElem? (i := 8) rfl))) (mvT hZ (hw _ (List.mem_of_getElem? (i := 9) rfl))) (by decide) (backOf (W := 0) (rm2 l Z a0 hw [] ((p3 &&& (7 : Int32)) - ((p3 &&& (7 : Int32)) / (5 : Int32)) * (5 : Int32)) (vLen p1 p2) h17 n0 Z17) hZ (hw _ (List.mem_of_getElem? (i := 9) rfl)) (hw _ (List.mem_of_getElem? (i := 8) rfl)) (by decide) (by decide)) (g := (mkF m 112 #[.val (.long q0), .second, .val (.int p1), .val (.int p2), .val (.int p3), .val (.ref b1), .val (.int (vO p1)), .val (.int (vLen p1 p2)), .unset, .unset, .unset, .unset, .unset] [(.int (vLen p1 p2)), (.int ((p3 &&& (7 : Int32)) - ((p3 &&& (7 : Int32)) / (5 : Int32)) * (5 : Int32)))])) rfl (by rw [hml]; rfl) (argsL := [(.int ((p3 &&& (7 : Int32)) - ((p3 &&& (7 : Int32)) / (5 : Int32)) * (5 : Int32))), (.int (vLen p1 p2))]) (rest := []) (lenOf pd7 rfl) rfl (by show 2 * 0 + _ ≤ _; exact Nat.le_of_eq rfl) (hb hby at_112) (fun _ _ => ⟨rfl, e17, (by decide : 1 + 0 ≤ _), (by decide : 8 + 0 ≤ _)⟩)
  dsimp only [Pt.U, Pt.locs, Pt.cells, Pt.slots] at X18 l18 y18 z18 st18 hQ18
  subst y18 z18
  obtain ⟨rfl, N18q, e18⟩ := hQ18
  have N18 : Fr n0 L18 := by rw [l18]; exact Fr.app N17 N18q
  obtain ⟨T19, h19, X19, e19, E19, A19, D19, -, st19⟩ := newO X18 hx hZ hown (hw _ (List.mem_of_getElem? (i := 10) rfl)) (hw _ (List.mem_of_getElem? (i := 11) rfl)) (hw _ (List.mem_of_getElem? (i := 12) rfl)) e18 (g := (mkF m 117 #[.val (.long q0), .second, .val (.int p1), .val (.int p2), .val (.int p3), .val (.ref b1), .val (.int (vO p1)), .val (.int (vLen p1 p2)), .val (.int (vN p1 p2 p3)), .unset, .unset, .unset, .unset] [])) rfl (hb hby at_117) (by decide) (by decide)
  obtain ⟨b19, g19⟩ : ∃ z, z = Array.size h17 := ⟨_, rfl⟩
  rw [← g19] at A19 D19 st19
  have G19 : n0 ≤ b19 := Nat.le_trans Z17 (Nat.le_of_eq g19.symm)
  have ne_b1_b19 : b1 ≠ b19 := Nat.ne_of_lt (Nat.lt_of_lt_of_le f17_E_b1.lt (Nat.le_of_eq g19.symm))
  have f19_E_b1 : Exa Z h19 b1 "[B" := f17_E_b1.ext E19
  have f19_V_b1 : ArrL .byte Z h19 b1 (bys q0) := Vb.ext E19
  have Z19 : n0 ≤ Array.size h19 := Nat.le_trans Z17 E19.1
  have F19_bytes : Fld Z h19 b19 "com/example/packwise/packwise/ByteArraySource" "bytes" "[B" .null := D19 (Or.inr (hw _ (List.mem_of_getElem? (i := 47) rfl))) (ty := (.array .byte)) (by decide)
  have F19_end : Fld Z h19 b19 "com/example/packwise/packwise/ByteArraySource" "end" "I" (.int (0 : Int32)) := D19 (Or.inr (hw _ (List.mem_of_getElem? (i := 49) rfl))) (ty := .int) (by decide)
  have F19_position : Fld Z h19 b19 "com/example/packwise/packwise/ByteArraySource" "position" "I" (.int (0 : Int32)) := D19 (Or.inl (hw _ (List.mem_of_getElem? (i := 51) rfl))) (ty := .int) (by decide)
  obtain ⟨_, _, ⟨T20, L20, k20, n20⟩, -, X20', S20', hge20, ⟨Lc20, hQ20, l20, y20, z20⟩, st20⟩ := X19.specialBackS hx (y := (⟨"com/example/packwise/packwise/ByteArraySource", "<init>", "([BII)V"⟩ : MethodName)) rfl hown (mvT hZ (hw _ (List.mem_of_getElem? (i := 13) rfl))) (mvT hZ (hw _ (List.mem_of_getElem? (i := 14) rfl))) (mvT hZ (hw _ (List.mem_of_getElem? (i := 15) rfl))) (by decide) (backOfS (W := 1) (rm3 l Z a0 hw [] b19 b1 (vO p1) (vLen p1 p2) (bys q0) h19 n0 Z19 A19 F19_bytes F19_end F19_position G19 f19_E_b1 f19_V_b1 (Ne.symm ne_b1_b19) rfl (own_q1 p1) (own_q2 p1 p2) (own_q3 p1 p2)) hZ (hw _ (List.mem_of_getElem? (i := 15) rfl)) (hw _ (List.mem_of_getElem? (i := 12) rfl)) (by decide) (by decide)) (g := (mkF m 127 #[.val (.long q0), .second, .val (.int p1), .val (.int p2), .val (.int p3), .val (.ref b1), .val (.int (vO p1)), .val (.int (vLen p1 p2)), .val (.int (vN p1 p2 p3)), .unset, .unset, .unset, .unset] [(.int (vLen p1 p2)), (.int (vO p1)), (.ref b1), (.ref b19), (.ref b19)])) rfl (by rw [hml]; rfl) (Steps.refl _) (a := b19) (argsL := [(.ref b1), (.int (vO p1)), (.int (vLen p1 p2))]) (rest := [(.ref b19)]) (lenOf pd3 rfl) rfl (by show 2 * 0 + _ ≤ _; exact Nat.le_of_eq rfl) (hb hby at_127) (fun _ _ => ⟨rfl, e19, (by decide : 2 + 4 ≤ _), (by decide : 11 + 48 ≤ _)⟩)
  dsimp only [Pt.U, Pt.locs, Pt.cells, Pt.slots] at X20' S20' hge20 l20 y20 z20 st20 hQ20
  subst y20 z20
  obtain ⟨X20, S20, hZ20, hown20⟩ := rebS (s := s) (vm0 := s.vm) ((State.WarmedH.refl s).since 0) (Nat.zero_le _) X20' S20' hge20 hZ hown
  obtain ⟨rfl, N20q, K20, Ec20, Fc20_bytes, Fc20_end, Fc20_position⟩ := hQ20
  have f20_E_b1 : Exa Z T20.heap b1 "[B" := f19_E_b1.keep K20
  have f20_V_b1 : ArrL .byte Z T20.heap b1 (bys q0) := f19_V_b1.keep K20 (ninS ne_b1_b19 nin0)
  have Z20 : n0 ≤ Array.size T20.heap := Nat.le_trans Z19 K20.1
  have N20 : Fr n0 L20 := by rw [l20]; exact Fr.app N18 N20q
  obtain ⟨cq21, kq21, q21a, q21b, q21c⟩ := isOf hZ20 rfl Ec20
  obtain ⟨_, _, ⟨T21, L21, k21, n21⟩, -, X21, ⟨Lc21, hQ21, l21, y21, z21⟩, st21⟩ := X20.virtualBack hx (y := (⟨"com/example/packwise/packwise/ByteArraySource", "readByte", "()B"⟩ : MethodName)) (z := (⟨"com/example/packwise/packwise/ByteArraySource", "readByte", "()B"⟩ : MethodName)) hown20 (mvT hZ20 (hw _ (List.mem_of_getElem? (i := 65) rfl))) (mvT hZ20 (hw _ (List.mem_of_getElem? (i := 66) rfl))) (notFace_of_selects (args := #[]) (mvT hZ20 (hw _ (List.mem_of_getElem? (i := 68) rfl)))) (mvT hZ20 (hw _ (List.mem_of_getElem? (i := 68) rfl))) (mvT hZ20 (hw _ (List.mem_of_getElem? (i := 67) rfl))) (by decide) (backOf (W := 0) (rm12 l Z a0 hw [] b19 b1 ((vO p1) + (vLen p1 p2)) (vO p1) (bys q0) T20.heap n0 Z20 Ec20 Fc20_bytes Fc20_end Fc20_position G19 f20_V_b1 (Ne.symm ne_b1_b19) (own_in0 q0 p1 p2 p3 hc138) (own_ne0 p1 p2 p3 hc138)) hZ20 (hw _ (List.mem_of_getElem? (i := 69) rfl)) (hw _ (List.mem_of_getElem? (i := 12) rfl)) (by decide) (by decide)) q21a q21c (g := (mkF m 148 #[.val (.long q0), .second, .val (.int p1), .val (.int p2), .val (.int p3), .val (.ref b1), .val (.int (vO p1)), .val (.int (vLen p1 p2)), .val (.int (vN p1 p2 p3)), .val (.ref b19), .val (.int (1 : Int32)), .unset, .unset] [(.ref b19)])) rfl (by rw [hml]; rfl) (Steps.refl _) (argsL := []) (rest := []) (lenOf pd9 rfl) rfl (by show 2 * 0 + _ ≤ _; exact Nat.le_of_eq rfl) (hb hby at_148) (fun _ _ => ⟨rfl, rfl, (by decide : 6 + 0 ≤ _), (by decide : 59 + 0 ≤ _)⟩)
  dsimp only [Pt.U, Pt.locs, Pt.cells, Pt.slots] at X21 l21 y21 z21 st21 hQ21
  subst y21 z21
  obtain ⟨rfl, N21q, K21, Em21, Fm21_bytes, Fm21_end, Fm21_position⟩ := hQ21
  have f21_E_b1 : Exa Z T21.heap b1 "[B" := f20_E_b1.keep K21
  have f21_V_b1 : ArrL .byte Z T21.heap b1 (bys q0) := f20_V_b1.keep K21 (ninS ne_b1_b19 nin0)
  have Z21 : n0 ≤ Array.size T21.heap := Nat.le_trans Z20 K21.1
  have kp21 : T20.heap.size ≤ Array.size T21.heap := Nat.le_trans (Nat.le_refl _) K21.1
  have N21 : Fr n0 L21 := by rw [l21]; exact Fr.app N20 N21q
  obtain ⟨_, _, ⟨T22, L22, k22, n22⟩, -, X22, ⟨Lc22, hQ22, l22, y22, z22⟩, st22⟩ := Jvm.LawKit.callS X21 hx (y := (⟨"com/example/packwise/packwise/ByteArraySourceReadBytePinLaw", "at", "(JI)B"⟩ : MethodName)) hown20 (mvT hZ20 (hw _ (List.mem_of_getElem? (i := 1) rfl))) (mvT hZ20 (hw _ (List.mem_of_getElem? (i := 2) rfl))) (mvT hZ20 (hw _ (List.mem_of_getElem? (i := 3) rfl))) (mvT hZ20 (hw _ (List.mem_of_getElem? (i := 4) rfl))) (by decide) (backOf (W := 1) (rm1 l Z a0 hw [] q0 (vO p1) T21.heap n0 Z21) hZ20 (hw _ (List.mem_of_getElem? (i := 4) rfl)) (hw _ (List.mem_of_getElem? (i := 3) rfl)) (by decide) (by decide)) (g := (mkF m 154 #[.val (.long q0), .second, .val (.int p1), .val (.int p2), .val (.int p3), .val (.ref b1), .val (.int (vO p1)), .val (.int (vLen p1 p2)), .val (.int (vN p1 p2 p3)), .val (.ref b19), .val (.int (1 : Int32)), .unset, .unset] [(.int (vO p1)), (.long q0), (.int (((bys q0).getD (vO p1).toNatClampNeg 0).toInt8.toInt32))])) rfl (by rw [hml]; rfl) (argsL := [(.long q0), (.int (vO p1))]) (rest := [(.int (((bys q0).getD (vO p1).toNatClampNeg 0).toInt8.toInt32))]) (lenOf pd6 rfl) rfl (by show 2 * 0 + _ ≤ _; exact Nat.le_of_eq rfl) (hb hby at_154) (fun _ _ => ⟨rfl, rfl, (by decide : 6 + 0 ≤ _), (by decide : 59 + 0 ≤ _)⟩)
  dsimp only [Pt.U, Pt.locs, Pt.cells, Pt.slots] at X22 l22 y22 z22 st22 hQ22
  subst y22 z22
  obtain ⟨rfl, N22q, e22⟩ := hQ22
  have N22 : Fr n0 L22 := by rw [l22]; exact Fr.app N21 N22q
  obtain ⟨cq23, kq23, q23a, q23b, q23c⟩ := isOf hZ20 e22 Em21
  obtain ⟨_, _, ⟨T23, L23, k23, n23⟩, -, X23, ⟨Lc23, hQ23, l23, y23, z23⟩, st23⟩ := X22.virtualBack hx (y := (⟨"com/example/packwise/packwise/ByteArraySource", "readByte", "()B"⟩ : MethodName)) (z := (⟨"com/example/packwise/packwise/ByteArraySource", "readByte", "()B"⟩ : MethodName)) hown20 (mvT hZ20 (hw _ (List.mem_of_getElem? (i := 65) rfl))) (mvT hZ20 (hw _ (List.mem_of_getElem? (i := 66) rfl))) (notFace_of_selects (args := #[]) (mvT hZ20 (hw _ (List.mem_of_getElem? (i := 68) rfl)))) (mvT hZ20 (hw _ (List.mem_of_getElem? (i := 68) rfl))) (mvT hZ20 (hw _ (List.mem_of_getElem? (i := 67) rfl))) (by decide) (backOf (W := 0) (rm12 l Z a0 hw [] b19 b1 ((vO p1) + (vLen p1 p2)) ((vO p1) + (1 : Int32)) (bys q0) T21.heap n0 Z21 Em21 Fm21_bytes Fm21_end Fm21_position G19 f21_V_b1 (Ne.symm ne_b1_b19) (own_in1 q0 p1 p2 p3 hc170) (own_ne1 p1 p2 p3 hc170)) hZ20 (hw _ (List.mem_of_getElem? (i := 69) rfl)) (hw _ (List.mem_of_getElem? (i := 12) rfl)) (by decide) (by decide)) q23a q23c (g := (mkF m 180 #[.val (.long q0), .second, .val (.int p1), .val (.int p2), .val (.int p3), .val (.ref b1), .val (.int (vO p1)), .val (.int (vLen p1 p2)), .val (.int (vN p1 p2 p3)), .val (.ref b19), .val (.int (1 : Int32)), .unset, .unset] [(.ref b19)])) rfl (by rw [hml]; rfl) (Steps.refl _) (argsL := []) (rest := []) (lenOf pd9 rfl) rfl (by show 2 * 0 + _ ≤ _; exact Nat.le_of_eq rfl) (hb hby at_180) (fun _ _ => ⟨rfl, e22, (by decide : 6 + 0 ≤ _), (by decide : 59 + 0 ≤ _)⟩)
  dsimp only [Pt.U, Pt.locs, Pt.cells, Pt.slots] at X23 l23 y23 z23 st23 hQ23
  subst y23 z23
  obtain ⟨rfl, N23q, K23, Em23, Fm23_bytes, Fm23_end, Fm23_position⟩ := hQ23
  have f23_E_b1 : Exa Z T23.heap b1 "[B" := f21_E_b1.keep K23
  have f23_V_b1 : ArrL .byte Z T23.heap b1 (bys q0) := f21_V_b1.keep K23 (ninS ne_b1_b19 nin0)
  have Z23 : n0 ≤ Array.size T23.heap := Nat.le_trans Z21 K23.1
  have kp23 : T20.heap.size ≤ Array.size T23.heap := Nat.le_trans kp21 K23.1
  have N23 : Fr n0 L23 := by rw [l23]; exact Fr.app N22 N23q
  obtain ⟨_, _, ⟨T24, L24, k24, n24⟩, -, X24, ⟨Lc24, hQ24, l24, y24, z24⟩, st24⟩ := Jvm.LawKit.callS X23 hx (y := (⟨"com/example/packwise/packwise/ByteArraySourceReadBytePinLaw", "at", "(JI)B"⟩ : MethodName)) hown20 (mvT hZ20 (hw _ (List.mem_of_getElem? (i := 1) rfl))) (mvT hZ20 (hw _ (List.mem_of_getElem? (i := 2) rfl))) (mvT hZ20 (hw _ (List.mem_of_getElem? (i := 3) rfl))) (mvT hZ20 (hw _ (List.mem_of_getElem? (i := 4) rfl))) (by decide) (backOf (W := 1) (rm1 l Z a0 hw [] q0 ((vO p1) + (1 : Int32)) T23.heap n0 Z23) hZ20 (hw _ (List.mem_of_getElem? (i := 4) rfl)) (hw _ (List.mem_of_getElem? (i := 3) rfl)) (by decide) (by decide)) (g := (mkF m 188 #[.val (.long q0), .second, .val (.int p1), .val (.int p2), .val (.int p3), .val (.ref b1), .val (.int (vO p1)), .val (.int (vLen p1 p2)), .val (.int (vN p1 p2 p3)), .val (.ref b19), .val (.int (1 : Int32)), .unset, .unset] [(.int ((vO p1) + (1 : Int32))), (.long q0), (.int (((bys q0).getD ((vO p1) + (1 : Int32)).toNatClampNeg 0).toInt8.toInt32))])) rfl (by rw [hml]; rfl) (argsL := [(.long q0), (.int ((vO p1) + (1 : Int32)))]) (rest := [(.int (((bys q0).getD ((vO p1) + (1 : Int32)).toNatClampNeg 0).toInt8.toInt32))]) (lenOf pd6 rfl) rfl (by show 2 * 0 + _ ≤ _; exact Nat.le_of_eq rfl) (hb hby at_188) (fun _ _ => ⟨rfl, rfl, (by decide : 6 + 0 ≤ _), (by decide : 59 + 0 ≤ _)⟩)
  dsimp only [Pt.U, Pt.locs, Pt.cells, Pt.slots] at X24 l24 y24 z24 st24 hQ24
  subst y24 z24
  obtain ⟨rfl, N24q, e24⟩ := hQ24
  have N24 : Fr n0 L24 := by rw [l24]; exact Fr.app N23 N24q
  obtain ⟨cq25, kq25, q25a, q25b, q25c⟩ := isOf hZ20 e24 Em23
  obtain ⟨_, _, ⟨T25, L25, k25, n25⟩, -, X25, ⟨Lc25, hQ25, l25, y25, z25⟩, st25⟩ := X24.virtualBack hx (y := (⟨"com/example/packwise/packwise/ByteArraySource", "readByte", "()B"⟩ : MethodName)) (z := (⟨"com/example/packwise/packwise/ByteArraySource", "readByte", "()B"⟩ : MethodName)) hown20 (mvT hZ20 (hw _ (List.mem_of_getElem? (i := 65) rfl))) (mvT hZ20 (hw _ (List.mem_of_getElem? (i := 66) rfl))) (notFace_of_selects (args := #[]) (mvT hZ20 (hw _ (List.mem_of_getElem? (i := 68) rfl)))) (mvT hZ20 (hw _ (List.mem_of_getElem? (i := 68) rfl))) (mvT hZ20 (hw _ (List.mem_of_getElem? (i := 67) rfl))) (by decide) (backOf (W := 0) (rm12 l Z a0 hw [] b19 b1 ((vO p1) + (vLen p1 p2)) (((vO p1) + (1 : Int32)) + (1 : Int32)) (bys q0) T23.heap n0 Z23 Em23 Fm23_bytes Fm23_end Fm23_position G19 f23_V_b1 (Ne.symm ne_b1_b19) (own_in2 q0 p1 p2 p3 hc204) (own_ne2 p1 p2 p3 hc204)) hZ20 (hw _ (List.mem_of_getElem? (i := 69) rfl)) (hw _ (List.mem_of_getElem? (i := 12) rfl)) (by decide) (by decide)) q25a q25c (g := (mkF m 214 #[.val (.long q0), .second, .val (.int p1), .val (.int p2), .val (.int p3), .val (.ref b1), .val (.int (vO p1)), .val (.int (vLen p1 p2)), .val (.int (vN p1 p2 p3)), .val (.ref b19), .val (.int (1 : Int32)), .unset, .unset] [(.ref b19)])) rfl (by rw [hml]; rfl) (Steps.refl _) (argsL := []) (rest := []) (lenOf pd9 rfl) rfl (by show 2 * 0 + _ ≤ _; exact Nat.le_of_eq rfl) (hb hby at_214) (fun _ _ => ⟨rfl, e24, (by decide : 6 + 0 ≤ _), (by decide : 59 + 0 ≤ _)⟩)
  dsimp only [Pt.U, Pt.locs, Pt.cells, Pt.slots] at X25 l25 y25 z25 st25 hQ25
  subst y25 z25
  obtain ⟨rfl, N25q, K25, Em25, Fm25_bytes, Fm25_end, Fm25_position⟩ := hQ25
  have f25_E_b1 : Exa Z T25.heap b1 "[B" := f23_E_b1.keep K25
  have f25_V_b1 : ArrL .byte Z T25.heap b1 (bys q0) := f23_V_b1.keep K25 (ninS ne_b1_b19 nin0)
  have Z25 : n0 ≤ Array.size T25.heap := Nat.le_trans Z23 K25.1
  have kp25 : T20.heap.size ≤ Array.size T25.heap := Nat.le_trans kp23 K25.1
  have N25 : Fr n0 L25 := by rw [l25]; exact Fr.app N24 N25q
  obtain ⟨_, _, ⟨T26, L26, k26, n26⟩, -, X26, ⟨Lc26, hQ26, l26, y26, z26⟩, st26⟩ := Jvm.LawKit.callS X25 hx (y := (⟨"com/example/packwise/packwise/ByteArraySourceReadBytePinLaw", "at", "(JI)B"⟩ : MethodName)) hown20 (mvT hZ20 (hw _ (List.mem_of_getElem? (i := 1) rfl))) (mvT hZ20 (hw _ (List.mem_of_getElem? (i := 2) rfl))) (mvT hZ20 (hw _ (List.mem_of_getElem? (i := 3) rfl))) (mvT hZ20 (hw _ (List.mem_of_getElem? (i := 4) rfl))) (by decide) (backOf (W := 1) (rm1 l Z a0 hw [] q0 ((vO p1) + (2 : Int32)) T25.heap n0 Z25) hZ20 (hw _ (List.mem_of_getElem? (i := 4) rfl)) (hw _ (List.mem_of_getElem? (i := 3) rfl)) (by decide) (by decide)) (g := (mkF m 222 #[.val (.long q0), .second, .val (.int p1), .val (.int p2), .val (.int p3), .val (.ref b1), .val (.int (vO p1)), .val (.int (vLen p1 p2)), .val (.int (vN p1 p2 p3)), .val (.ref b19), .val (.int (1 : Int32)), .unset, .unset] [(.int ((vO p1) + (2 : Int32))), (.long q0), (.int (((bys q0).getD (((vO p1) + (1 : Int32)) + (1 : Int32)).toNatClampNeg 0).toInt8.toInt32))])) rfl (by rw [hml]; rfl) (argsL := [(.long q0), (.int ((vO p1) + (2 : Int32)))]) (rest := [(.int (((bys q0).getD (((vO p1) + (1 : Int32)) + (1 : Int32)).toNatClampNeg 0).toInt8.toInt32))]) (lenOf pd6 rfl) rfl (by show 2 * 0 + _ ≤ _; exact Nat.le_of_eq rfl) (hb hby at_222) (fun _ _ => ⟨rfl, rfl, (by decide : 6 + 0 ≤ _), (by decide : 59 + 0 ≤ _)⟩)
  dsimp only [Pt.U, Pt.locs, Pt.cells, Pt.slots] at X26 l26 y26 z26 st26 hQ26
  subst y26 z26
  obtain ⟨rfl, N26q, e26⟩ := hQ26
  have N26 : Fr n0 L26 := by rw [l26]; exact Fr.app N25 N26q
  obtain ⟨cq27, kq27, q27a, q27b, q27c⟩ := isOf hZ20 e26 Em25
  obtain ⟨_, _, ⟨T27, L27, k27, n27⟩, -, X27, ⟨Lc27, hQ27, l27, y27, z27⟩, st27⟩ := X26.virtualBack hx (y := (⟨"com/example/packwise/packwise/ByteArraySource", "skipBytes", "(J)J"⟩ : MethodName)) (z := (⟨"com/example/packwise/packwise/ByteArraySource", "skipBytes", "(J)J"⟩ : MethodName)) hown20 (mvT hZ20 (hw _ (List.mem_of_getElem? (i := 53) rfl))) (mvT hZ20 (hw _ (List.mem_of_getElem? (i := 54) rfl))) (notFace_of_selects (args := #[]) (mvT hZ20 (hw _ (List.mem_of_getElem? (i := 56) rfl)))) (mvT hZ20 (hw _ (List.mem_of_getElem? (i := 56) rfl))) (mvT hZ20 (hw _ (List.mem_of_getElem? (i := 55) rfl))) (by decide) (backOf (W := 0) (rm9 l Z a0 hw [] b19 (8 : Int64) ((vO p1) + (vLen p1 p2)) ((((vO p1) + (1 : Int32)) + (1 : Int32)) + (1 : Int32)) T25.heap n0 Z25 Em25 Fm25_end Fm25_position G19 (by decide)) hZ20 (hw _ (List.mem_of_getElem? (i := 57) rfl)) (hw _ (List.mem_of_getElem? (i := 12) rfl)) (by decide) (by decide)) q27a q27c (g := (mkF m 274 #[.val (.long q0), .second, .val (.int p1), .val (.int p2), .val (.int p3), .val (.ref b1), .val (.int (vO p1)), .val (.int (vLen p1 p2)), .val (.int (vN p1 p2 p3)), .val (.ref b19), .val (.int (1 : Int32)), .unset, .unset] [(.long (8 : Int64)), (.ref b19)])) rfl (by rw [hml]; rfl) (Steps.refl _) (argsL := [(.long (8 : Int64))]) (rest := []) (lenOf pd8 rfl) rfl (by show 2 * 0 + _ ≤ _; exact Nat.le_of_eq rfl) (hb hby at_274) (fun _ _ => ⟨rfl, e26, (by decide : 6 + 0 ≤ _), (by decide : 59 + 0 ≤ _)⟩)
  dsimp only [Pt.U, Pt.locs, Pt.cells, Pt.slots] at X27 l27 y27 z27 st27 hQ27
  subst y27 z27
  obtain ⟨rfl, N27q, K27, Em27, Fm27_end, Fm27_position⟩ := hQ27
  have f27_E_b1 : Exa Z T27.heap b1 "[B" := f25_E_b1.keep K27
  have f27_V_b1 : ArrL .byte Z T27.heap b1 (bys q0) := f25_V_b1.keep K27 (ninS ne_b1_b19 nin0)
  have Z27 : n0 ≤ Array.size T27.heap := Nat.le_trans Z25 K27.1
  have kp27 : T20.heap.size ≤ Array.size T27.heap := Nat.le_trans kp25 K27.1
  have N27 : Fr n0 L27 := by rw [l27]; exact Fr.app N26 N27q
  obtain ⟨fs, hr, hrun, hended, hEnd⟩ := X27.leaveW (s := s) (vm₁ := T20.vm) S20 kp27 (v := some (.int (1 : Int32))) (fun h => by rw [Bd.returns] at h; cases h)
  refine ⟨_, _, pre0 _ ?_, hrun, hended, _, _, rfl, ⟨rfl, N27⟩, hEnd.1, hEnd.2.1, hEnd.2.2.1, hEnd.2.2.2.mono (by decide) (by decide)⟩
  show Steps p.tables e below (s₁.setTop (mkF m 0 #[.val (.long q0), .second, .val (.int p1), .val (.int p2), .val (.int p3), .unset, .unset, .unset, .unset, .unset, .unset, .unset, .unset] [])) _
  refine XS.bipush X0.here hx rfl (hb hby at_0) ?_
  show Steps p.tables e below (s₁.setTop (mkF m 2 #[.val (.long q0), .second, .val (.int p1), .val (.int p2), .val (.int p3), .unset, .unset, .unset, .unset, .unset, .unset, .unset, .unset] [(.int (8 : Int32))])) _
  refine st1 _ ?_
  show Steps p.tables e below (T1.setTop (mkF m 4 #[.val (.long q0), .second, .val (.int p1), .val (.int p2), .val (.int p3), .unset, .unset, .unset, .unset, .unset, .unset, .unset, .unset] [(.ref b1)])) _
  refine XS.astore X1.here hx rfl (hb hby at_4) rfl rfl (l' := #[.val (.long q0), .second, .val (.int p1), .val (.int p2), .val (.int p3), .val (.ref b1), .unset, .unset, .unset, .unset, .unset, .unset, .unset]) rfl ?_
  show Steps p.tables e below (T1.setTop (mkF m 6 #[.val (.long q0), .second, .val (.int p1), .val (.int p2), .val (.int p3), .val (.ref b1), .unset, .unset, .unset, .unset, .unset, .unset, .unset] [])) _
  refine XS.aload X1.here hx rfl (hb hby at_6) rfl rfl ?_
  show Steps p.tables e below (T1.setTop (mkF m 8 #[.val (.long q0), .second, .val (.int p1), .val (.int p2), .val (.int p3), .val (.ref b1), .unset, .unset, .unset, .unset, .unset, .unset, .unset] [(.ref b1)])) _
  refine XS.iconst X1.here hx rfl (hb hby at_8) ?_
  show Steps p.tables e below (T1.setTop (mkF m 9 #[.val (.long q0), .second, .val (.int p1), .val (.int p2), .val (.int p3), .val (.ref b1), .unset, .unset, .unset, .unset, .unset, .unset, .unset] [(.int (0 : Int32)), (.ref b1)])) _
  refine XS.lloadN X1.here hx rfl (hb hby at_9) rfl ?_
  show Steps p.tables e below (T1.setTop (mkF m 10 #[.val (.long q0), .second, .val (.int p1), .val (.int p2), .val (.int p3), .val (.ref b1), .unset, .unset, .unset, .unset, .unset, .unset, .unset] [(.long q0), (.int (0 : Int32)), (.ref b1)])) _
  refine XS.iconst X1.here hx rfl (hb hby at_10) ?_
  show Steps p.tables e below (T1.setTop (mkF m 11 #[.val (.long q0), .second, .val (.int p1), .val (.int p2), .val (.int p3), .val (.ref b1), .unset, .unset, .unset, .unset, .unset, .unset, .unset] [(.int (0 : Int32)), (.long q0), (.int (0 : Int32)), (.ref b1)])) _
  refine st2 _ ?_
  show Steps p.tables e below (T2.setTop (mkF m 14 #[.val (.long q0), .second, .val (.int p1), .val (.int p2), .val (.int p3), .val (.ref b1), .unset, .unset, .unset, .unset, .unset, .unset, .unset] [(.int (F1_0 q0 (0 : Int32))), (.int (0 : Int32)), (.ref b1)])) _
  refine st3 _ ?_
  show Steps p.tables e below (T3.setTop (mkF m 15 #[.val (.long q0), .second, .val (.int p1), .val (.int p2), .val (.int p3), .val (.ref b1), .unset, .unset, .unset, .unset, .unset, .unset, .unset] [])) _
  refine XS.aload X3.here hx rfl (hb hby at_15) rfl rfl ?_
  show Steps p.tables e below (T3.setTop (mkF m 17 #[.val (.long q0), .second, .val (.int p1), .val (.int p2), .val (.int p3), .val (.ref b1), .unset, .unset, .unset, .unset, .unset, .unset, .unset] [(.ref b1)])) _
  refine XS.iconst X3.here hx rfl (hb hby at_17) ?_
  show Steps p.tables e below (T3.setTop (mkF m 18 #[.val (.long q0), .second, .val (.int p1), .val (.int p2), .val (.int p3), .val (.ref b1), .unset, .unset, .unset, .unset, .unset, .unset, .unset] [(.int (1 : Int32)), (.ref b1)])) _
  refine XS.lloadN X3.here hx rfl (hb hby at_18) rfl ?_
  show Steps p.tables e below (T3.setTop (mkF m 19 #[.val (.long q0), .second, .val (.int p1), .val (.int p2), .val (.int p3), .val (.ref b1), .unset, .unset, .unset, .unset, .unset, .unset, .unset] [(.long q0), (.int (1 : Int32)), (.ref b1)])) _
  refine XS.iconst X3.here hx rfl (hb hby at_19) ?_
  show Steps p.tables e below (T3.setTop (mkF m 20 #[.val (.long q0), .second, .val (.int p1), .val (.int p2), .val (.int p3), .val (.ref b1), .unset, .unset, .unset, .unset, .unset, .unset, .unset] [(.int (1 : Int32)), (.long q0), (.int (1 : Int32)), (.ref b1)])) _
  refine st4 _ ?_
  show Steps p.tables e below (T4.setTop (mkF m 23 #[.val (.long q0), .second, .val (.int p1), .val (.int p2), .val (.int p3), .val (.ref b1), .unset, .unset, .unset, .unset, .unset, .unset, .unset] [(.int (F1_0 q0 (1 : Int32))), (.int (1 : Int32)), (.ref b1)])) _
  refine st5 _ ?_
  show Steps p.tables e below (T5.setTop (mkF m 24 #[.val (.long q0), .second, .val (.int p1), .val (.int p2), .val (.int p3), .val (.ref b1), .unset, .unset, .unset, .unset, .unset, .unset, .unset] [])) _
  refine XS.aload X5.here hx rfl (hb hby at_24) rfl rfl ?_
  show Steps p.tables e below (T5.setTop (mkF m 26 #[.val (.long q0), .second, .val (.int p1), .val (.int p2), .val (.int p3), .val (.ref b1), .unset, .unset, .unset, .unset, .unset, .unset, .unset] [(.ref b1)])) _
  refine XS.iconst X5.here hx rfl (hb hby at_26) ?_
  show Steps p.tables e below (T5.setTop (mkF m 27 #[.val (.long q0), .second, .val (.int p1), .val (.int p2), .val (.int p3), .val (.ref b1), .unset, .unset, .unset, .unset, .unset, .unset, .unset] [(.int (2 : Int32)), (.ref b1)])) _
  refine XS.lloadN X5.here hx rfl (hb hby at_27) rfl ?_
  show Steps p.tables e below (T5.setTop (mkF m 28 #[.val (.long q0), .second, .val (.int p1), .val (.int p2), .val (.int p3), .val (.ref b1), .unset, .unset, .unset, .unset, .unset, .unset, .unset] [(.long q0), (.int (2 : Int32)), (.ref b1)])) _
  refine XS.iconst X5.here hx rfl (hb hby at_28) ?_
  show Steps p.tables e below (T5.setTop (mkF m 29 #[.val (.long q0), .second, .val (.int p1), .val (.int p2), .val (.int p3), .val (.ref b1), .unset, .unset, .unset, .unset, .unset, .unset, .unset] [(.int (2 : Int32)), (.long q0), (.int (2 : Int32)), (.ref b1)])) _
  refine st6 _ ?_
  show Steps p.tables e below (T6.setTop (mkF m 32 #[.val (.long q0), .second, .val (.int p1), .val (.int p2), .val (.int p3), .val (.ref b1), .unset, .unset, .unset, .unset, .unset, .unset, .unset] [(.int (F1_0 q0 (2 : Int32))), (.int (2 : Int32)), (.ref b1)])) _
  refine st7 _ ?_
  show Steps p.tables e below (T7.setTop (mkF m 33 #[.val (.long q0), .second, .val (.int p1), .val (.int p2), .val (.int p3), .val (.ref b1), .unset, .unset, .unset, .unset, .unset, .unset, .unset] [])) _
  refine XS.aload X7.here hx rfl (hb hby at_33) rfl rfl ?_
  show Steps p.tables e below (T7.setTop (mkF m 35 #[.val (.long q0), .second, .val (.int p1), .val (.int p2), .val (.int p3), .val (.ref b1), .unset, .unset, .unset, .unset, .unset, .unset, .unset] [(.ref b1)])) _
  refine XS.iconst X7.here hx rfl (hb hby at_35) ?_
  show Steps p.tables e below (T7.setTop (mkF m 36 #[.val (.long q0), .second, .val (.int p1), .val (.int p2), .val (.int p3), .val (.ref b1), .unset, .unset, .unset, .unset, .unset, .unset, .unset] [(.int (3 : Int32)), (.ref b1)])) _
  refine XS.lloadN X7.here hx rfl (hb hby at_36) rfl ?_
  show Steps p.tables e below (T7.setTop (mkF m 37 #[.val (.long q0), .second, .val (.int p1), .val (.int p2), .val (.int p3), .val (.ref b1), .unset, .unset, .unset, .unset, .unset, .unset, .unset] [(.long q0), (.int (3 : Int32)), (.ref b1)])) _
  refine XS.iconst X7.here hx rfl (hb hby at_37) ?_
  show Steps p.tables e below (T7.setTop (mkF m 38 #[.val (.long q0), .second, .val (.int p1), .val (.int p2), .val (.int p3), .val (.ref b1), .unset, .unset, .unset, .unset, .unset, .unset, .unset] [(.int (3 : Int32)), (.long q0), (.int (3 : Int32)), (.ref b1)])) _
  refine st8 _ ?_
  show Steps p.tables e below (T8.setTop (mkF m 41 #[.val (.long q0), .second, .val (.int p1), .val (.int p2), .val (.int p3), .val (.ref b1), .unset, .unset, .unset, .unset, .unset, .unset, .unset] [(.int (F1_0 q0 (3 : Int32))), (.int (3 : Int32)), (.ref b1)])) _
  refine st9 _ ?_
  show Steps p.tables e below (T9.setTop (mkF m 42 #[.val (.long q0), .second, .val (.int p1), .val (.int p2), .val (.int p3), .val (.ref b1), .unset, .unset, .unset, .unset, .unset, .unset, .unset] [])) _
  refine XS.aload X9.here hx rfl (hb hby at_42) rfl rfl ?_
  show Steps p.tables e below (T9.setTop (mkF m 44 #[.val (.long q0), .second, .val (.int p1), .val (.int p2), .val (.int p3), .val (.ref b1), .unset, .unset, .unset, .unset, .unset, .unset, .unset] [(.ref b1)])) _
  refine XS.iconst X9.here hx rfl (hb hby at_44) ?_
  show Steps p.tables e below (T9.setTop (mkF m 45 #[.val (.long q0), .second, .val (.int p1), .val (.int p2), .val (.int p3), .val (.ref b1), .unset, .unset, .unset, .unset, .unset, .unset, .unset] [(.int (4 : Int32)), (.ref b1)])) _
  refine XS.lloadN X9.here hx rfl (hb hby at_45) rfl ?_
  show Steps p.tables e below (T9.setTop (mkF m 46 #[.val (.long q0), .second, .val (.int p1), .val (.int p2), .val (.int p3), .val (.ref b1), .unset, .unset, .unset, .unset, .unset, .unset, .unset] [(.long q0), (.int (4 : Int32)), (.ref b1)])) _
  refine XS.iconst X9.here hx rfl (hb hby at_46) ?_
  show Steps p.tables e below (T9.setTop (mkF m 47 #[.val (.long q0), .second, .val (.int p1), .val (.int p2), .val (.int p3), .val (.ref b1), .unset, .unset, .unset, .unset, .unset, .unset, .unset] [(.int (4 : Int32)), (.long q0), (.int (4 : Int32)), (.ref b1)])) _
  refine st10 _ ?_
  show Steps p.tables e below (T10.setTop (mkF m 50 #[.val (.long q0), .second, .val (.int p1), .val (.int p2), .val (.int p3), .val (.ref b1), .unset, .unset, .unset, .unset, .unset, .unset, .unset] [(.int (F1_0 q0 (4 : Int32))), (.int (4 : Int32)), (.ref b1)])) _
  refine st11 _ ?_
  show Steps p.tables e below (T11.setTop (mkF m 51 #[.val (.long q0), .second, .val (.int p1), .val (.int p2), .val (.int p3), .val (.ref b1), .unset, .unset, .unset, .unset, .unset, .unset, .unset] [])) _
  refine XS.aload X11.here hx rfl (hb hby at_51) rfl rfl ?_
  show Steps p.tables e below (T11.setTop (mkF m 53 #[.val (.long q0), .second, .val (.int p1), .val (.int p2), .val (.int p3), .val (.ref b1), .unset, .unset, .unset, .unset, .unset, .unset, .unset] [(.ref b1)])) _
  refine XS.iconst X11.here hx rfl (hb hby at_53) ?_
  show Steps p.tables e below (T11.setTop (mkF m 54 #[.val (.long q0), .second, .val (.int p1), .val (.int p2), .val (.int p3), .val (.ref b1), .unset, .unset, .unset, .unset, .unset, .unset, .unset] [(.int (5 : Int32)), (.ref b1)])) _
  refine XS.lloadN X11.here hx rfl (hb hby at_54) rfl ?_
  show Steps p.tables e below (T11.setTop (mkF m 55 #[.val (.long q0), .second, .val (.int p1), .val (.int p2), .val (.int p3), .val (.ref b1), .unset, .unset, .unset, .unset, .unset, .unset, .unset] [(.long q0), (.int (5 : Int32)), (.ref b1)])) _
  refine XS.iconst X11.here hx rfl (hb hby at_55) ?_
  show Steps p.tables e below (T11.setTop (mkF m 56 #[.val (.long q0), .second, .val (.int p1), .val (.int p2), .val (.int p3), .val (.ref b1), .unset, .unset, .unset, .unset, .unset, .unset, .unset] [(.int (5 : Int32)), (.long q0), (.int (5 : Int32)), (.ref b1)])) _
  refine st12 _ ?_
  show Steps p.tables e below (T12.setTop (mkF m 59 #[.val (.long q0), .second, .val (.int p1), .val (.int p2), .val (.int p3), .val (.ref b1), .unset, .unset, .unset, .unset, .unset, .unset, .unset] [(.int (F1_0 q0 (5 : Int32))), (.int (5 : Int32)), (.ref b1)])) _
  refine st13 _ ?_
  show Steps p.tables e below (T13.setTop (mkF m 60 #[.val (.long q0), .second, .val (.int p1), .val (.int p2), .val (.int p3), .val (.ref b1), .unset, .unset, .unset, .unset, .unset, .unset, .unset] [])) _
  refine XS.aload X13.here hx rfl (hb hby at_60) rfl rfl ?_
  show Steps p.tables e below (T13.setTop (mkF m 62 #[.val (.long q0), .second, .val (.int p1), .val (.int p2), .val (.int p3), .val (.ref b1), .unset, .unset, .unset, .unset, .unset, .unset, .unset] [(.ref b1)])) _
  refine XS.bipush X13.here hx rfl (hb hby at_62) ?_
  show Steps p.tables e below (T13.setTop (mkF m 64 #[.val (.long q0), .second, .val (.int p1), .val (.int p2), .val (.int p3), .val (.ref b1), .unset, .unset, .unset, .unset, .unset, .unset, .unset] [(.int (6 : Int32)), (.ref b1)])) _
  refine XS.lloadN X13.here hx rfl (hb hby at_64) rfl ?_
  show Steps p.tables e below (T13.setTop (mkF m 65 #[.val (.long q0), .second, .val (.int p1), .val (.int p2), .val (.int p3), .val (.ref b1), .unset, .unset, .unset, .unset, .unset, .unset, .unset] [(.long q0), (.int (6 : Int32)), (.ref b1)])) _
  refine XS.bipush X13.here hx rfl (hb hby at_65) ?_
  show Steps p.tables e below (T13.setTop (mkF m 67 #[.val (.long q0), .second, .val (.int p1), .val (.int p2), .val (.int p3), .val (.ref b1), .unset, .unset, .unset, .unset, .unset, .unset, .unset] [(.int (6 : Int32)), (.long q0), (.int (6 : Int32)), (.ref b1)])) _
  refine st14 _ ?_
  show Steps p.tables e below (T14.setTop (mkF m 70 #[.val (.long q0), .second, .val (.int p1), .val (.int p2), .val (.int p3), .val (.ref b1), .unset, .unset, .unset, .unset, .unset, .unset, .unset] [(.int (F1_0 q0 (6 : Int32))), (.int (6 : Int32)), (.ref b1)])) _
  refine st15 _ ?_
  show Steps p.tables e below (T15.setTop (mkF m 71 #[.val (.long q0), .second, .val (.int p1), .val (.int p2), .val (.int p3), .val (.ref b1), .unset, .unset, .unset, .unset, .unset, .unset, .unset] [])) _
  refine XS.aload X15.here hx rfl (hb hby at_71) rfl rfl ?_
  show Steps p.tables e below (T15.setTop (mkF m 73 #[.val (.long q0), .second, .val (.int p1), .val (.int p2), .val (.int p3), .val (.ref b1), .unset, .unset, .unset, .unset, .unset, .unset, .unset] [(.ref b1)])) _
  refine XS.bipush X15.here hx rfl (hb hby at_73) ?_
  show Steps p.tables e below (T15.setTop (mkF m 75 #[.val (.long q0), .second, .val (.int p1), .val (.int p2), .val (.int p3), .val (.ref b1), .unset, .unset, .unset, .unset, .unset, .unset, .unset] [(.int (7 : Int32)), (.ref b1)])) _
  refine XS.lloadN X15.here hx rfl (hb hby at_75) rfl ?_
  show Steps p.tables e below (T15.setTop (mkF m 76 #[.val (.long q0), .second, .val (.int p1), .val (.int p2), .val (.int p3), .val (.ref b1), .unset, .unset, .unset, .unset, .unset, .unset, .unset] [(.long q0), (.int (7 : Int32)), (.ref b1)])) _
  refine XS.bipush X15.here hx rfl (hb hby at_76) ?_
  show Steps p.tables e below (T15.setTop (mkF m 78 #[.val (.long q0), .second, .val (.int p1), .val (.int p2), .val (.int p3), .val (.ref b1), .unset, .unset, .unset, .unset, .unset, .unset, .unset] [(.int (7 : Int32)), (.long q0), (.int (7 : Int32)), (.ref b1)])) _
  refine st16 _ ?_
  show Steps p.tables e below (T16.setTop (mkF m 81 #[.val (.long q0), .second, .val (.int p1), .val (.int p2), .val (.int p3), .val (.ref b1), .unset, .unset, .unset, .unset, .unset, .unset, .unset] [(.int (F1_0 q0 (7 : Int32))), (.int (7 : Int32)), (.ref b1)])) _
  refine st17 _ ?_
  show Steps p.tables e below (T17.setTop (mkF m 82 #[.val (.long q0), .second, .val (.int p1), .val (.int p2), .val (.int p3), .val (.ref b1), .unset, .unset, .unset, .unset, .unset, .unset, .unset] [])) _
  refine XS.iloadN X17.here hx rfl (hb hby at_82) rfl ?_
  show Steps p.tables e below (T17.setTop (mkF m 83 #[.val (.long q0), .second, .val (.int p1), .val (.int p2), .val (.int p3), .val (.ref b1), .unset, .unset, .unset, .unset, .unset, .unset, .unset] [(.int p1)])) _
  refine X17.ldcInt hx hown (mvT hZ (hw _ (List.mem_of_getElem? (i := 5) rfl))) (g := (mkF m 83 #[.val (.long q0), .second, .val (.int p1), .val (.int p2), .val (.int p3), .val (.ref b1), .unset, .unset, .unset, .unset, .unset, .unset, .unset] [(.int p1)])) rfl (hb hby at_83) _ ?_
  show Steps p.tables e below (T17.setTop (mkF m 85 #[.val (.long q0), .second, .val (.int p1), .val (.int p2), .val (.int p3), .val (.ref b1), .unset, .unset, .unset, .unset, .unset, .unset, .unset] [(.int (2147483647 : Int32)), (.int p1)])) _
  refine XS.iand X17.here hx rfl (hb hby at_85) rfl ?_
  show Steps p.tables e below (T17.setTop (mkF m 86 #[.val (.long q0), .second, .val (.int p1), .val (.int p2), .val (.int p3), .val (.ref b1), .unset, .unset, .unset, .unset, .unset, .unset, .unset] [(.int (p1 &&& (2147483647 : Int32)))])) _
  refine XS.bipush X17.here hx rfl (hb hby at_86) ?_
  show Steps p.tables e below (T17.setTop (mkF m 88 #[.val (.long q0), .second, .val (.int p1), .val (.int p2), .val (.int p3), .val (.ref b1), .unset, .unset, .unset, .unset, .unset, .unset, .unset] [(.int (9 : Int32)), (.int (p1 &&& (2147483647 : Int32)))])) _
  refine XS.irem X17.here hx rfl (hb hby at_88) rfl (by decide) ?_
  show Steps p.tables e below (T17.setTop (mkF m 89 #[.val (.long q0), .second, .val (.int p1), .val (.int p2), .val (.int p3), .val (.ref b1), .unset, .unset, .unset, .unset, .unset, .unset, .unset] [(.int ((p1 &&& (2147483647 : Int32)) - ((p1 &&& (2147483647 : Int32)) / (9 : Int32)) * (9 : Int32)))])) _
  refine XS.istore X17.here hx rfl (hb hby at_89) rfl (l' := #[.val (.long q0), .second, .val (.int p1), .val (.int p2), .val (.int p3), .val (.ref b1), .val (.int ((p1 &&& (2147483647 : Int32)) - ((p1 &&& (2147483647 : Int32)) / (9 : Int32)) * (9 : Int32))), .unset, .unset, .unset, .unset, .unset, .unset]) rfl ?_
  show Steps p.tables e below (T17.setTop (mkF m 91 #[.val (.long q0), .second, .val (.int p1), .val (.int p2), .val (.int p3), .val (.ref b1), .val (.int (vO p1)), .unset, .unset, .unset, .unset, .unset, .unset] [])) _
  refine XS.iloadN X17.here hx rfl (hb hby at_91) rfl ?_
  show Steps p.tables e below (T17.setTop (mkF m 92 #[.val (.long q0), .second, .val (.int p1), .val (.int p2), .val (.int p3), .val (.ref b1), .val (.int (vO p1)), .unset, .unset, .unset, .unset, .unset, .unset] [(.int p2)])) _
  refine X17.ldcInt hx hown (mvT hZ (hw _ (List.mem_of_getElem? (i := 5) rfl))) (g := (mkF m 92 #[.val (.long q0), .second, .val (.int p1), .val (.int p2), .val (.int p3), .val (.ref b1), .val (.int (vO p1)), .unset, .unset, .unset, .unset, .unset, .unset] [(.int p2)])) rfl (hb hby at_92) _ ?_
  show Steps p.tables e below (T17.setTop (mkF m 94 #[.val (.long q0), .second, .val (.int p1), .val (.int p2), .val (.int p3), .val (.ref b1), .val (.int (vO p1)), .unset, .unset, .unset, .unset, .unset, .unset] [(.int (2147483647 : Int32)), (.int p2)])) _
  refine XS.iand X17.here hx rfl (hb hby at_94) rfl ?_
  show Steps p.tables e below (T17.setTop (mkF m 95 #[.val (.long q0), .second, .val (.int p1), .val (.int p2), .val (.int p3), .val (.ref b1), .val (.int (vO p1)), .unset, .unset, .unset, .unset, .unset, .unset] [(.int (p2 &&& (2147483647 : Int32)))])) _
  refine XS.bipush X17.here hx rfl (hb hby at_95) ?_
  show Steps p.tables e below (T17.setTop (mkF m 97 #[.val (.long q0), .second, .val (.int p1), .val (.int p2), .val (.int p3), .val (.ref b1), .val (.int (vO p1)), .unset, .unset, .unset, .unset, .unset, .unset] [(.int (9 : Int32)), (.int (p2 &&& (2147483647 : Int32)))])) _
  refine XS.iload X17.here hx rfl (hb hby at_97) rfl ?_
  show Steps p.tables e below (T17.setTop (mkF m 99 #[.val (.long q0), .second, .val (.int p1), .val (.int p2), .val (.int p3), .val (.ref b1), .val (.int (vO p1)), .unset, .unset, .unset, .unset, .unset, .unset] [(.int (vO p1)), (.int (9 : Int32)), (.int (p2 &&& (2147483647 : Int32)))])) _
  refine XS.isub X17.here hx rfl (hb hby at_99) rfl ?_
  show Steps p.tables e below (T17.setTop (mkF m 100 #[.val (.long q0), .second, .val (.int p1), .val (.int p2), .val (.int p3), .val (.ref b1), .val (.int (vO p1)), .unset, .unset, .unset, .unset, .unset, .unset] [(.int ((9 : Int32) - (vO p1))), (.int (p2 &&& (2147483647 : Int32)))])) _
  refine XS.irem X17.here hx rfl (hb hby at_100) rfl (own_nz p1) ?_
  show Steps p.tables e below (T17.setTop (mkF m 101 #[.val (.long q0), .second, .val (.int p1), .val (.int p2), .val (.int p3), .val (.ref b1), .val (.int (vO p1)), .unset, .unset, .unset, .unset, .unset, .unset] [(.int ((p2 &&& (2147483647 : Int32)) - ((p2 &&& (2147483647 : Int32)) / ((9 : Int32) - (vO p1))) * ((9 : Int32) - (vO p1))))])) _
  refine XS.istore X17.here hx rfl (hb hby at_101) rfl (l' := #[.val (.long q0), .second, .val (.int p1), .val (.int p2), .val (.int p3), .val (.ref b1), .val (.int (vO p1)), .val (.int ((p2 &&& (2147483647 : Int32)) - ((p2 &&& (2147483647 : Int32)) / ((9 : Int32) - (vO p1))) * ((9 : Int32) - (vO p1)))), .unset, .unset, .unset, .unset, .unset]) rfl ?_
  show Steps p.tables e below (T17.setTop (mkF m 103 #[.val (.long q0), .second, .val (.int p1), .val (.int p2), .val (.int p3), .val (.ref b1), .val (.int (vO p1)), .val (.int (vLen p1 p2)), .unset, .unset, .unset, .unset, .unset] [])) _
  refine XS.iload X17.here hx rfl (hb hby at_103) rfl ?_
  show Steps p.tables e below (T17.setTop (mkF m 105 #[.val (.long q0), .second, .val (.int p1), .val (.int p2), .val (.int p3), .val (.ref b1), .val (.int (vO p1)), .val (.int (vLen p1 p2)), .unset, .unset, .unset, .unset, .unset] [(.int p3)])) _
  refine XS.bipush X17.here hx rfl (hb hby at_105) ?_
  show Steps p.tables e below (T17.setTop (mkF m 107 #[.val (.long q0), .second, .val (.int p1), .val (.int p2), .val (.int p3), .val (.ref b1), .val (.int (vO p1)), .val (.int (vLen p1 p2)), .unset, .unset, .unset, .unset, .unset] [(.int (7 : Int32)), (.int p3)])) _
  refine XS.iand X17.here hx rfl (hb hby at_107) rfl ?_
  show Steps p.tables e below (T17.setTop (mkF m 108 #[.val (.long q0), .second, .val (.int p1), .val (.int p2), .val (.int p3), .val (.ref b1), .val (.int (vO p1)), .val (.int (vLen p1 p2)), .unset, .unset, .unset, .unset, .unset] [(.int (p3 &&& (7 : Int32)))])) _
  refine XS.iconst X17.here hx rfl (hb hby at_108) ?_
  show Steps p.tables e below (T17.setTop (mkF m 109 #[.val (.long q0), .second, .val (.int p1), .val (.int p2), .val (.int p3), .val (.ref b1), .val (.int (vO p1)), .val (.int (vLen p1 p2)), .unset, .unset, .unset, .unset, .unset] [(.int (5 : Int32)), (.int (p3 &&& (7 : Int32)))])) _
  refine XS.irem X17.here hx rfl (hb hby at_109) rfl (by decide) ?_
  show Steps p.tables e below (T17.setTop (mkF m 110 #[.val (.long q0), .second, .val (.int p1), .val (.int p2), .val (.int p3), .val (.ref b1), .val (.int (vO p1)), .val (.int (vLen p1 p2)), .unset, .unset, .unset, .unset, .unset] [(.int ((p3 &&& (7 : Int32)) - ((p3 &&& (7 : Int32)) / (5 : Int32)) * (5 : Int32)))])) _
  refine XS.iload X17.here hx rfl (hb hby at_110) rfl ?_
  show Steps p.tables e below (T17.setTop (mkF m 112 #[.val (.long q0), .second, .val (.int p1), .val (.int p2), .val (.int p3), .val (.ref b1), .val (.int (vO p1)), .val (.int (vLen p1 p2)), .unset, .unset, .unset, .unset, .unset] [(.int (vLen p1 p2)), (.int ((p3 &&& (7 : Int32)) - ((p3 &&& (7 : Int32)) / (5 : Int32)) * (5 : Int32)))])) _
  refine st18 _ ?_
  show Steps p.tables e below (T18.setTop (mkF m 115 #[.val (.long q0), .second, .val (.int p1), .val (.int p2), .val (.int p3), .val (.ref b1), .val (.int (vO p1)), .val (.int (vLen p1 p2)), .unset, .unset, .unset, .unset, .unset] [(.int (F2_0 ((p3 &&& (7 : Int32)) - ((p3 &&& (7 : Int32)) / (5 : Int32)) * (5 : Int32)) (vLen p1 p2)))])) _
  refine XS.istore X18.here hx rfl (hb hby at_115) rfl (l' := #[.val (.long q0), .second, .val (.int p1), .val (.int p2), .val (.int p3), .val (.ref b1), .val (.int (vO p1)), .val (.int (vLen p1 p2)), .val (.int (F2_0 ((p3 &&& (7 : Int32)) - ((p3 &&& (7 : Int32)) / (5 : Int32)) * (5 : Int32)) (vLen p1 p2))), .unset, .unset, .unset, .unset]) rfl ?_
  show Steps p.tables e below (T18.setTop (mkF m 117 #[.val (.long q0), .second, .val (.int p1), .val (.int p2), .val (.int p3), .val (.ref b1), .val (.int (vO p1)), .val (.int (vLen p1 p2)), .val (.int (vN p1 p2 p3)), .unset, .unset, .unset, .unset] [])) _
  refine st19 _ ?_
  show Steps p.tables e below (T19.setTop (mkF m 120 #[.val (.long q0), .second, .val (.int p1), .val (.int p2), .val (.int p3), .val (.ref b1), .val (.int (vO p1)), .val (.int (vLen p1 p2)), .val (.int (vN p1 p2 p3)), .unset, .unset, .unset, .unset] [(.ref b19)])) _
  refine XS.dup X19.here hx rfl (hb hby at_120) rfl rfl ?_
  show Steps p.tables e below (T19.setTop (mkF m 121 #[.val (.long q0), .second, .val (.int p1), .val (.int p2), .val (.int p3), .val (.ref b1), .val (.int (vO p1)), .val (.int (vLen p1 p2)), .val (.int (vN p1 p2 p3)), .unset, .unset, .unset, .unset] [(.ref b19), (.ref b19)])) _
  refine XS.aload X19.here hx rfl (hb hby at_121) rfl rfl ?_
  show Steps p.tables e below (T19.setTop (mkF m 123 #[.val (.long q0), .second, .val (.int p1), .val (.int p2), .val (.int p3), .val (.ref b1), .val (.int (vO p1)), .val (.int (vLen p1 p2)), .val (.int (vN p1 p2 p3)), .unset, .unset, .unset, .unset] [(.ref b1), (.ref b19), (.ref b19)])) _
  refine XS.iload X19.here hx rfl (hb hby at_123) rfl ?_
  show Steps p.tables e below (T19.setTop (mkF m 125 #[.val (.long q0), .second, .val (.int p1), .val (.int p2), .val (.int p3), .val (.ref b1), .val (.int (vO p1)), .val (.int (vLen p1 p2)), .val (.int (vN p1 p2 p3)), .unset, .unset, .unset, .unset] [(.int (vO p1)), (.ref b1), (.ref b19), (.ref b19)])) _
  refine XS.iload X19.here hx rfl (hb hby at_125) rfl ?_
  show Steps p.tables e below (T19.setTop (mkF m 127 #[.val (.long q0), .second, .val (.int p1), .val (.int p2), .val (.int p3), .val (.ref b1), .val (.int (vO p1)), .val (.int (vLen p1 p2)), .val (.int (vN p1 p2 p3)), .unset, .unset, .unset, .unset] [(.int (vLen p1 p2)), (.int (vO p1)), (.ref b1), (.ref b19), (.ref b19)])) _
  refine st20.trans ?_
  show Steps p.tables e below (T20.setTop (mkF m 130 #[.val (.long q0), .second, .val (.int p1), .val (.int p2), .val (.int p3), .val (.ref b1), .val (.int (vO p1)), .val (.int (vLen p1 p2)), .val (.int (vN p1 p2 p3)), .unset, .unset, .unset, .unset] [(.ref b19)])) _
  refine XS.astore X20.here hx rfl (hb hby at_130) rfl rfl (l' := #[.val (.long q0), .second, .val (.int p1), .val (.int p2), .val (.int p3), .val (.ref b1), .val (.int (vO p1)), .val (.int (vLen p1 p2)), .val (.int (vN p1 p2 p3)), .val (.ref b19), .unset, .unset, .unset]) rfl ?_
  show Steps p.tables e below (T20.setTop (mkF m 132 #[.val (.long q0), .second, .val (.int p1), .val (.int p2), .val (.int p3), .val (.ref b1), .val (.int (vO p1)), .val (.int (vLen p1 p2)), .val (.int (vN p1 p2 p3)), .val (.ref b19), .unset, .unset, .unset] [])) _
  refine XS.iconst X20.here hx rfl (hb hby at_132) ?_
  show Steps p.tables e below (T20.setTop (mkF m 133 #[.val (.long q0), .second, .val (.int p1), .val (.int p2), .val (.int p3), .val (.ref b1), .val (.int (vO p1)), .val (.int (vLen p1 p2)), .val (.int (vN p1 p2 p3)), .val (.ref b19), .unset, .unset, .unset] [(.int (1 : Int32))])) _
  refine XS.istore X20.here hx rfl (hb hby at_133) rfl (l' := #[.val (.long q0), .second, .val (.int p1), .val (.int p2), .val (.int p3), .val (.ref b1), .val (.int (vO p1)), .val (.int (vLen p1 p2)), .val (.int (vN p1 p2 p3)), .val (.ref b19), .val (.int (1 : Int32)), .unset, .unset]) rfl ?_
  show Steps p.tables e below (T20.setTop (mkF m 135 #[.val (.long q0), .second, .val (.int p1), .val (.int p2), .val (.int p3), .val (.ref b1), .val (.int (vO p1)), .val (.int (vLen p1 p2)), .val (.int (vN p1 p2 p3)), .val (.ref b19), .val (.int (1 : Int32)), .unset, .unset] [])) _
  refine XS.iload X20.here hx rfl (hb hby at_135) rfl ?_
  show Steps p.tables e below (T20.setTop (mkF m 137 #[.val (.long q0), .second, .val (.int p1), .val (.int p2), .val (.int p3), .val (.ref b1), .val (.int (vO p1)), .val (.int (vLen p1 p2)), .val (.int (vN p1 p2 p3)), .val (.ref b19), .val (.int (1 : Int32)), .unset, .unset] [(.int (vN p1 p2 p3))])) _
  refine XS.iconst X20.here hx rfl (hb hby at_137) ?_
  show Steps p.tables e below (T20.setTop (mkF m 138 #[.val (.long q0), .second, .val (.int p1), .val (.int p2), .val (.int p3), .val (.ref b1), .val (.int (vO p1)), .val (.int (vLen p1 p2)), .val (.int (vN p1 p2 p3)), .val (.ref b19), .val (.int (1 : Int32)), .unset, .unset] [(.int (1 : Int32)), (.int (vN p1 p2 p3))])) _
  refine XS.icmpNo X20.here hx rfl (hb hby at_138) rfl (flt hc138).1 ?_
  show Steps p.tables e below (T20.setTop (mkF m 141 #[.val (.long q0), .second, .val (.int p1), .val (.int p2), .val (.int p3), .val (.ref b1), .val (.int (vO p1)), .val (.int (vLen p1 p2)), .val (.int (vN p1 p2 p3)), .val (.ref b19), .val (.int (1 : Int32)), .unset, .unset] [])) _
  refine XS.iload X20.here hx rfl (hb hby at_141) rfl ?_
  show Steps p.tables e below (T20.setTop (mkF m 143 #[.val (.long q0), .second, .val (.int p1), .val (.int p2), .val (.int p3), .val (.ref b1), .val (.int (vO p1)), .val (.int (vLen p1 p2)), .val (.int (vN p1 p2 p3)), .val (.ref b19), .val (.int (1 : Int32)), .unset, .unset] [(.int (1 : Int32))])) _
  refine XS.ifNo X20.here hx rfl (hb hby at_143) rfl ((if0 _ _).trans (feq (by decide)).1) ?_
  show Steps p.tables e below (T20.setTop (mkF m 146 #[.val (.long q0), .second, .val (.int p1), .val (.int p2), .val (.int p3), .val (.ref b1), .val (.int (vO p1)), .val (.int (vLen p1 p2)), .val (.int (vN p1 p2 p3)), .val (.ref b19), .val (.int (1 : Int32)), .unset, .unset] [])) _
  refine XS.aload X20.here hx rfl (hb hby at_146) rfl rfl ?_
  show Steps p.tables e below (T20.setTop (mkF m 148 #[.val (.long q0), .second, .val (.int p1), .val (.int p2), .val (.int p3), .val (.ref b1), .val (.int (vO p1)), .val (.int (vLen p1 p2)), .val (.int (vN p1 p2 p3)), .val (.ref b19), .val (.int (1 : Int32)), .unset, .unset] [(.ref b19)])) _
  refine st21.trans ?_
  show Steps p.tables e below (T21.setTop (mkF m 151 #[.val (.long q0), .second, .val (.int p1), .val (.int p2), .val (.int p3), .val (.ref b1), .val (.int (vO p1)), .val (.int (vLen p1 p2)), .val (.int (vN p1 p2 p3)), .val (.ref b19), .val (.int (1 : Int32)), .unset, .unset] [(.int (((bys q0).getD (vO p1).toNatClampNeg 0).toInt8.toInt32))])) _
  refine XS.lloadN X21.here hx rfl (hb hby at_151) rfl ?_
  show Steps p.tables e below (T21.setTop (mkF m 152 #[.val (.long q0), .second, .val (.int p1), .val (.int p2), .val (.int p3), .val (.ref b1), .val (.int (vO p1)), .val (.int (vLen p1 p2)), .val (.int (vN p1 p2 p3)), .val (.ref b19), .val (.int (1 : Int32)), .unset, .unset] [(.long q0), (.int (((bys q0).getD (vO p1).toNatClampNeg 0).toInt8.toInt32))])) _
  refine XS.iload X21.here hx rfl (hb hby at_152) rfl ?_
  show Steps p.tables e below (T21.setTop (mkF m 154 #[.val (.long q0), .second, .val (.int p1), .val (.int p2), .val (.int p3), .val (.ref b1), .val (.int (vO p1)), .val (.int (vLen p1 p2)), .val (.int (vN p1 p2 p3)), .val (.ref b19), .val (.int (1 : Int32)), .unset, .unset] [(.int (vO p1)), (.long q0), (.int (((bys q0).getD (vO p1).toNatClampNeg 0).toInt8.toInt32))])) _
  refine st22 _ ?_
  show Steps p.tables e below (T22.setTop (mkF m 157 #[.val (.long q0), .second, .val (.int p1), .val (.int p2), .val (.int p3), .val (.ref b1), .val (.int (vO p1)), .val (.int (vLen p1 p2)), .val (.int (vN p1 p2 p3)), .val (.ref b19), .val (.int (1 : Int32)), .unset, .unset] [(.int (F1_0 q0 (vO p1))), (.int (((bys q0).getD (vO p1).toNatClampNeg 0).toInt8.toInt32))])) _
  refine XS.icmpNo X22.here hx rfl (hb hby at_157) rfl (teq (own_cmp0 q0 p1 p2 p3 hc138)).2 ?_
  show Steps p.tables e below (T22.setTop (mkF m 160 #[.val (.long q0), .second, .val (.int p1), .val (.int p2), .val (.int p3), .val (.ref b1), .val (.int (vO p1)), .val (.int (vLen p1 p2)), .val (.int (vN p1 p2 p3)), .val (.ref b19), .val (.int (1 : Int32)), .unset, .unset] [])) _
  refine XS.iconst X22.here hx rfl (hb hby at_160) ?_
  show Steps p.tables e below (T22.setTop (mkF m 161 #[.val (.long q0), .second, .val (.int p1), .val (.int p2), .val (.int p3), .val (.ref b1), .val (.int (vO p1)), .val (.int (vLen p1 p2)), .val (.int (vN p1 p2 p3)), .val (.ref b19), .val (.int (1 : Int32)), .unset, .unset] [(.int (1 : Int32))])) _
  refine XS.goto X22.here hx rfl (pc0 := 161) (pc' := 165) rfl (hb hby at_161) (by decide) (by decide) ?_
  show Steps p.tables e below (T22.setTop (mkF m 165 #[.val (.long q0), .second, .val (.int p1), .val (.int p2), .val (.int p3), .val (.ref b1), .val (.int (vO p1)), .val (.int (vLen p1 p2)), .val (.int (vN p1 p2 p3)), .val (.ref b19), .val (.int (1 : Int32)), .unset, .unset] [(.int (1 : Int32))])) _
  refine XS.istore X22.here hx rfl (hb hby at_165) rfl (l' := #[.val (.long q0), .second, .val (.int p1), .val (.int p2), .val (.int p3), .val (.ref b1), .val (.int (vO p1)), .val (.int (vLen p1 p2)), .val (.int (vN p1 p2 p3)), .val (.ref b19), .val (.int (1 : Int32)), .unset, .unset]) rfl ?_
  show Steps p.tables e below (T22.setTop (mkF m 167 #[.val (.long q0), .second, .val (.int p1), .val (.int p2), .val (.int p3), .val (.ref b1), .val (.int (vO p1)), .val (.int (vLen p1 p2)), .val (.int (vN p1 p2 p3)), .val (.ref b19), .val (.int (1 : Int32)), .unset, .unset] [])) _
  refine XS.iload X22.here hx rfl (hb hby at_167) rfl ?_
  show Steps p.tables e below (T22.setTop (mkF m 169 #[.val (.long q0), .second, .val (.int p1), .val (.int p2), .val (.int p3), .val (.ref b1), .val (.int (vO p1)), .val (.int (vLen p1 p2)), .val (.int (vN p1 p2 p3)), .val (.ref b19), .val (.int (1 : Int32)), .unset, .unset] [(.int (vN p1 p2 p3))])) _
  refine XS.iconst X22.here hx rfl (hb hby at_169) ?_
  show Steps p.tables e below (T22.setTop (mkF m 170 #[.val (.long q0), .second, .val (.int p1), .val (.int p2), .val (.int p3), .val (.ref b1), .val (.int (vO p1)), .val (.int (vLen p1 p2)), .val (.int (vN p1 p2 p3)), .val (.ref b19), .val (.int (1 : Int32)), .unset, .unset] [(.int (2 : Int32)), (.int (vN p1 p2 p3))])) _
  refine XS.icmpNo X22.here hx rfl (hb hby at_170) rfl (flt hc170).1 ?_
  show Steps p.tables e below (T22.setTop (mkF m 173 #[.val (.long q0), .second, .val (.int p1), .val (.int p2), .val (.int p3), .val (.ref b1), .val (.int (vO p1)), .val (.int (vLen p1 p2)), .val (.int (vN p1 p2 p3)), .val (.ref b19), .val (.int (1 : Int32)), .unset, .unset] [])) _
  refine XS.iload X22.here hx rfl (hb hby at_173) rfl ?_
  show Steps p.tables e below (T22.setTop (mkF m 175 #[.val (.long q0), .second, .val (.int p1), .val (.int p2), .val (.int p3), .val (.ref b1), .val (.int (vO p1)), .val (.int (vLen p1 p2)), .val (.int (vN p1 p2 p3)), .val (.ref b19), .val (.int (1 : Int32)), .unset, .unset] [(.int (1 : Int32))])) _
  refine XS.ifNo X22.here hx rfl (hb hby at_175) rfl ((if0 _ _).trans (feq (by decide)).1) ?_
  show Steps p.tables e below (T22.setTop (mkF m 178 #[.val (.long q0), .second, .val (.int p1), .val (.int p2), .val (.int p3), .val (.ref b1), .val (.int (vO p1)), .val (.int (vLen p1 p2)), .val (.int (vN p1 p2 p3)), .val (.ref b19), .val (.int (1 : Int32)), .unset, .unset] [])) _
  refine XS.aload X22.here hx rfl (hb hby at_178) rfl rfl ?_
  show Steps p.tables e below (T22.setTop (mkF m 180 #[.val (.long q0), .second, .val (.int p1), .val (.int p2), .val (.int p3), .val (.ref b1), .val (.int (vO p1)), .val (.int (vLen p1 p2)), .val (.int (vN p1 p2 p3)), .val (.ref b19), .val (.int (1 : Int32)), .unset, .unset] [(.ref b19)])) _
  refine st23.trans ?_
  show Steps p.tables e below (T23.setTop (mkF m 183 #[.val (.long q0), .second, .val (.int p1), .val (.int p2), .val (.int p3), .val (.ref b1), .val (.int (vO p1)), .val (.int (vLen p1 p2)), .val (.int (vN p1 p2 p3)), .val (.ref b19), .val (.int (1 : Int32)), .unset, .unset] [(.int (((bys q0).getD ((vO p1) + (1 : Int32)).toNatClampNeg 0).toInt8.toInt32))])) _
  refine XS.lloadN X23.here hx rfl (hb hby at_183) rfl ?_
  show Steps p.tables e below (T23.setTop (mkF m 184 #[.val (.long q0), .second, .val (.int p1), .val (.int p2), .val (.int p3), .val (.ref b1), .val (.int (vO p1)), .val (.int (vLen p1 p2)), .val (.int (vN p1 p2 p3)), .val (.ref b19), .val (.int (1 : Int32)), .unset, .unset] [(.long q0), (.int (((bys q0).getD ((vO p1) + (1 : Int32)).toNatClampNeg 0).toInt8.toInt32))])) _
  refine XS.iload X23.here hx rfl (hb hby at_184) rfl ?_
  show Steps p.tables e below (T23.setTop (mkF m 186 #[.val (.long q0), .second, .val (.int p1), .val (.int p2), .val (.int p3), .val (.ref b1), .val (.int (vO p1)), .val (.int (vLen p1 p2)), .val (.int (vN p1 p2 p3)), .val (.ref b19), .val (.int (1 : Int32)), .unset, .unset] [(.int (vO p1)), (.long q0), (.int (((bys q0).getD ((vO p1) + (1 : Int32)).toNatClampNeg 0).toInt8.toInt32))])) _
  refine XS.iconst X23.here hx rfl (hb hby at_186) ?_
  show Steps p.tables e below (T23.setTop (mkF m 187 #[.val (.long q0), .second, .val (.int p1), .val (.int p2), .val (.int p3), .val (.ref b1), .val (.int (vO p1)), .val (.int (vLen p1 p2)), .val (.int (vN p1 p2 p3)), .val (.ref b19), .val (.int (1 : Int32)), .unset, .unset] [(.int (1 : Int32)), (.int (vO p1)), (.long q0), (.int (((bys q0).getD ((vO p1) + (1 : Int32)).toNatClampNeg 0).toInt8.toInt32))])) _
  refine XS.iadd X23.here hx rfl (hb hby at_187) rfl ?_
  show Steps p.tables e below (T23.setTop (mkF m 188 #[.val (.long q0), .second, .val (.int p1), .val (.int p2), .val (.int p3), .val (.ref b1), .val (.int (vO p1)), .val (.int (vLen p1 p2)), .val (.int (vN p1 p2 p3)), .val (.ref b19), .val (.int (1 : Int32)), .unset, .unset] [(.int ((vO p1) + (1 : Int32))), (.long q0), (.int (((bys q0).getD ((vO p1) + (1 : Int32)).toNatClampNeg 0).toInt8.toInt32))])) _
  refine st24 _ ?_
  show Steps p.tables e below (T24.setTop (mkF m 191 #[.val (.long q0), .second, .val (.int p1), .val (.int p2), .val (.int p3), .val (.ref b1), .val (.int (vO p1)), .val (.int (vLen p1 p2)), .val (.int (vN p1 p2 p3)), .val (.ref b19), .val (.int (1 : Int32)), .unset, .unset] [(.int (F1_0 q0 ((vO p1) + (1 : Int32)))), (.int (((bys q0).getD ((vO p1) + (1 : Int32)).toNatClampNeg 0).toInt8.toInt32))])) _
  refine XS.icmpNo X24.here hx rfl (hb hby at_191) rfl (teq (own_cmp1 q0 p1 p2 p3 hc170)).2 ?_
  show Steps p.tables e below (T24.setTop (mkF m 194 #[.val (.long q0), .second, .val (.int p1), .val (.int p2), .val (.int p3), .val (.ref b1), .val (.int (vO p1)), .val (.int (vLen p1 p2)), .val (.int (vN p1 p2 p3)), .val (.ref b19), .val (.int (1 : Int32)), .unset, .unset] [])) _
  refine XS.iconst X24.here hx rfl (hb hby at_194) ?_
  show Steps p.tables e below (T24.setTop (mkF m 195 #[.val (.long q0), .second, .val (.int p1), .val (.int p2), .val (.int p3), .val (.ref b1), .val (.int (vO p1)), .val (.int (vLen p1 p2)), .val (.int (vN p1 p2 p3)), .val (.ref b19), .val (.int (1 : Int32)), .unset, .unset] [(.int (1 : Int32))])) _
  refine XS.goto X24.here hx rfl (pc0 := 195) (pc' := 199) rfl (hb hby at_195) (by decide) (by decide) ?_
  show Steps p.tables e below (T24.setTop (mkF m 199 #[.val (.long q0), .second, .val (.int p1), .val (.int p2), .val (.int p3), .val (.ref b1), .val (.int (vO p1)), .val (.int (vLen p1 p2)), .val (.int (vN p1 p2 p3)), .val (.ref b19), .val (.int (1 : Int32)), .unset, .unset] [(.int (1 : Int32))])) _
  refine XS.istore X24.here hx rfl (hb hby at_199) rfl (l' := #[.val (.long q0), .second, .val (.int p1), .val (.int p2), .val (.int p3), .val (.ref b1), .val (.int (vO p1)), .val (.int (vLen p1 p2)), .val (.int (vN p1 p2 p3)), .val (.ref b19), .val (.int (1 : Int32)), .unset, .unset]) rfl ?_
  show Steps p.tables e below (T24.setTop (mkF m 201 #[.val (.long q0), .second, .val (.int p1), .val (.int p2), .val (.int p3), .val (.ref b1), .val (.int (vO p1)), .val (.int (vLen p1 p2)), .val (.int (vN p1 p2 p3)), .val (.ref b19), .val (.int (1 : Int32)), .unset, .unset] [])) _
  refine XS.iload X24.here hx rfl (hb hby at_201) rfl ?_
  show Steps p.tables e below (T24.setTop (mkF m 203 #[.val (.long q0), .second, .val (.int p1), .val (.int p2), .val (.int p3), .val (.ref b1), .val (.int (vO p1)), .val (.int (vLen p1 p2)), .val (.int (vN p1 p2 p3)), .val (.ref b19), .val (.int (1 : Int32)), .unset, .unset] [(.int (vN p1 p2 p3))])) _
  refine XS.iconst X24.here hx rfl (hb hby at_203) ?_
  show Steps p.tables e below (T24.setTop (mkF m 204 #[.val (.long q0), .second, .val (.int p1), .val (.int p2), .val (.int p3), .val (.ref b1), .val (.int (vO p1)), .val (.int (vLen p1 p2)), .val (.int (vN p1 p2 p3)), .val (.ref b19), .val (.int (1 : Int32)), .unset, .unset] [(.int (3 : Int32)), (.int (vN p1 p2 p3))])) _
  refine XS.icmpNo X24.here hx rfl (hb hby at_204) rfl (flt hc204).1 ?_
  show Steps p.tables e below (T24.setTop (mkF m 207 #[.val (.long q0), .second, .val (.int p1), .val (.int p2), .val (.int p3), .val (.ref b1), .val (.int (vO p1)), .val (.int (vLen p1 p2)), .val (.int (vN p1 p2 p3)), .val (.ref b19), .val (.int (1 : Int32)), .unset, .unset] [])) _
  refine XS.iload X24.here hx rfl (hb hby at_207) rfl ?_
  show Steps p.tables e below (T24.setTop (mkF m 209 #[.val (.long q0), .second, .val (.int p1), .val (.int p2), .val (.int p3), .val (.ref b1), .val (.int (vO p1)), .val (.int (vLen p1 p2)), .val (.int (vN p1 p2 p3)), .val (.ref b19), .val (.int (1 : Int32)), .unset, .unset] [(.int (1 : Int32))])) _
  refine XS.ifNo X24.here hx rfl (hb hby at_209) rfl ((if0 _ _).trans (feq (by decide)).1) ?_
  show Steps p.tables e below (T24.setTop (mkF m 212 #[.val (.long q0), .second, .val (.int p1), .val (.int p2), .val (.int p3), .val (.ref b1), .val (.int (vO p1)), .val (.int (vLen p1 p2)), .val (.int (vN p1 p2 p3)), .val (.ref b19), .val (.int (1 : Int32)), .unset, .unset] [])) _
  refine XS.aload X24.here hx rfl (hb hby at_212) rfl rfl ?_
  show Steps p.tables e below (T24.setTop (mkF m 214 #[.val (.long q0), .second, .val (.int p1), .val (.int p2), .val (.int p3), .val (.ref b1), .val (.int (vO p1)), .val (.int (vLen p1 p2)), .val (.int (vN p1 p2 p3)), .val (.ref b19), .val (.int (1 : Int32)), .unset, .unset] [(.ref b19)])) _
  refine st25.trans ?_
  show Steps p.tables e below (T25.setTop (mkF m 217 #[.val (.long q0), .second, .val (.int p1), .val (.int p2), .val (.int p3), .val (.ref b1), .val (.int (vO p1)), .val (.int (vLen p1 p2)), .val (.int (vN p1 p2 p3)), .val (.ref b19), .val (.int (1 : Int32)), .unset, .unset] [(.int (((bys q0).getD (((vO p1) + (1 : Int32)) + (1 : Int32)).toNatClampNeg 0).toInt8.toInt32))])) _
  refine XS.lloadN X25.here hx rfl (hb hby at_217) rfl ?_
  show Steps p.tables e below (T25.setTop (mkF m 218 #[.val (.long q0), .second, .val (.int p1), .val (.int p2), .val (.int p3), .val (.ref b1), .val (.int (vO p1)), .val (.int (vLen p1 p2)), .val (.int (vN p1 p2 p3)), .val (.ref b19), .val (.int (1 : Int32)), .unset, .unset] [(.long q0), (.int (((bys q0).getD (((vO p1) + (1 : Int32)) + (1 : Int32)).toNatClampNeg 0).toInt8.toInt32))])) _
  refine XS.iload X25.here hx rfl (hb hby at_218) rfl ?_
  show Steps p.tables e below (T25.setTop (mkF m 220 #[.val (.long q0), .second, .val (.int p1), .val (.int p2), .val (.int p3), .val (.ref b1), .val (.int (vO p1)), .val (.int (vLen p1 p2)), .val (.int (vN p1 p2 p3)), .val (.ref b19), .val (.int (1 : Int32)), .unset, .unset] [(.int (vO p1)), (.long q0), (.int (((bys q0).getD (((vO p1) + (1 : Int32)) + (1 : Int32)).toNatClampNeg 0).toInt8.toInt32))])) _
  refine XS.iconst X25.here hx rfl (hb hby at_220) ?_
  show Steps p.tables e below (T25.setTop (mkF m 221 #[.val (.long q0), .second, .val (.int p1), .val (.int p2), .val (.int p3), .val (.ref b1), .val (.int (vO p1)), .val (.int (vLen p1 p2)), .val (.int (vN p1 p2 p3)), .val (.ref b19), .val (.int (1 : Int32)), .unset, .unset] [(.int (2 : Int32)), (.int (vO p1)), (.long q0), (.int (((bys q0).getD (((vO p1) + (1 : Int32)) + (1 : Int32)).toNatClampNeg 0).toInt8.toInt32))])) _
  refine XS.iadd X25.here hx rfl (hb hby at_221) rfl ?_
  show Steps p.tables e below (T25.setTop (mkF m 222 #[.val (.long q0), .second, .val (.int p1), .val (.int p2), .val (.int p3), .val (.ref b1), .val (.int (vO p1)), .val (.int (vLen p1 p2)), .val (.int (vN p1 p2 p3)), .val (.ref b19), .val (.int (1 : Int32)), .unset, .unset] [(.int ((vO p1) + (2 : Int32))), (.long q0), (.int (((bys q0).getD (((vO p1) + (1 : Int32)) + (1 : Int32)).toNatClampNeg 0).toInt8.toInt32))])) _
  refine st26 _ ?_
  show Steps p.tables e below (T26.setTop (mkF m 225 #[.val (.long q0), .second, .val (.int p1), .val (.int p2), .val (.int p3), .val (.ref b1), .val (.int (vO p1)), .val (.int (vLen p1 p2)), .val (.int (vN p1 p2 p3)), .val (.ref b19), .val (.int (1 : Int32)), .unset, .unset] [(.int (F1_0 q0 ((vO p1) + (2 : Int32)))), (.int (((bys q0).getD (((vO p1) + (1 : Int32)) + (1 : Int32)).toNatClampNeg 0).toInt8.toInt32))])) _
  refine XS.icmpNo X26.here hx rfl (hb hby at_225) rfl (teq (own_cmp2 q0 p1 p2 p3 hc204)).2 ?_
  show Steps p.tables e below (T26.setTop (mkF m 228 #[.val (.long q0), .second, .val (.int p1), .val (.int p2), .val (.int p3), .val (.ref b1), .val (.int (vO p1)), .val (.int (vLen p1 p2)), .val (.int (vN p1 p2 p3)), .val (.ref b19), .val (.int (1 : Int32)), .unset, .unset] [])) _
  refine XS.iconst X26.here hx rfl (hb hby at_228) ?_
  show Steps p.tables e below (T26.setTop (mkF m 229 #[.val (.long q0), .second, .val (.int p1), .val (.int p2), .val (.int p3), .val (.ref b1), .val (.int (vO p1)), .val (.int (vLen p1 p2)), .val (.int (vN p1 p2 p3)), .val (.ref b19), .val (.int (1 : Int32)), .unset, .unset] [(.int (1 : Int32))])) _
  refine XS.goto X26.here hx rfl (pc0 := 229) (pc' := 233) rfl (hb hby at_229) (by decide) (by decide) ?_
  show Steps p.tables e below (T26.setTop (mkF m 233 #[.val (.long q0), .second, .val (.int p1), .val (.int p2), .val (.int p3), .val (.ref b1), .val (.int (vO p1)), .val (.int (vLen p1 p2)), .val (.int (vN p1 p2 p3)), .val (.ref b19), .val (.int (1 : Int32)), .unset, .unset] [(.int (1 : Int32))])) _
  refine XS.istore X26.here hx rfl (hb hby at_233) rfl (l' := #[.val (.long q0), .second, .val (.int p1), .val (.int p2), .val (.int p3), .val (.ref b1), .val (.int (vO p1)), .val (.int (vLen p1 p2)), .val (.int (vN p1 p2 p3)), .val (.ref b19), .val (.int (1 : Int32)), .unset, .unset]) rfl ?_
  show Steps p.tables e below (T26.setTop (mkF m 235 #[.val (.long q0), .second, .val (.int p1), .val (.int p2), .val (.int p3), .val (.ref b1), .val (.int (vO p1)), .val (.int (vLen p1 p2)), .val (.int (vN p1 p2 p3)), .val (.ref b19), .val (.int (1 : Int32)), .unset, .unset] [])) _
  refine XS.iload X26.here hx rfl (hb hby at_235) rfl ?_
  show Steps p.tables e below (T26.setTop (mkF m 237 #[.val (.long q0), .second, .val (.int p1), .val (.int p2), .val (.int p3), .val (.ref b1), .val (.int (vO p1)), .val (.int (vLen p1 p2)), .val (.int (vN p1 p2 p3)), .val (.ref b19), .val (.int (1 : Int32)), .unset, .unset] [(.int (vN p1 p2 p3))])) _
  refine XS.iconst X26.here hx rfl (hb hby at_237) ?_
  show Steps p.tables e below (T26.setTop (mkF m 238 #[.val (.long q0), .second, .val (.int p1), .val (.int p2), .val (.int p3), .val (.ref b1), .val (.int (vO p1)), .val (.int (vLen p1 p2)), .val (.int (vN p1 p2 p3)), .val (.ref b19), .val (.int (1 : Int32)), .unset, .unset] [(.int (4 : Int32)), (.int (vN p1 p2 p3))])) _
  refine XS.icmpYes X26.here hx rfl (pc0 := 238) (pc' := 269) rfl (hb hby at_238) rfl (tlt hc238).1 (by decide) (by decide) ?_
  show Steps p.tables e below (T26.setTop (mkF m 269 #[.val (.long q0), .second, .val (.int p1), .val (.int p2), .val (.int p3), .val (.ref b1), .val (.int (vO p1)), .val (.int (vLen p1 p2)), .val (.int (vN p1 p2 p3)), .val (.ref b19), .val (.int (1 : Int32)), .unset, .unset] [])) _
  refine XS.aload X26.here hx rfl (hb hby at_269) rfl rfl ?_
  show Steps p.tables e below (T26.setTop (mkF m 271 #[.val (.long q0), .second, .val (.int p1), .val (.int p2), .val (.int p3), .val (.ref b1), .val (.int (vO p1)), .val (.int (vLen p1 p2)), .val (.int (vN p1 p2 p3)), .val (.ref b19), .val (.int (1 : Int32)), .unset, .unset] [(.ref b19)])) _
  refine X26.ldc2Long hx hown20 (mvT hZ20 (hw _ (List.mem_of_getElem? (i := 52) rfl))) (g := (mkF m 271 #[.val (.long q0), .second, .val (.int p1), .val (.int p2), .val (.int p3), .val (.ref b1), .val (.int (vO p1)), .val (.int (vLen p1 p2)), .val (.int (vN p1 p2 p3)), .val (.ref b19), .val (.int (1 : Int32)), .unset, .unset] [(.ref b19)])) rfl (hb hby at_271) _ ?_
  show Steps p.tables e below (T26.setTop (mkF m 274 #[.val (.long q0), .second, .val (.int p1), .val (.int p2), .val (.int p3), .val (.ref b1), .val (.int (vO p1)), .val (.int (vLen p1 p2)), .val (.int (vN p1 p2 p3)), .val (.ref b19), .val (.int (1 : Int32)), .unset, .unset] [(.long (8 : Int64)), (.ref b19)])) _
  refine st27.trans ?_
  show Steps p.tables e below (T27.setTop (mkF m 277 #[.val (.long q0), .second, .val (.int p1), .val (.int p2), .val (.int p3), .val (.ref b1), .val (.int (vO p1)), .val (.int (vLen p1 p2)), .val (.int (vN p1 p2 p3)), .val (.ref b19), .val (.int (1 : Int32)), .unset, .unset] [(.long (((F11_0 (8 : Int64) ((((vO p1) + (vLen p1 p2)) - ((((vO p1) + (1 : Int32)) + (1 : Int32)) + (1 : Int32))).toInt64)).toInt32).toInt64))])) _
  refine XS.lstore X27.here hx rfl (hb hby at_277) rfl (l' := #[.val (.long q0), .second, .val (.int p1), .val (.int p2), .val (.int p3), .val (.ref b1), .val (.int (vO p1)), .val (.int (vLen p1 p2)), .val (.int (vN p1 p2 p3)), .val (.ref b19), .val (.int (1 : Int32)), .val (.long (((F11_0 (8 : Int64) ((((vO p1) + (vLen p1 p2)) - ((((vO p1) + (1 : Int32)) + (1 : Int32)) + (1 : Int32))).toInt64)).toInt32).toInt64)), .second]) rfl ?_
  show Steps p.tables e below (T27.setTop (mkF m 279 #[.val (.long q0), .second, .val (.int p1), .val (.int p2), .val (.int p3), .val (.ref b1), .val (.int (vO p1)), .val (.int (vLen p1 p2)), .val (.int (vN p1 p2 p3)), .val (.ref b19), .val (.int (1 : Int32)), .val (.long (((F11_0 (8 : Int64) ((((vO p1) + (vLen p1 p2)) - ((((vO p1) + (1 : Int32)) + (1 : Int32)) + (1 : Int32))).toInt64)).toInt32).toInt64)), .second] [])) _
  refine XS.iload X27.here hx rfl (hb hby at_279) rfl ?_
  show Steps p.tables e below (T27.setTop (mkF m 281 #[.val (.long q0), .second, .val (.int p1), .val (.int p2), .val (.int p3), .val (.ref b1), .val (.int (vO p1)), .val (.int (vLen p1 p2)), .val (.int (vN p1 p2 p3)), .val (.ref b19), .val (.int (1 : Int32)), .val (.long (((F11_0 (8 : Int64) ((((vO p1) + (vLen p1 p2)) - ((((vO p1) + (1 : Int32)) + (1 : Int32)) + (1 : Int32))).toInt64)).toInt32).toInt64)), .second] [(.int (1 : Int32))])) _
  refine XS.ifNo X27.here hx rfl (hb hby at_281) rfl ((if0 _ _).trans (feq (by decide)).1) ?_
  show Steps p.tables e below (T27.setTop (mkF m 284 #[.val (.long q0), .second, .val (.int p1), .val (.int p2), .val (.int p3), .val (.ref b1), .val (.int (vO p1)), .val (.int (vLen p1 p2)), .val (.int (vN p1 p2 p3)), .val (.ref b19), .val (.int (1 : Int32)), .val (.long (((F11_0 (8 : Int64) ((((vO p1) + (vLen p1 p2)) - ((((vO p1) + (1 : Int32)) + (1 : Int32)) + (1 : Int32))).toInt64)).toInt32).toInt64)), .second] [])) _
  refine XS.lload X27.here hx rfl (hb hby at_284) rfl ?_
  show Steps p.tables e below (T27.setTop (mkF m 286 #[.val (.long q0), .second, .val (.int p1), .val (.int p2), .val (.int p3), .val (.ref b1), .val (.int (vO p1)), .val (.int (vLen p1 p2)), .val (.int (vN p1 p2 p3)), .val (.ref b19), .val (.int (1 : Int32)), .val (.long (((F11_0 (8 : Int64) ((((vO p1) + (vLen p1 p2)) - ((((vO p1) + (1 : Int32)) + (1 : Int32)) + (1 : Int32))).toInt64)).toInt32).toInt64)), .second] [(.long (((F11_0 (8 : Int64) ((((vO p1) + (vLen p1 p2)) - ((((vO p1) + (1 : Int32)) + (1 : Int32)) + (1 : Int32))).toInt64)).toInt32).toInt64))])) _
  refine XS.iload X27.here hx rfl (hb hby at_286) rfl ?_
  show Steps p.tables e below (T27.setTop (mkF m 288 #[.val (.long q0), .second, .val (.int p1), .val (.int p2), .val (.int p3), .val (.ref b1), .val (.int (vO p1)), .val (.int (vLen p1 p2)), .val (.int (vN p1 p2 p3)), .val (.ref b19), .val (.int (1 : Int32)), .val (.long (((F11_0 (8 : Int64) ((((vO p1) + (vLen p1 p2)) - ((((vO p1) + (1 : Int32)) + (1 : Int32)) + (1 : Int32))).toInt64)).toInt32).toInt64)), .second] [(.int (vLen p1 p2)), (.long (((F11_0 (8 : Int64) ((((vO p1) + (vLen p1 p2)) - ((((vO p1) + (1 : Int32)) + (1 : Int32)) + (1 : Int32))).toInt64)).toInt32).toInt64))])) _
  refine XS.iload X27.here hx rfl (hb hby at_288) rfl ?_
  show Steps p.tables e below (T27.setTop (mkF m 290 #[.val (.long q0), .second, .val (.int p1), .val (.int p2), .val (.int p3), .val (.ref b1), .val (.int (vO p1)), .val (.int (vLen p1 p2)), .val (.int (vN p1 p2 p3)), .val (.ref b19), .val (.int (1 : Int32)), .val (.long (((F11_0 (8 : Int64) ((((vO p1) + (vLen p1 p2)) - ((((vO p1) + (1 : Int32)) + (1 : Int32)) + (1 : Int32))).toInt64)).toInt32).toInt64)), .second] [(.int (vN p1 p2 p3)), (.int (vLen p1 p2)), (.long (((F11_0 (8 : Int64) ((((vO p1) + (vLen p1 p2)) - ((((vO p1) + (1 : Int32)) + (1 : Int32)) + (1 : Int32))).toInt64)).toInt32).toInt64))])) _
  refine XS.isub X27.here hx rfl (hb hby at_290) rfl ?_
  show Steps p.tables e below (T27.setTop (mkF m 291 #[.val (.long q0), .second, .val (.int p1), .val (.int p2), .val (.int p3), .val (.ref b1), .val (.int (vO p1)), .val (.int (vLen p1 p2)), .val (.int (vN p1 p2 p3)), .val (.ref b19), .val (.int (1 : Int32)), .val (.long (((F11_0 (8 : Int64) ((((vO p1) + (vLen p1 p2)) - ((((vO p1) + (1 : Int32)) + (1 : Int32)) + (1 : Int32))).toInt64)).toInt32).toInt64)), .second] [(.int ((vLen p1 p2) - (vN p1 p2 p3))), (.long (((F11_0 (8 : Int64) ((((vO p1) + (vLen p1 p2)) - ((((vO p1) + (1 : Int32)) + (1 : Int32)) + (1 : Int32))).toInt64)).toInt32).toInt64))])) _
  refine XS.i2l X27.here hx rfl (hb hby at_291) rfl ?_
  show Steps p.tables e below (T27.setTop (mkF m 292 #[.val (.long q0), .second, .val (.int p1), .val (.int p2), .val (.int p3), .val (.ref b1), .val (.int (vO p1)), .val (.int (vLen p1 p2)), .val (.int (vN p1 p2 p3)), .val (.ref b19), .val (.int (1 : Int32)), .val (.long (((F11_0 (8 : Int64) ((((vO p1) + (vLen p1 p2)) - ((((vO p1) + (1 : Int32)) + (1 : Int32)) + (1 : Int32))).toInt64)).toInt32).toInt64)), .second] [(.long (((vLen p1 p2) - (vN p1 p2 p3)).toInt64)), (.long (((F11_0 (8 : Int64) ((((vO p1) + (vLen p1 p2)) - ((((vO p1) + (1 : Int32)) + (1 : Int32)) + (1 : Int32))).toInt64)).toInt32).toInt64))])) _
  refine XS.lcmp X27.here hx rfl (hb hby at_292) rfl ?_
  show Steps p.tables e below (T27.setTop (mkF m 293 #[.val (.long q0), .second, .val (.int p1), .val (.int p2), .val (.int p3), .val (.ref b1), .val (.int (vO p1)), .val (.int (vLen p1 p2)), .val (.int (vN p1 p2 p3)), .val (.ref b19), .val (.int (1 : Int32)), .val (.long (((F11_0 (8 : Int64) ((((vO p1) + (vLen p1 p2)) - ((((vO p1) + (1 : Int32)) + (1 : Int32)) + (1 : Int32))).toInt64)).toInt32).toInt64)), .second] [(.int (lcmpW (((F11_0 (8 : Int64) ((((vO p1) + (vLen p1 p2)) - ((((vO p1) + (1 : Int32)) + (1 : Int32)) + (1 : Int32))).toInt64)).toInt32).toInt64) (((vLen p1 p2) - (vN p1 p2 p3)).toInt64)))])) _
  refine XS.ifNo X27.here hx rfl (hb hby at_293) rfl ((if0 _ _).trans (teq ((lw_eq _ _).mpr (own_rest3 p1 p2 p3 hc204 hc238))).2) ?_
  show Steps p.tables e below (T27.setTop (mkF m 296 #[.val (.long q0), .second, .val (.int p1), .val (.int p2), .val (.int p3), .val (.ref b1), .val (.int (vO p1)), .val (.int (vLen p1 p2)), .val (.int (vN p1 p2 p3)), .val (.ref b19), .val (.int (1 : Int32)), .val (.long (((F11_0 (8 : Int64) ((((vO p1) + (vLen p1 p2)) - ((((vO p1) + (1 : Int32)) + (1 : Int32)) + (1 : Int32))).toInt64)).toInt32).toInt64)), .second] [])) _
  refine XS.iconst X27.here hx rfl (hb hby at_296) ?_
  show Steps p.tables e below (T27.setTop (mkF m 297 #[.val (.long q0), .second, .val (.int p1), .val (.int p2), .val (.int p3), .val (.ref b1), .val (.int (vO p1)), .val (.int (vLen p1 p2)), .val (.int (vN p1 p2 p3)), .val (.ref b19), .val (.int (1 : Int32)), .val (.long (((F11_0 (8 : Int64) ((((vO p1) + (vLen p1 p2)) - ((((vO p1) + (1 : Int32)) + (1 : Int32)) + (1 : Int32))).toInt64)).toInt32).toInt64)), .second] [(.int (1 : Int32))])) _
  refine XS.goto X27.here hx rfl (pc0 := 297) (pc' := 301) rfl (hb hby at_297) (by decide) (by decide) ?_
  show Steps p.tables e below (T27.setTop (mkF m 301 #[.val (.long q0), .second, .val (.int p1), .val (.int p2), .val (.int p3), .val (.ref b1), .val (.int (vO p1)), .val (.int (vLen p1 p2)), .val (.int (vN p1 p2 p3)), .val (.ref b19), .val (.int (1 : Int32)), .val (.long (((F11_0 (8 : Int64) ((((vO p1) + (vLen p1 p2)) - ((((vO p1) + (1 : Int32)) + (1 : Int32)) + (1 : Int32))).toInt64)).toInt32).toInt64)), .second] [(.int (1 : Int32))])) _
  exact retN X27 hx (t := .boolean) Bd.returns (by simp) (hb hby at_301) hr
def Q_rm0_4 (Z : State) (q0 : Int64) (p1 : Int32) (p2 : Int32) (p3 : Int32) (h0 : Heap) (n0 : Nat) (v : Option Value) (h : Heap) (L : List Loc) : Prop := (v = some (.int (1 : Int32)) ∧ Fr n0 L)
set_option maxRecDepth 65536 in
set_option maxHeartbeats 40000000 in
theorem rm0_4 (l : Launch) (Z : State) (a0 : Array Value) (hw : ∀ d ∈ tables_1, d.before a0 Z = true) (ws : List Jvm.Cond) (q0 : Int64) (p1 : Int32) (p2 : Int32) (p3 : Int32) (h0 : Heap) (n0 : Nat) (Z0 : n0 ≤ h0.size) (hc138 : ¬ ((vN p1 p2 p3) < (1 : Int32))) (hc170 : ¬ ((vN p1 p2 p3) < (2 : Int32))) (hc204 : ¬ ((vN p1 p2 p3) < (3 : Int32))) (hc238 : ¬ ((vN p1 p2 p3) < (4 : Int32))) :
    MetFree l x (head1 (Jvm.Cond.code x code maxLocals ret :: ws) room_1) (fun a U => a = #[(.long q0), (.int p1), (.int p2), (.int p3)] ∧ Z.Warmed39 U.vm ∧ U.heap = h0) (fun _ _ _ _ _ => True) (fun _ U o U' => ∃ v L, o = .returned v ∧ Q_rm0_4 Z q0 p1 p2 p3 h0 n0 v U'.heap L ∧ ReturnedEndW U o U' L room_1.cells room_1.slots) := by
  refine MetFree.of_bodySF (plainFor_of_name pn_0) hisR ?_
  intro p e s m args below meth c s₁ Bd hml0 hP hK
  obtain ⟨rfl, hZ, hh⟩ := hP
  have hx := Bd.exec
  have hby := Bd.bytes
  have hml : c.maxLocals = 13 := hml0
  have hown : s.vm.findClass "com/example/packwise/packwise/ByteArraySourceReadBytePinLaw" = some m.cls := findClass_of_methodNamed Bd.named
  have hnm := (name_of_methodNamed Bd.named Bd.method).1
  have X0 : Stand p l e room_1 s m #[(.long q0), (.int p1), (.int p2), (.int p3)] below meth c s₁ [] 0 0 := Stand.of_body Bd
  have e0 : s₁.heap = h0 := by rw [← hh, Bd.state]; rfl
  have N0 := Fr.nil n0
  have pre0 : ∀ t, Steps p.tables e below (s₁.setTop (mkF m 0 #[.val (.long q0), .second, .val (.int p1), .val (.int p2), .val (.int p3), .unset, .unset, .unset, .unset, .unset, .unset, .unset, .unset] [])) t → Steps p.tables e below (s₁.setTop (entryFrame m #[(.long q0), (.int p1), (.int p2), (.int p3)] maxLocals)) t := fun t k => castTop (ef_0 m q0 p1 p2 p3) k
  obtain ⟨T1, h1, k1, X1, e1, E1, A1, Ex1, st1⟩ := newPE X0 hx hZ (hw _ (List.mem_of_getElem? (i := 0) rfl)) e0 (g := (mkF m 2 #[.val (.long q0), .second, .val (.int p1), .val (.int p2), .val (.int p3), .unset, .unset, .unset, .unset, .unset, .unset, .unset, .unset] [(.int (8 : Int32))])) rfl (hb hby at_2) rfl (by decide) (cap := 8) (by decide) (by decide) (by decide) (by decide) (ad := "[B") (by decide)
  obtain ⟨b1, g1⟩ : ∃ z, z = Array.size h0 := ⟨_, rfl⟩
  rw [← g1] at A1 st1 Ex1
  have G1 : n0 ≤ b1 := Nat.le_trans Z0 (Nat.le_of_eq g1.symm)
  have Z1 : n0 ≤ Array.size h1 := Nat.le_trans Z0 E1.1
  have V1_b1 : ArrL .byte Z h1 b1 [(0 : Int32), (0 : Int32), (0 : Int32), (0 : Int32), (0 : Int32), (0 : Int32), (0 : Int32), (0 : Int32)] := ArrL.new (n := 8) (Arv.new A1 (by decide)) (by decide)
  obtain ⟨_, _, ⟨T2, L2, k2, n2⟩, -, X2, ⟨Lc2, hQ2, l2, y2, z2⟩, st2⟩ := Jvm.LawKit.callS X1 hx (y := (⟨"com/example/packwise/packwise/ByteArraySourceReadBytePinLaw", "at", "(JI)B"⟩ : MethodName)) hown (mvT hZ (hw _ (List.mem_of_getElem? (i := 1) rfl))) (mvT hZ (hw _ (List.mem_of_getElem? (i := 2) rfl))) (mvT hZ (hw _ (List.mem_of_getElem? (i := 3) rfl))) (mvT hZ (hw _ (List.mem_of_getElem? (i := 4) rfl))) (by decide) (backOf (W := 2) (rm1 l Z a0 hw [] q0 (0 : Int32) h1 n0 Z1) hZ (hw _ (List.mem_of_getElem? (i := 4) rfl)) (hw _ (List.mem_of_getElem? (i := 3) rfl)) (by decide) (by decide)) (g := (mkF m 11 #[.val (.long q0), .second, .val (.int p1), .val (.int p2), .val (.int p3), .val (.ref b1), .unset, .unset, .unset, .unset, .unset, .unset, .unset] [(.int (0 : Int32)), (.long q0), (.int (0 : Int32)), (.ref b1)])) rfl (by rw [hml]; rfl) (argsL := [(.long q0), (.int (0 : Int32))]) (rest := [(.int (0 : Int32)), (.ref b1)]) (lenOf pd6 rfl) rfl (by show 2 * 0 + _ ≤ _; exact Nat.le_of_eq rfl) (hb hby at_11) (fun _ _ => ⟨rfl, e1, (by decide : 1 + 0 ≤ _), (by decide : 8 + 0 ≤ _)⟩)
  dsimp only [Pt.U, Pt.locs, Pt.cells, Pt.slots] at X2 l2 y2 z2 st2 hQ2
  subst y2 z2
  obtain ⟨rfl, N2q, e2⟩ := hQ2
  have N2 : Fr n0 L2 := by rw [l2]; exact Fr.app N0 N2q
  obtain ⟨T3, h3, X3, e3, W3, U3, st3⟩ := own_al_stB X2 hx hZ e2 V1_b1 (g := (mkF m 14 #[.val (.long q0), .second, .val (.int p1), .val (.int p2), .val (.int p3), .val (.ref b1), .unset, .unset, .unset, .unset, .unset, .unset, .unset] [(.int (F1_0 q0 (0 : Int32))), (.int (0 : Int32)), (.ref b1)])) (by decide) (Nat.le_of_ble_eq_true rfl) rfl rfl (hb hby at_14)
  have N3 := Fr.snoc X3 N2 G1
  have f3_E_b1 : Exa Z h3 b1 "[B" := Ex1.wr W3
  have Z3 : n0 ≤ Array.size h3 := Nat.le_trans Z1 (Keep.of_wr W3).1
  have V3_b1 : ArrL .byte Z h3 b1 [(nar .byte (F1_0 q0 (0 : Int32))), (0 : Int32), (0 : Int32), (0 : Int32), (0 : Int32), (0 : Int32), (0 : Int32), (0 : Int32)] := U3
  obtain ⟨_, _, ⟨T4, L4, k4, n4⟩, -, X4, ⟨Lc4, hQ4, l4, y4, z4⟩, st4⟩ := Jvm.LawKit.callS X3 hx (y := (⟨"com/example/packwise/packwise/ByteArraySourceReadBytePinLaw", "at", "(JI)B"⟩ : MethodName)) hown (mvT hZ (hw _ (List.mem_of_getElem? (i := 1) rfl))) (mvT hZ (hw _ (List.mem_of_getElem? (i := 2) rfl))) (mvT hZ (hw _ (List.mem_of_getElem? (i := 3) rfl))) (mvT hZ (hw _ (List.mem_of_getElem? (i := 4) rfl))) (by decide) (backOf (W := 2) (rm1 l Z a0 hw [] q0 (1 : Int32) h3 n0 Z3) hZ (hw _ (List.mem_of_getElem? (i := 4) rfl)) (hw _ (List.mem_of_getElem? (i := 3) rfl)) (by decide) (by decide)) (g := (mkF m 20 #[.val (.long q0), .second, .val (.int p1), .val (.int p2), .val (.int p3), .val (.ref b1), .unset, .unset, .unset, .unset, .unset, .unset, .unset] [(.int (1 : Int32)), (.long q0), (.int (1 : Int32)), (.ref b1)])) rfl (by rw [hml]; rfl) (argsL := [(.long q0), (.int (1 : Int32))]) (rest := [(.int (1 : Int32)), (.ref b1)]) (lenOf pd6 rfl) rfl (by show 2 * 0 + _ ≤ _; exact Nat.le_of_eq rfl) (hb hby at_20) (fun _ _ => ⟨rfl, e3, (by decide : 1 + 0 ≤ _), (by decide : 8 + 0 ≤ _)⟩)
  dsimp only [Pt.U, Pt.locs, Pt.cells, Pt.slots] at X4 l4 y4 z4 st4 hQ4
  subst y4 z4
  obtain ⟨rfl, N4q, e4⟩ := hQ4
  have N4 : Fr n0 L4 := by rw [l4]; exact Fr.app N3 N4q
  obtain ⟨T5, h5, X5, e5, W5, U5, st5⟩ := own_al_stB X4 hx hZ e4 V3_b1 (g := (mkF m 23 #[.val (.long q0), .second, .val (.int p1), .val (.int p2), .val (.int p3), .val (.ref b1), .unset, .unset, .unset, .unset, .unset, .unset, .unset] [(.int (F1_0 q0 (1 : Int32))), (.int (1 : Int32)), (.ref b1)])) (by decide) (Nat.le_of_ble_eq_true rfl) rfl rfl (hb hby at_23)
  have N5 := Fr.snoc X5 N4 G1
  have f5_E_b1 : Exa Z h5 b1 "[B" := f3_E_b1.wr W5
  have Z5 : n0 ≤ Array.size h5 := Nat.le_trans Z3 (Keep.of_wr W5).1
  have V5_b1 : ArrL .byte Z h5 b1 [(nar .byte (F1_0 q0 (0 : Int32))), (nar .byte (F1_0 q0 (1 : Int32))), (0 : Int32), (0 : Int32), (0 : Int32), (0 : Int32), (0 : Int32), (0 : Int32)] := U5
  obtain ⟨_, _, ⟨T6, L6, k6, n6⟩, -, X6, ⟨Lc6, hQ6, l6, y6, z6⟩, st6⟩ := Jvm.LawKit.callS X5 hx (y := (⟨"com/example/packwise/packwise/ByteArraySourceReadBytePinLaw", "at", "(JI)B"⟩ : MethodName)) hown (mvT hZ (hw _ (List.mem_of_getElem? (i := 1) rfl))) (mvT hZ (hw _ (List.mem_of_getElem? (i := 2) rfl))) (mvT hZ (hw _ (List.mem_of_getElem? (i := 3) rfl))) (mvT hZ (hw _ (List.mem_of_getElem? (i := 4) rfl))) (by decide) (backOf (W := 2) (rm1 l Z a0 hw [] q0 (2 : Int32) h5 n0 Z5) hZ (hw _ (List.mem_of_getElem? (i := 4) rfl)) (hw _ (List.mem_of_getElem? (i := 3) rfl)) (by decide) (by decide)) (g := (mkF m 29 #[.val (.long q0), .second, .val (.int p1), .val (.int p2), .val (.int p3), .val (.ref b1), .unset, .unset, .unset, .unset, .unset, .unset, .unset] [(.int (2 : Int32)), (.long q0), (.int (2 : Int32)), (.ref b1)])) rfl (by rw [hml]; rfl) (argsL := [(.long q0), (.int (2 : Int32))]) (rest := [(.int (2 : Int32)), (.ref b1)]) (lenOf pd6 rfl) rfl (by show 2 * 0 + _ ≤ _; exact Nat.le_of_eq rfl) (hb hby at_29) (fun _ _ => ⟨rfl, e5, (by decide : 1 + 0 ≤ _), (by decide : 8 + 0 ≤ _)⟩)
  dsimp only [Pt.U, Pt.locs, Pt.cells, Pt.slots] at X6 l6 y6 z6 st6 hQ6
  subst y6 z6
  obtain ⟨rfl, N6q, e6⟩ := hQ6
  have N6 : Fr n0 L6 := by rw [l6]; exact Fr.app N5 N6q
  obtain ⟨T7, h7, X7, e7, W7, U7, st7⟩ := own_al_stB X6 hx hZ e6 V5_b1 (g := (mkF m 32 #[.val (.long q0), .second, .val (.int p1), .val (.int p2), .val (.int p3), .val (.ref b1), .unset, .unset, .unset, .unset, .unset, .unset, .unset] [(.int (F1_0 q0 (2 : Int32))), (.int (2 : Int32)), (.ref b1)])) (by decide) (Nat.le_of_ble_eq_true rfl) rfl rfl (hb hby at_32)
  have N7 := Fr.snoc X7 N6 G1
  have f7_E_b1 : Exa Z h7 b1 "[B" := f5_E_b1.wr W7
  have Z7 : n0 ≤ Array.size h7 := Nat.le_trans Z5 (Keep.of_wr W7).1
  have V7_b1 : ArrL .byte Z h7 b1 [(nar .byte (F1_0 q0 (0 : Int32))), (nar .byte (F1_0 q0 (1 : Int32))), (nar .byte (F1_0 q0 (2 : Int32))), (0 : Int32), (0 : Int32), (0 : Int32), (0 : Int32), (0 : Int32)] := U7
  obtain ⟨_, _, ⟨T8, L8, k8, n8⟩, -, X8, ⟨Lc8, hQ8, l8, y8, z8⟩, st8⟩ := Jvm.LawKit.callS X7 hx (y := (⟨"com/example/packwise/packwise/ByteArraySourceReadBytePinLaw", "at", "(JI)B"⟩ : MethodName)) hown (mvT hZ (hw _ (List.mem_of_getElem? (i := 1) rfl))) (mvT hZ (hw _ (List.mem_of_getElem? (i := 2) rfl))) (mvT hZ (hw _ (List.mem_of_getElem? (i := 3) rfl))) (mvT hZ (hw _ (List.mem_of_getElem? (i := 4) rfl))) (by decide) (backOf (W := 2) (rm1 l Z a0 hw [] q0 (3 : Int32) h7 n0 Z7) hZ (hw _ (List.mem_of_getElem? (i := 4) rfl)) (hw _ (List.mem_of_getElem? (i := 3) rfl)) (by decide) (by decide)) (g := (mkF m 38 #[.val (.long q0), .second, .val (.int p1), .val (.int p2), .val (.int p3), .val (.ref b1), .unset, .unset, .unset, .unset, .unset, .unset, .unset] [(.int (3 : Int32)), (.long q0), (.int (3 : Int32)), (.ref b1)])) rfl (by rw [hml]; rfl) (argsL := [(.long q0), (.int (3 : Int32))]) (rest := [(.int (3 : Int32)), (.ref b1)]) (lenOf pd6 rfl) rfl (by show 2 * 0 + _ ≤ _; exact Nat.le_of_eq rfl) (hb hby at_38) (fun _ _ => ⟨rfl, e7, (by decide : 1 + 0 ≤ _), (by decide : 8 + 0 ≤ _)⟩)
  dsimp only [Pt.U, Pt.locs, Pt.cells, Pt.slots] at X8 l8 y8 z8 st8 hQ8
  subst y8 z8
  obtain ⟨rfl, N8q, e8⟩ := hQ8
  have N8 : Fr n0 L8 := by rw [l8]; exact Fr.app N7 N8q
  obtain ⟨T9, h9, X9, e9, W9, U9, st9⟩ := own_al_stB X8 hx hZ e8 V7_b1 (g := (mkF m 41 #[.val (.long q0), .second, .val (.int p1), .val (.int p2), .val (.int p3), .val (.ref b1), .unset, .unset, .unset, .unset, .unset, .unset, .unset] [(.int (F1_0 q0 (3 : Int32))), (.int (3 : Int32)), (.ref b1)])) (by decide) (Nat.le_of_ble_eq_true rfl) rfl rfl (hb hby at_41)
  have N9 := Fr.snoc X9 N8 G1
  have f9_E_b1 : Exa Z h9 b1 "[B" := f7_E_b1.wr W9
  have Z9 : n0 ≤ Array.size h9 := Nat.le_trans Z7 (Keep.of_wr W9).1
  have V9_b1 : ArrL .byte Z h9 b1 [(nar .byte (F1_0 q0 (0 : Int32))), (nar .byte (F1_0 q0 (1 : Int32))), (nar .byte (F1_0 q0 (2 : Int32))), (nar .byte (F1_0 q0 (3 : Int32))), (0 : Int32), (0 : Int32), (0 : Int32), (0 : Int32)] := U9
  obtain ⟨_, _, ⟨T10, L10, k10, n10⟩, -, X10, ⟨Lc10, hQ10, l10, y10, z10⟩, st10⟩ := Jvm.LawKit.callS X9 hx (y := (⟨"com/example/packwise/packwise/ByteArraySourceReadBytePinLaw", "at", "(JI)B"⟩ : MethodName)) hown (mvT hZ (hw _ (List.mem_of_getElem? (i := 1) rfl))) (mvT hZ (hw _ (List.mem_of_getElem? (i := 2) rfl))) (mvT hZ (hw _ (List.mem_of_getElem? (i := 3) rfl))) (mvT hZ (hw _ (List.mem_of_getElem? (i := 4) rfl))) (by decide) (backOf (W := 2) (rm1 l Z a0 hw [] q0 (4 : Int32) h9 n0 Z9) hZ (hw _ (List.mem_of_getElem? (i := 4) rfl)) (hw _ (List.mem_of_getElem? (i := 3) rfl)) (by decide) (by decide)) (g := (mkF m 47 #[.val (.long q0), .second, .val (.int p1), .val (.int p2), .val (.int p3), .val (.ref b1), .unset, .unset, .unset, .unset, .unset, .unset, .unset] [(.int (4 : Int32)), (.long q0), (.int (4 : Int32)), (.ref b1)])) rfl (by rw [hml]; rfl) (argsL := [(.long q0), (.int (4 : Int32))]) (rest := [(.int (4 : Int32)), (.ref b1)]) (lenOf pd6 rfl) rfl (by show 2 * 0 + _ ≤ _; exact Nat.le_of_eq rfl) (hb hby at_47) (fun _ _ => ⟨rfl, e9, (by decide : 1 + 0 ≤ _), (by decide : 8 + 0 ≤ _)⟩)
  dsimp only [Pt.U, Pt.locs, Pt.cells, Pt.slots] at X10 l10 y10 z10 st10 hQ10
  subst y10 z10
  obtain ⟨rfl, N10q, e10⟩ := hQ10
  have N10 : Fr n0 L10 := by rw [l10]; exact Fr.app N9 N10q
  obtain ⟨T11, h11, X11, e11, W11, U11, st11⟩ := own_al_stB X10 hx hZ e10 V9_b1 (g := (mkF m 50 #[.val (.long q0), .second, .val (.int p1), .val (.int p2), .val (.int p3), .val (.ref b1), .unset, .unset, .unset, .unset, .unset, .unset, .unset] [(.int (F1_0 q0 (4 : Int32))), (.int (4 : Int32)), (.ref b1)])) (by decide) (Nat.le_of_ble_eq_true rfl) rfl rfl (hb hby at_50)
  have N11 := Fr.snoc X11 N10 G1
  have f11_E_b1 : Exa Z h11 b1 "[B" := f9_E_b1.wr W11
  have Z11 : n0 ≤ Array.size h11 := Nat.le_trans Z9 (Keep.of_wr W11).1
  have V11_b1 : ArrL .byte Z h11 b1 [(nar .byte (F1_0 q0 (0 : Int32))), (nar .byte (F1_0 q0 (1 : Int32))), (nar .byte (F1_0 q0 (2 : Int32))), (nar .byte (F1_0 q0 (3 : Int32))), (nar .byte (F1_0 q0 (4 : Int32))), (0 : Int32), (0 : Int32), (0 : Int32)] := U11
  obtain ⟨_, _, ⟨T12, L12, k12, n12⟩, -, X12, ⟨Lc12, hQ12, l12, y12, z12⟩, st12⟩ := Jvm.LawKit.callS X11 hx (y := (⟨"com/example/packwise/packwise/ByteArraySourceReadBytePinLaw", "at", "(JI)B"⟩ : MethodName)) hown (mvT hZ (hw _ (List.mem_of_getElem? (i := 1) rfl))) (mvT hZ (hw _ (List.mem_of_getElem? (i := 2) rfl))) (mvT hZ (hw _ (List.mem_of_getElem? (i := 3) rfl))) (mvT hZ (hw _ (List.mem_of_getElem? (i := 4) rfl))) (by decide) (backOf (W := 2) (rm1 l Z a0 hw [] q0 (5 : Int32) h11 n0 Z11) hZ (hw _ (List.mem_of_getElem? (i := 4) rfl)) (hw _ (List.mem_of_getElem? (i := 3) rfl)) (by decide) (by decide)) (g := (mkF m 56 #[.val (.long q0), .second, .val (.int p1), .val (.int p2), .val (.int p3), .val (.ref b1), .unset, .unset, .unset, .unset, .unset, .unset, .unset] [(.int (5 : Int32)), (.long q0), (.int (5 : Int32)), (.ref b1)])) rfl (by rw [hml]; rfl) (argsL := [(.long q0), (.int (5 : Int32))]) (rest := [(.int (5 : Int32)), (.ref b1)]) (lenOf pd6 rfl) rfl (by show 2 * 0 + _ ≤ _; exact Nat.le_of_eq rfl) (hb hby at_56) (fun _ _ => ⟨rfl, e11, (by decide : 1 + 0 ≤ _), (by decide : 8 + 0 ≤ _)⟩)
  dsimp only [Pt.U, Pt.locs, Pt.cells, Pt.slots] at X12 l12 y12 z12 st12 hQ12
  subst y12 z12
  obtain ⟨rfl, N12q, e12⟩ := hQ12
  have N12 : Fr n0 L12 := by rw [l12]; exact Fr.app N11 N12q
  obtain ⟨T13, h13, X13, e13, W13, U13, st13⟩ := own_al_stB X12 hx hZ e12 V11_b1 (g := (mkF m 59 #[.val (.long q0), .second, .val (.int p1), .val (.int p2), .val (.int p3), .val (.ref b1), .unset, .unset, .unset, .unset, .unset, .unset, .unset] [(.int (F1_0 q0 (5 : Int32))), (.int (5 : Int32)), (.ref b1)])) (by decide) (Nat.le_of_ble_eq_true rfl) rfl rfl (hb hby at_59)
  have N13 := Fr.snoc X13 N12 G1
  have f13_E_b1 : Exa Z h13 b1 "[B" := f11_E_b1.wr W13
  have Z13 : n0 ≤ Array.size h13 := Nat.le_trans Z11 (Keep.of_wr W13).1
  have V13_b1 : ArrL .byte Z h13 b1 [(nar .byte (F1_0 q0 (0 : Int32))), (nar .byte (F1_0 q0 (1 : Int32))), (nar .byte (F1_0 q0 (2 : Int32))), (nar .byte (F1_0 q0 (3 : Int32))), (nar .byte (F1_0 q0 (4 : Int32))), (nar .byte (F1_0 q0 (5 : Int32))), (0 : Int32), (0 : Int32)] := U13
  obtain ⟨_, _, ⟨T14, L14, k14, n14⟩, -, X14, ⟨Lc14, hQ14, l14, y14, z14⟩, st14⟩ := Jvm.LawKit.callS X13 hx (y := (⟨"com/example/packwise/packwise/ByteArraySourceReadBytePinLaw", "at", "(JI)B"⟩ : MethodName)) hown (mvT hZ (hw _ (List.mem_of_getElem? (i := 1) rfl))) (mvT hZ (hw _ (List.mem_of_getElem? (i := 2) rfl))) (mvT hZ (hw _ (List.mem_of_getElem? (i := 3) rfl))) (mvT hZ (hw _ (List.mem_of_getElem? (i := 4) rfl))) (by decide) (backOf (W := 2) (rm1 l Z a0 hw [] q0 (6 : Int32) h13 n0 Z13) hZ (hw _ (List.mem_of_getElem? (i := 4) rfl)) (hw _ (List.mem_of_getElem? (i := 3) rfl)) (by decide) (by decide)) (g := (mkF m 67 #[.val (.long q0), .second, .val (.int p1), .val (.int p2), .val (.int p3), .val (.ref b1), .unset, .unset, .unset, .unset, .unset, .unset, .unset] [(.int (6 : Int32)), (.long q0), (.int (6 : Int32)), (.ref b1)])) rfl (by rw [hml]; rfl) (argsL := [(.long q0), (.int (6 : Int32))]) (rest := [(.int (6 : Int32)), (.ref b1)]) (lenOf pd6 rfl) rfl (by show 2 * 0 + _ ≤ _; exact Nat.le_of_eq rfl) (hb hby at_67) (fun _ _ => ⟨rfl, e13, (by decide : 1 + 0 ≤ _), (by decide : 8 + 0 ≤ _)⟩)
  dsimp only [Pt.U, Pt.locs, Pt.cells, Pt.slots] at X14 l14 y14 z14 st14 hQ14
  subst y14 z14
  obtain ⟨rfl, N14q, e14⟩ := hQ14
  have N14 : Fr n0 L14 := by rw [l14]; exact Fr.app N13 N14q
  obtain ⟨T15, h15, X15, e15, W15, U15, st15⟩ := own_al_stB X14 hx hZ e14 V13_b1 (g := (mkF m 70 #[.val (.long q0), .second, .val (.int p1), .val (.int p2), .val (.int p3), .val (.ref b1), .unset, .unset, .unset, .unset, .unset, .unset, .unset] [(.int (F1_0 q0 (6 : Int32))), (.int (6 : Int32)), (.ref b1)])) (by decide) (Nat.le_of_ble_eq_true rfl) rfl rfl (hb hby at_70)
  have N15 := Fr.snoc X15 N14 G1
  have f15_E_b1 : Exa Z h15 b1 "[B" := f13_E_b1.wr W15
  have Z15 : n0 ≤ Array.size h15 := Nat.le_trans Z13 (Keep.of_wr W15).1
  have V15_b1 : ArrL .byte Z h15 b1 [(nar .byte (F1_0 q0 (0 : Int32))), (nar .byte (F1_0 q0 (1 : Int32))), (nar .byte (F1_0 q0 (2 : Int32))), (nar .byte (F1_0 q0 (3 : Int32))), (nar .byte (F1_0 q0 (4 : Int32))), (nar .byte (F1_0 q0 (5 : Int32))), (nar .byte (F1_0 q0 (6 : Int32))), (0 : Int32)] := U15
  obtain ⟨_, _, ⟨T16, L16, k16, n16⟩, -, X16, ⟨Lc16, hQ16, l16, y16, z16⟩, st16⟩ := Jvm.LawKit.callS X15 hx (y := (⟨"com/example/packwise/packwise/ByteArraySourceReadBytePinLaw", "at", "(JI)B"⟩ : MethodName)) hown (mvT hZ (hw _ (List.mem_of_getElem? (i := 1) rfl))) (mvT hZ (hw _ (List.mem_of_getElem? (i := 2) rfl))) (mvT hZ (hw _ (List.mem_of_getElem? (i := 3) rfl))) (mvT hZ (hw _ (List.mem_of_getElem? (i := 4) rfl))) (by decide) (backOf (W := 2) (rm1 l Z a0 hw [] q0 (7 : Int32) h15 n0 Z15) hZ (hw _ (List.mem_of_getElem? (i := 4) rfl)) (hw _ (List.mem_of_getElem? (i := 3) rfl)) (by decide) (by decide)) (g := (mkF m 78 #[.val (.long q0), .second, .val (.int p1), .val (.int p2), .val (.int p3), .val (.ref b1), .unset, .unset, .unset, .unset, .unset, .unset, .unset] [(.int (7 : Int32)), (.long q0), (.int (7 : Int32)), (.ref b1)])) rfl (by rw [hml]; rfl) (argsL := [(.long q0), (.int (7 : Int32))]) (rest := [(.int (7 : Int32)), (.ref b1)]) (lenOf pd6 rfl) rfl (by show 2 * 0 + _ ≤ _; exact Nat.le_of_eq rfl) (hb hby at_78) (fun _ _ => ⟨rfl, e15, (by decide : 1 + 0 ≤ _), (by decide : 8 + 0 ≤ _)⟩)
  dsimp only [Pt.U, Pt.locs, Pt.cells, Pt.slots] at X16 l16 y16 z16 st16 hQ16
  subst y16 z16
  obtain ⟨rfl, N16q, e16⟩ := hQ16
  have N16 : Fr n0 L16 := by rw [l16]; exact Fr.app N15 N16q
  obtain ⟨T17, h17, X17, e17, W17, U17, st17⟩ := own_al_stB X16 hx hZ e16 V15_b1 (g := (mkF m 81 #[.val (.long q0), .second, .val (.int p1), .val (.int p2), .val (.int p3), .val (.ref b1), .unset, .unset, .unset, .unset, .unset, .unset, .unset] [(.int (F1_0 q0 (7 : Int32))), (.int (7 : Int32)), (.ref b1)])) (by decide) (Nat.le_of_ble_eq_true rfl) rfl rfl (hb hby at_81)
  have N17 := Fr.snoc X17 N16 G1
  have f17_E_b1 : Exa Z h17 b1 "[B" := f15_E_b1.wr W17
  have Z17 : n0 ≤ Array.size h17 := Nat.le_trans Z15 (Keep.of_wr W17).1
  have V17_b1 : ArrL .byte Z h17 b1 [(nar .byte (F1_0 q0 (0 : Int32))), (nar .byte (F1_0 q0 (1 : Int32))), (nar .byte (F1_0 q0 (2 : Int32))), (nar .byte (F1_0 q0 (3 : Int32))), (nar .byte (F1_0 q0 (4 : Int32))), (nar .byte (F1_0 q0 (5 : Int32))), (nar .byte (F1_0 q0 (6 : Int32))), (nar .byte (F1_0 q0 (7 : Int32)))] := U17
  have Vb : ArrL .byte Z h17 b1 (bys q0) := V17_b1
  obtain ⟨_, _, ⟨T18, L18, k18, n18⟩, -, X18, ⟨Lc18, hQ18, l18, y18, z18⟩, st18⟩ := Jvm.LawKit.callS X17 hx (y := (⟨"java/lang/Math", "min", "(II)I"⟩ : MethodName)) hown (mvT hZ (hw _ (List.mem_of_getElem? (i := 6) rfl))) (mvT hZ (hw _ (List.mem_of_getElem? (i := 7) rfl))) (mvT hZ (hw _ (List.mem_of_getElem? (i := 8) rfl))) (mvT hZ (hw _ (List.mem_of_getElem? (i := 9) rfl))) (by decide) (backOf (W := 0) (rm2 l Z a0 hw [] ((p3 &&& (7 : Int32)) - ((p3 &&& (7 : Int32)) / (5 : Int32)) * (5 : Int32)) (vLen p1 p2) h17 n0 Z17) hZ (hw _ (List.mem_of_getElem? (i := 9) rfl)) (hw _ (List.mem_of_getElem? (i := 8) rfl)) (by decide) (by decide)) (g := (mkF m 112 #[.val (.long q0), .second, .val (.int p1), .val (.int p2), .val (.int p3), .val (.ref b1), .val (.int (vO p1)), .val (.int (vLen p1 p2)), .unset, .unset, .unset, .unset, .unset] [(.int (vLen p1 p2)), (.int ((p3 &&& (7 : Int32)) - ((p3 &&& (7 : Int32)) / (5 : Int32)) * (5 : Int32)))])) rfl (by rw [hml]; rfl) (argsL := [(.int ((p3 &&& (7 : Int32)) - ((p3 &&& (7 : Int32)) / (5 : Int32)) * (5 : Int32))), (.int (vLen p1 p2))]) (rest := []) (lenOf pd7 rfl) rfl (by show 2 * 0 + _ ≤ _; exact Nat.le_of_eq rfl) (hb hby at_112) (fun _ _ => ⟨rfl, e17, (by decide : 1 + 0 ≤ _), (by decide : 8 + 0 ≤ _)⟩)
  dsimp only [Pt.U, Pt.locs, Pt.cells, Pt.slots] at X18 l18 y18 z18 st18 hQ18
  subst y18 z18
  obtain ⟨rfl, N18q, e18⟩ := hQ18
  have N18 : Fr n0 L18 := by rw [l18]; exact Fr.app N17 N18q
  obtain ⟨T19, h19, X19, e19, E19, A19, D19, -, st19⟩ := newO X18 hx hZ hown (hw _ (List.mem_of_getElem? (i := 10) rfl)) (hw _ (List.mem_of_getElem? (i := 11) rfl)) (hw _ (List.mem_of_getElem? (i := 12) rfl)) e18 (g := (mkF m 117 #[.val (.long q0), .second, .val (.int p1), .val (.int p2), .val (.int p3), .val (.ref b1), .val (.int (vO p1)), .val (.int (vLen p1 p2)), .val (.int (vN p1 p2 p3)), .unset, .unset, .unset, .unset] [])) rfl (hb hby at_117) (by decide) (by decide)
  obtain ⟨b19, g19⟩ : ∃ z, z = Array.size h17 := ⟨_, rfl⟩
  rw [← g19] at A19 D19 st19
  have G19 : n0 ≤ b19 := Nat.le_trans Z17 (Nat.le_of_eq g19.symm)
  have ne_b1_b19 : b1 ≠ b19 := Nat.ne_of_lt (Nat.lt_of_lt_of_le f17_E_b1.lt (Nat.le_of_eq g19.symm))
  have f19_E_b1 : Exa Z h19 b1 "[B" := f17_E_b1.ext E19
  have f19_V_b1 : ArrL .byte Z h19 b1 (bys q0) := Vb.ext E19
  have Z19 : n0 ≤ Array.size h19 := Nat.le_trans Z17 E19.1
  have F19_bytes : Fld Z h19 b19 "com/example/packwise/packwise/ByteArraySource" "bytes" "[B" .null := D19 (Or.inr (hw _ (List.mem_of_getElem? (i := 47) rfl))) (ty := (.array .byte)) (by decide)
  have F19_end : Fld Z h19 b19 "com/example/packwise/packwise/ByteArraySource" "end" "I" (.int (0 : Int32)) := D19 (Or.inr (hw _ (List.mem_of_getElem? (i := 49) rfl))) (ty := .int) (by decide)
  have F19_position : Fld Z h19 b19 "com/example/packwise/packwise/ByteArraySource" "position" "I" (.int (0 : Int32)) := D19 (Or.inl (hw _ (List.mem_of_getElem? (i := 51) rfl))) (ty := .int) (by decide)
  obtain ⟨_, _, ⟨T20, L20, k20, n20⟩, -, X20', S20', hge20, ⟨Lc20, hQ20, l20, y20, z20⟩, st20⟩ := X19.specialBackS hx (y := (⟨"com/example/packwise/packwise/ByteArraySource", "<init>", "([BII)V"⟩ : MethodName)) rfl hown (mvT hZ (hw _ (List.mem_of_getElem? (i := 13) rfl))) (mvT hZ (hw _ (List.mem_of_getElem? (i := 14) rfl))) (mvT hZ (hw _ (List.mem_of_getElem? (i := 15) rfl))) (by decide) (backOfS (W := 1) (rm3 l Z a0 hw [] b19 b1 (vO p1) (vLen p1 p2) (bys q0) h19 n0 Z19 A19 F19_bytes F19_end F19_position G19 f19_E_b1 f19_V_b1 (Ne.symm ne_b1_b19) rfl (own_q1 p1) (own_q2 p1 p2) (own_q3 p1 p2)) hZ (hw _ (List.mem_of_getElem? (i := 15) rfl)) (hw _ (List.mem_of_getElem? (i := 12) rfl)) (by decide) (by decide)) (g := (mkF m 127 #[.val (.long q0), .second, .val (.int p1), .val (.int p2), .val (.int p3), .val (.ref b1), .val (.int (vO p1)), .val (.int (vLen p1 p2)), .val (.int (vN p1 p2 p3)), .unset, .unset, .unset, .unset] [(.int (vLen p1 p2)), (.int (vO p1)), (.ref b1), (.ref b19), (.ref b19)])) rfl (by rw [hml]; rfl) (Steps.refl _) (a := b19) (argsL := [(.ref b1), (.int (vO p1)), (.int (vLen p1 p2))]) (rest := [(.ref b19)]) (lenOf pd3 rfl) rfl (by show 2 * 0 + _ ≤ _; exact Nat.le_of_eq rfl) (hb hby at_127) (fun _ _ => ⟨rfl, e19, (by decide : 2 + 4 ≤ _), (by decide : 11 + 48 ≤ _)⟩)
  dsimp only [Pt.U, Pt.locs, Pt.cells, Pt.slots] at X20' S20' hge20 l20 y20 z20 st20 hQ20
  subst y20 z20
  obtain ⟨X20, S20, hZ20, hown20⟩ := rebS (s := s) (vm0 := s.vm) ((State.WarmedH.refl s).since 0) (Nat.zero_le _) X20' S20' hge20 hZ hown
  obtain ⟨rfl, N20q, K20, Ec20, Fc20_bytes, Fc20_end, Fc20_position⟩ := hQ20
  have f20_E_b1 : Exa Z T20.heap b1 "[B" := f19_E_b1.keep K20
  have f20_V_b1 : ArrL .byte Z T20.heap b1 (bys q0) := f19_V_b1.keep K20 (ninS ne_b1_b19 nin0)
  have Z20 : n0 ≤ Array.size T20.heap := Nat.le_trans Z19 K20.1
  have N20 : Fr n0 L20 := by rw [l20]; exact Fr.app N18 N20q
  obtain ⟨cq21, kq21, q21a, q21b, q21c⟩ := isOf hZ20 rfl Ec20
  obtain ⟨_, _, ⟨T21, L21, k21, n21⟩, -, X21, ⟨Lc21, hQ21, l21, y21, z21⟩, st21⟩ := X20.virtualBack hx (y := (⟨"com/example/packwise/packwise/ByteArraySource", "readByte", "()B"⟩ : MethodName)) (z := (⟨"com/example/packwise/packwise/ByteArraySource", "readByte", "()B"⟩ : MethodName)) hown20 (mvT hZ20 (hw _ (List.mem_of_getElem? (i := 65) rfl))) (mvT hZ20 (hw _ (List.mem_of_getElem? (i := 66) rfl))) (notFace_of_selects (args := #[]) (mvT hZ20 (hw _ (List.mem_of_getElem? (i := 68) rfl)))) (mvT hZ20 (hw _ (List.mem_of_getElem? (i := 68) rfl))) (mvT hZ20 (hw _ (List.mem_of_getElem? (i := 67) rfl))) (by decide) (backOf (W := 0) (rm12 l Z a0 hw [] b19 b1 ((vO p1) + (vLen p1 p2)) (vO p1) (bys q0) T20.heap n0 Z20 Ec20 Fc20_bytes Fc20_end Fc20_position G19 f20_V_b1 (Ne.symm ne_b1_b19) (own_in0 q0 p1 p2 p3 hc138) (own_ne0 p1 p2 p3 hc138)) hZ20 (hw _ (List.mem_of_getElem? (i := 69) rfl)) (hw _ (List.mem_of_getElem? (i := 12) rfl)) (by decide) (by decide)) q21a q21c (g := (mkF m 148 #[.val (.long q0), .second, .val (.int p1), .val (.int p2), .val (.int p3), .val (.ref b1), .val (.int (vO p1)), .val (.int (vLen p1 p2)), .val (.int (vN p1 p2 p3)), .val (.ref b19), .val (.int (1 : Int32)), .unset, .unset] [(.ref b19)])) rfl (by rw [hml]; rfl) (Steps.refl _) (argsL := []) (rest := []) (lenOf pd9 rfl) rfl (by show 2 * 0 + _ ≤ _; exact Nat.le_of_eq rfl) (hb hby at_148) (fun _ _ => ⟨rfl, rfl, (by decide : 6 + 0 ≤ _), (by decide : 59 + 0 ≤ _)⟩)
  dsimp only [Pt.U, Pt.locs, Pt.cells, Pt.slots] at X21 l21 y21 z21 st21 hQ21
  subst y21 z21
  obtain ⟨rfl, N21q, K21, Em21, Fm21_bytes, Fm21_end, Fm21_position⟩ := hQ21
  have f21_E_b1 : Exa Z T21.heap b1 "[B" := f20_E_b1.keep K21
  have f21_V_b1 : ArrL .byte Z T21.heap b1 (bys q0) := f20_V_b1.keep K21 (ninS ne_b1_b19 nin0)
  have Z21 : n0 ≤ Array.size T21.heap := Nat.le_trans Z20 K21.1
  have kp21 : T20.heap.size ≤ Array.size T21.heap := Nat.le_trans (Nat.le_refl _) K21.1
  have N21 : Fr n0 L21 := by rw [l21]; exact Fr.app N20 N21q
  obtain ⟨_, _, ⟨T22, L22, k22, n22⟩, -, X22, ⟨Lc22, hQ22, l22, y22, z22⟩, st22⟩ := Jvm.LawKit.callS X21 hx (y := (⟨"com/example/packwise/packwise/ByteArraySourceReadBytePinLaw", "at", "(JI)B"⟩ : MethodName)) hown20 (mvT hZ20 (hw _ (List.mem_of_getElem? (i := 1) rfl))) (mvT hZ20 (hw _ (List.mem_of_getElem? (i := 2) rfl))) (mvT hZ20 (hw _ (List.mem_of_getElem? (i := 3) rfl))) (mvT hZ20 (hw _ (List.mem_of_getElem? (i := 4) rfl))) (by decide) (backOf (W := 1) (rm1 l Z a0 hw [] q0 (vO p1) T21.heap n0 Z21) hZ20 (hw _ (List.mem_of_getElem? (i := 4) rfl)) (hw _ (List.mem_of_getElem? (i := 3) rfl)) (by decide) (by decide)) (g := (mkF m 154 #[.val (.long q0), .second, .val (.int p1), .val (.int p2), .val (.int p3), .val (.ref b1), .val (.int (vO p1)), .val (.int (vLen p1 p2)), .val (.int (vN p1 p2 p3)), .val (.ref b19), .val (.int (1 : Int32)), .unset, .unset] [(.int (vO p1)), (.long q0), (.int (((bys q0).getD (vO p1).toNatClampNeg 0).toInt8.toInt32))])) rfl (by rw [hml]; rfl) (argsL := [(.long q0), (.int (vO p1))]) (rest := [(.int (((bys q0).getD (vO p1).toNatClampNeg 0).toInt8.toInt32))]) (lenOf pd6 rfl) rfl (by show 2 * 0 + _ ≤ _; exact Nat.le_of_eq rfl) (hb hby at_154) (fun _ _ => ⟨rfl, rfl, (by decide : 6 + 0 ≤ _), (by decide : 59 + 0 ≤ _)⟩)
  dsimp only [Pt.U, Pt.locs, Pt.cells, Pt.slots] at X22 l22 y22 z22 st22 hQ22
  subst y22 z22
  obtain ⟨rfl, N22q, e22⟩ := hQ22
  have N22 : Fr n0 L22 := by rw [l22]; exact Fr.app N21 N22q
  obtain ⟨cq23, kq23, q23a, q23b, q23c⟩ := isOf hZ20 e22 Em21
  obtain ⟨_, _, ⟨T23, L23, k23, n23⟩, -, X23, ⟨Lc23, hQ23, l23, y23, z23⟩, st23⟩ := X22.virtualBack hx (y := (⟨"com/example/packwise/packwise/ByteArraySource", "readByte", "()B"⟩ : MethodName)) (z := (⟨"com/example/packwise/packwise/ByteArraySource", "readByte", "()B"⟩ : MethodName)) hown20 (mvT hZ20 (hw _ (List.mem_of_getElem? (i := 65) rfl))) (mvT hZ20 (hw _ (List.mem_of_getElem? (i := 66) rfl))) (notFace_of_selects (args := #[]) (mvT hZ20 (hw _ (List.mem_of_getElem? (i := 68) rfl)))) (mvT hZ20 (hw _ (List.mem_of_getElem? (i := 68) rfl))) (mvT hZ20 (hw _ (List.mem_of_getElem? (i := 67) rfl))) (by decide) (backOf (W := 0) (rm12 l Z a0 hw [] b19 b1 ((vO p1) + (vLen p1 p2)) ((vO p1) + (1 : Int32)) (bys q0) T21.heap n0 Z21 Em21 Fm21_bytes Fm21_end Fm21_position G19 f21_V_b1 (Ne.symm ne_b1_b19) (own_in1 q0 p1 p2 p3 hc170) (own_ne1 p1 p2 p3 hc170)) hZ20 (hw _ (List.mem_of_getElem? (i := 69) rfl)) (hw _ (List.mem_of_getElem? (i := 12) rfl)) (by decide) (by decide)) q23a q23c (g := (mkF m 180 #[.val (.long q0), .second, .val (.int p1), .val (.int p2), .val (.int p3), .val (.ref b1), .val (.int (vO p1)), .val (.int (vLen p1 p2)), .val (.int (vN p1 p2 p3)), .val (.ref b19), .val (.int (1 : Int32)), .unset, .unset] [(.ref b19)])) rfl (by rw [hml]; rfl) (Steps.refl _) (argsL := []) (rest := []) (lenOf pd9 rfl) rfl (by show 2 * 0 + _ ≤ _; exact Nat.le_of_eq rfl) (hb hby at_180) (fun _ _ => ⟨rfl, e22, (by decide : 6 + 0 ≤ _), (by decide : 59 + 0 ≤ _)⟩)
  dsimp only [Pt.U, Pt.locs, Pt.cells, Pt.slots] at X23 l23 y23 z23 st23 hQ23
  subst y23 z23
  obtain ⟨rfl, N23q, K23, Em23, Fm23_bytes, Fm23_end, Fm23_position⟩ := hQ23
  have f23_E_b1 : Exa Z T23.heap b1 "[B" := f21_E_b1.keep K23
  have f23_V_b1 : ArrL .byte Z T23.heap b1 (bys q0) := f21_V_b1.keep K23 (ninS ne_b1_b19 nin0)
  have Z23 : n0 ≤ Array.size T23.heap := Nat.le_trans Z21 K23.1
  have kp23 : T20.heap.size ≤ Array.size T23.heap := Nat.le_trans kp21 K23.1
  have N23 : Fr n0 L23 := by rw [l23]; exact Fr.app N22 N23q
  obtain ⟨_, _, ⟨T24, L24, k24, n24⟩, -, X24, ⟨Lc24, hQ24, l24, y24, z24⟩, st24⟩ := Jvm.LawKit.callS X23 hx (y := (⟨"com/example/packwise/packwise/ByteArraySourceReadBytePinLaw", "at", "(JI)B"⟩ : MethodName)) hown20 (mvT hZ20 (hw _ (List.mem_of_getElem? (i := 1) rfl))) (mvT hZ20 (hw _ (List.mem_of_getElem? (i := 2) rfl))) (mvT hZ20 (hw _ (List.mem_of_getElem? (i := 3) rfl))) (mvT hZ20 (hw _ (List.mem_of_getElem? (i := 4) rfl))) (by decide) (backOf (W := 1) (rm1 l Z a0 hw [] q0 ((vO p1) + (1 : Int32)) T23.heap n0 Z23) hZ20 (hw _ (List.mem_of_getElem? (i := 4) rfl)) (hw _ (List.mem_of_getElem? (i := 3) rfl)) (by decide) (by decide)) (g := (mkF m 188 #[.val (.long q0), .second, .val (.int p1), .val (.int p2), .val (.int p3), .val (.ref b1), .val (.int (vO p1)), .val (.int (vLen p1 p2)), .val (.int (vN p1 p2 p3)), .val (.ref b19), .val (.int (1 : Int32)), .unset, .unset] [(.int ((vO p1) + (1 : Int32))), (.long q0), (.int (((bys q0).getD ((vO p1) + (1 : Int32)).toNatClampNeg 0).toInt8.toInt32))])) rfl (by rw [hml]; rfl) (argsL := [(.long q0), (.int ((vO p1) + (1 : Int32)))]) (rest := [(.int (((bys q0).getD ((vO p1) + (1 : Int32)).toNatClampNeg 0).toInt8.toInt32))]) (lenOf pd6 rfl) rfl (by show 2 * 0 + _ ≤ _; exact Nat.le_of_eq rfl) (hb hby at_188) (fun _ _ => ⟨rfl, rfl, (by decide : 6 + 0 ≤ _), (by decide : 59 + 0 ≤ _)⟩)
  dsimp only [Pt.U, Pt.locs, Pt.cells, Pt.slots] at X24 l24 y24 z24 st24 hQ24
  subst y24 z24
  obtain ⟨rfl, N24q, e24⟩ := hQ24
  have N24 : Fr n0 L24 := by rw [l24]; exact Fr.app N23 N24q
  obtain ⟨cq25, kq25, q25a, q25b, q25c⟩ := isOf hZ20 e24 Em23
  obtain ⟨_, _, ⟨T25, L25, k25, n25⟩, -, X25, ⟨Lc25, hQ25, l25, y25, z25⟩, st25⟩ := X24.virtualBack hx (y := (⟨"com/example/packwise/packwise/ByteArraySource", "readByte", "()B"⟩ : MethodName)) (z := (⟨"com/example/packwise/packwise/ByteArraySource", "readByte", "()B"⟩ : MethodName)) hown20 (mvT hZ20 (hw _ (List.mem_of_getElem? (i := 65) rfl))) (mvT hZ20 (hw _ (List.mem_of_getElem? (i := 66) rfl))) (notFace_of_selects (args := #[]) (mvT hZ20 (hw _ (List.mem_of_getElem? (i := 68) rfl)))) (mvT hZ20 (hw _ (List.mem_of_getElem? (i := 68) rfl))) (mvT hZ20 (hw _ (List.mem_of_getElem? (i := 67) rfl))) (by decide) (backOf (W := 0) (rm12 l Z a0 hw [] b19 b1 ((vO p1) + (vLen p1 p2)) (((vO p1) + (1 : Int32)) + (1 : Int32)) (bys q0) T23.heap n0 Z23 Em23 Fm23_bytes Fm23_end Fm23_position G19 f23_V_b1 (Ne.symm ne_b1_b19) (own_in2 q0 p1 p2 p3 hc204) (own_ne2 p1 p2 p3 hc204)) hZ20 (hw _ (List.mem_of_getElem? (i := 69) rfl)) (hw _ (List.mem_of_getElem? (i := 12) rfl)) (by decide) (by decide)) q25a q25c (g := (mkF m 214 #[.val (.long q0), .second, .val (.int p1), .val (.int p2), .val (.int p3), .val (.ref b1), .val (.int (vO p1)), .val (.int (vLen p1 p2)), .val (.int (vN p1 p2 p3)), .val (.ref b19), .val (.int (1 : Int32)), .unset, .unset] [(.ref b19)])) rfl (by rw [hml]; rfl) (Steps.refl _) (argsL := []) (rest := []) (lenOf pd9 rfl) rfl (by show 2 * 0 + _ ≤ _; exact Nat.le_of_eq rfl) (hb hby at_214) (fun _ _ => ⟨rfl, e24, (by decide : 6 + 0 ≤ _), (by decide : 59 + 0 ≤ _)⟩)
  dsimp only [Pt.U, Pt.locs, Pt.cells, Pt.slots] at X25 l25 y25 z25 st25 hQ25
  subst y25 z25
  obtain ⟨rfl, N25q, K25, Em25, Fm25_bytes, Fm25_end, Fm25_position⟩ := hQ25
  have f25_E_b1 : Exa Z T25.heap b1 "[B" := f23_E_b1.keep K25
  have f25_V_b1 : ArrL .byte Z T25.heap b1 (bys q0) := f23_V_b1.keep K25 (ninS ne_b1_b19 nin0)
  have Z25 : n0 ≤ Array.size T25.heap := Nat.le_trans Z23 K25.1
  have kp25 : T20.heap.size ≤ Array.size T25.heap := Nat.le_trans kp23 K25.1
  have N25 : Fr n0 L25 := by rw [l25]; exact Fr.app N24 N25q
  obtain ⟨_, _, ⟨T26, L26, k26, n26⟩, -, X26, ⟨Lc26, hQ26, l26, y26, z26⟩, st26⟩ := Jvm.LawKit.callS X25 hx (y := (⟨"com/example/packwise/packwise/ByteArraySourceReadBytePinLaw", "at", "(JI)B"⟩ : MethodName)) hown20 (mvT hZ20 (hw _ (List.mem_of_getElem? (i := 1) rfl))) (mvT hZ20 (hw _ (List.mem_of_getElem? (i := 2) rfl))) (mvT hZ20 (hw _ (List.mem_of_getElem? (i := 3) rfl))) (mvT hZ20 (hw _ (List.mem_of_getElem? (i := 4) rfl))) (by decide) (backOf (W := 1) (rm1 l Z a0 hw [] q0 ((vO p1) + (2 : Int32)) T25.heap n0 Z25) hZ20 (hw _ (List.mem_of_getElem? (i := 4) rfl)) (hw _ (List.mem_of_getElem? (i := 3) rfl)) (by decide) (by decide)) (g := (mkF m 222 #[.val (.long q0), .second, .val (.int p1), .val (.int p2), .val (.int p3), .val (.ref b1), .val (.int (vO p1)), .val (.int (vLen p1 p2)), .val (.int (vN p1 p2 p3)), .val (.ref b19), .val (.int (1 : Int32)), .unset, .unset] [(.int ((vO p1) + (2 : Int32))), (.long q0), (.int (((bys q0).getD (((vO p1) + (1 : Int32)) + (1 : Int32)).toNatClampNeg 0).toInt8.toInt32))])) rfl (by rw [hml]; rfl) (argsL := [(.long q0), (.int ((vO p1) + (2 : Int32)))]) (rest := [(.int (((bys q0).getD (((vO p1) + (1 : Int32)) + (1 : Int32)).toNatClampNeg 0).toInt8.toInt32))]) (lenOf pd6 rfl) rfl (by show 2 * 0 + _ ≤ _; exact Nat.le_of_eq rfl) (hb hby at_222) (fun _ _ => ⟨rfl, rfl, (by decide : 6 + 0 ≤ _), (by decide : 59 + 0 ≤ _)⟩)
  dsimp only [Pt.U, Pt.locs, Pt.cells, Pt.slots] at X26 l26 y26 z26 st26 hQ26
  subst y26 z26
  obtain ⟨rfl, N26q, e26⟩ := hQ26
  have N26 : Fr n0 L26 := by rw [l26]; exact Fr.app N25 N26q
  obtain ⟨cq27, kq27, q27a, q27b, q27c⟩ := isOf hZ20 e26 Em25
  obtain ⟨_, _, ⟨T27, L27, k27, n27⟩, -, X27, ⟨Lc27, hQ27, l27, y27, z27⟩, st27⟩ := X26.virtualBack hx (y := (⟨"com/example/packwise/packwise/ByteArraySource", "readByte", "()B"⟩ : MethodName)) (z := (⟨"com/example/packwise/packwise/ByteArraySource", "readByte", "()B"⟩ : MethodName)) hown20 (mvT hZ20 (hw _ (List.mem_of_getElem? (i := 65) rfl))) (mvT hZ20 (hw _ (List.mem_of_getElem? (i := 66) rfl))) (notFace_of_selects (args := #[]) (mvT hZ20 (hw _ (List.mem_of_getElem? (i := 68) rfl)))) (mvT hZ20 (hw _ (List.mem_of_getElem? (i := 68) rfl))) (mvT hZ20 (hw _ (List.mem_of_getElem? (i := 67) rfl))) (by decide) (backOf (W := 0) (rm12 l Z a0 hw [] b19 b1 ((vO p1) + (vLen p1 p2)) ((((vO p1) + (1 : Int32)) + (1 : Int32)) + (1 : Int32)) (bys q0) T25.heap n0 Z25 Em25 Fm25_bytes Fm25_end Fm25_position G19 f25_V_b1 (Ne.symm ne_b1_b19) (own_in3 q0 p1 p2 p3 hc238) (own_ne3 p1 p2 p3 hc238)) hZ20 (hw _ (List.mem_of_getElem? (i := 69) rfl)) (hw _ (List.mem_of_getElem? (i := 12) rfl)) (by decide) (by decide)) q27a q27c (g := (mkF m 248 #[.val (.long q0), .second, .val (.int p1), .val (.int p2), .val (.int p3), .val (.ref b1), .val (.int (vO p1)), .val (.int (vLen p1 p2)), .val (.int (vN p1 p2 p3)), .val (.ref b19), .val (.int (1 : Int32)), .unset, .unset] [(.ref b19)])) rfl (by rw [hml]; rfl) (Steps.refl _) (argsL := []) (rest := []) (lenOf pd9 rfl) rfl (by show 2 * 0 + _ ≤ _; exact Nat.le_of_eq rfl) (hb hby at_248) (fun _ _ => ⟨rfl, e26, (by decide : 6 + 0 ≤ _), (by decide : 59 + 0 ≤ _)⟩)
  dsimp only [Pt.U, Pt.locs, Pt.cells, Pt.slots] at X27 l27 y27 z27 st27 hQ27
  subst y27 z27
  obtain ⟨rfl, N27q, K27, Em27, Fm27_bytes, Fm27_end, Fm27_position⟩ := hQ27
  have f27_E_b1 : Exa Z T27.heap b1 "[B" := f25_E_b1.keep K27
  have f27_V_b1 : ArrL .byte Z T27.heap b1 (bys q0) := f25_V_b1.keep K27 (ninS ne_b1_b19 nin0)
  have Z27 : n0 ≤ Array.size T27.heap := Nat.le_trans Z25 K27.1
  have kp27 : T20.heap.size ≤ Array.size T27.heap := Nat.le_trans kp25 K27.1
  have N27 : Fr n0 L27 := by rw [l27]; exact Fr.app N26 N27q
  obtain ⟨_, _, ⟨T28, L28, k28, n28⟩, -, X28, ⟨Lc28, hQ28, l28, y28, z28⟩, st28⟩ := Jvm.LawKit.callS X27 hx (y := (⟨"com/example/packwise/packwise/ByteArraySourceReadBytePinLaw", "at", "(JI)B"⟩ : MethodName)) hown20 (mvT hZ20 (hw _ (List.mem_of_getElem? (i := 1) rfl))) (mvT hZ20 (hw _ (List.mem_of_getElem? (i := 2) rfl))) (mvT hZ20 (hw _ (List.mem_of_getElem? (i := 3) rfl))) (mvT hZ20 (hw _ (List.mem_of_getElem? (i := 4) rfl))) (by decide) (backOf (W := 1) (rm1 l Z a0 hw [] q0 ((vO p1) + (3 : Int32)) T27.heap n0 Z27) hZ20 (hw _ (List.mem_of_getElem? (i := 4) rfl)) (hw _ (List.mem_of_getElem? (i := 3) rfl)) (by decide) (by decide)) (g := (mkF m 256 #[.val (.long q0), .second, .val (.int p1), .val (.int p2), .val (.int p3), .val (.ref b1), .val (.int (vO p1)), .val (.int (vLen p1 p2)), .val (.int (vN p1 p2 p3)), .val (.ref b19), .val (.int (1 : Int32)), .unset, .unset] [(.int ((vO p1) + (3 : Int32))), (.long q0), (.int (((bys q0).getD ((((vO p1) + (1 : Int32)) + (1 : Int32)) + (1 : Int32)).toNatClampNeg 0).toInt8.toInt32))])) rfl (by rw [hml]; rfl) (argsL := [(.long q0), (.int ((vO p1) + (3 : Int32)))]) (rest := [(.int (((bys q0).getD ((((vO p1) + (1 : Int32)) + (1 : Int32)) + (1 : Int32)).toNatClampNeg 0).toInt8.toInt32))]) (lenOf pd6 rfl) rfl (by show 2 * 0 + _ ≤ _; exact Nat.le_of_eq rfl) (hb hby at_256) (fun _ _ => ⟨rfl, rfl, (by decide : 6 + 0 ≤ _), (by decide : 59 + 0 ≤ _)⟩)
  dsimp only [Pt.U, Pt.locs, Pt.cells, Pt.slots] at X28 l28 y28 z28 st28 hQ28
  subst y28 z28
  obtain ⟨rfl, N28q, e28⟩ := hQ28
  have N28 : Fr n0 L28 := by rw [l28]; exact Fr.app N27 N28q
  obtain ⟨cq29, kq29, q29a, q29b, q29c⟩ := isOf hZ20 e28 Em27
  obtain ⟨_, _, ⟨T29, L29, k29, n29⟩, -, X29, ⟨Lc29, hQ29, l29, y29, z29⟩, st29⟩ := X28.virtualBack hx (y := (⟨"com/example/packwise/packwise/ByteArraySource", "skipBytes", "(J)J"⟩ : MethodName)) (z := (⟨"com/example/packwise/packwise/ByteArraySource", "skipBytes", "(J)J"⟩ : MethodName)) hown20 (mvT hZ20 (hw _ (List.mem_of_getElem? (i := 53) rfl))) (mvT hZ20 (hw _ (List.mem_of_getElem? (i := 54) rfl))) (notFace_of_selects (args := #[]) (mvT hZ20 (hw _ (List.mem_of_getElem? (i := 56) rfl)))) (mvT hZ20 (hw _ (List.mem_of_getElem? (i := 56) rfl))) (mvT hZ20 (hw _ (List.mem_of_getElem? (i := 55) rfl))) (by decide) (backOf (W := 0) (rm9 l Z a0 hw [] b19 (8 : Int64) ((vO p1) + (vLen p1 p2)) (((((vO p1) + (1 : Int32)) + (1 : Int32)) + (1 : Int32)) + (1 : Int32)) T27.heap n0 Z27 Em27 Fm27_end Fm27_position G19 (by decide)) hZ20 (hw _ (List.mem_of_getElem? (i := 57) rfl)) (hw _ (List.mem_of_getElem? (i := 12) rfl)) (by decide) (by decide)) q29a q29c (g := (mkF m 274 #[.val (.long q0), .second, .val (.int p1), .val (.int p2), .val (.int p3), .val (.ref b1), .val (.int (vO p1)), .val (.int (vLen p1 p2)), .val (.int (vN p1 p2 p3)), .val (.ref b19), .val (.int (1 : Int32)), .unset, .unset] [(.long (8 : Int64)), (.ref b19)])) rfl (by rw [hml]; rfl) (Steps.refl _) (argsL := [(.long (8 : Int64))]) (rest := []) (lenOf pd8 rfl) rfl (by show 2 * 0 + _ ≤ _; exact Nat.le_of_eq rfl) (hb hby at_274) (fun _ _ => ⟨rfl, e28, (by decide : 6 + 0 ≤ _), (by decide : 59 + 0 ≤ _)⟩)
  dsimp only [Pt.U, Pt.locs, Pt.cells, Pt.slots] at X29 l29 y29 z29 st29 hQ29
  subst y29 z29
  obtain ⟨rfl, N29q, K29, Em29, Fm29_end, Fm29_position⟩ := hQ29
  have f29_E_b1 : Exa Z T29.heap b1 "[B" := f27_E_b1.keep K29
  have f29_V_b1 : ArrL .byte Z T29.heap b1 (bys q0) := f27_V_b1.keep K29 (ninS ne_b1_b19 nin0)
  have Z29 : n0 ≤ Array.size T29.heap := Nat.le_trans Z27 K29.1
  have kp29 : T20.heap.size ≤ Array.size T29.heap := Nat.le_trans kp27 K29.1
  have N29 : Fr n0 L29 := by rw [l29]; exact Fr.app N28 N29q
  obtain ⟨fs, hr, hrun, hended, hEnd⟩ := X29.leaveW (s := s) (vm₁ := T20.vm) S20 kp29 (v := some (.int (1 : Int32))) (fun h => by rw [Bd.returns] at h; cases h)
  refine ⟨_, _, pre0 _ ?_, hrun, hended, _, _, rfl, ⟨rfl, N29⟩, hEnd.1, hEnd.2.1, hEnd.2.2.1, hEnd.2.2.2.mono (by decide) (by decide)⟩
  show Steps p.tables e below (s₁.setTop (mkF m 0 #[.val (.long q0), .second, .val (.int p1), .val (.int p2), .val (.int p3), .unset, .unset, .unset, .unset, .unset, .unset, .unset, .unset] [])) _
  refine XS.bipush X0.here hx rfl (hb hby at_0) ?_
  show Steps p.tables e below (s₁.setTop (mkF m 2 #[.val (.long q0), .second, .val (.int p1), .val (.int p2), .val (.int p3), .unset, .unset, .unset, .unset, .unset, .unset, .unset, .unset] [(.int (8 : Int32))])) _
  refine st1 _ ?_
  show Steps p.tables e below (T1.setTop (mkF m 4 #[.val (.long q0), .second, .val (.int p1), .val (.int p2), .val (.int p3), .unset, .unset, .unset, .unset, .unset, .unset, .unset, .unset] [(.ref b1)])) _
  refine XS.astore X1.here hx rfl (hb hby at_4) rfl rfl (l' := #[.val (.long q0), .second, .val (.int p1), .val (.int p2), .val (.int p3), .val (.ref b1), .unset, .unset, .unset, .unset, .unset, .unset, .unset]) rfl ?_
  show Steps p.tables e below (T1.setTop (mkF m 6 #[.val (.long q0), .second, .val (.int p1), .val (.int p2), .val (.int p3), .val (.ref b1), .unset, .unset, .unset, .unset, .unset, .unset, .unset] [])) _
  refine XS.aload X1.here hx rfl (hb hby at_6) rfl rfl ?_
  show Steps p.tables e below (T1.setTop (mkF m 8 #[.val (.long q0), .second, .val (.int p1), .val (.int p2), .val (.int p3), .val (.ref b1), .unset, .unset, .unset, .unset, .unset, .unset, .unset] [(.ref b1)])) _
  refine XS.iconst X1.here hx rfl (hb hby at_8) ?_
  show Steps p.tables e below (T1.setTop (mkF m 9 #[.val (.long q0), .second, .val (.int p1), .val (.int p2), .val (.int p3), .val (.ref b1), .unset, .unset, .unset, .unset, .unset, .unset, .unset] [(.int (0 : Int32)), (.ref b1)])) _
  refine XS.lloadN X1.here hx rfl (hb hby at_9) rfl ?_
  show Steps p.tables e below (T1.setTop (mkF m 10 #[.val (.long q0), .second, .val (.int p1), .val (.int p2), .val (.int p3), .val (.ref b1), .unset, .unset, .unset, .unset, .unset, .unset, .unset] [(.long q0), (.int (0 : Int32)), (.ref b1)])) _
  refine XS.iconst X1.here hx rfl (hb hby at_10) ?_
  show Steps p.tables e below (T1.setTop (mkF m 11 #[.val (.long q0), .second, .val (.int p1), .val (.int p2), .val (.int p3), .val (.ref b1), .unset, .unset, .unset, .unset, .unset, .unset, .unset] [(.int (0 : Int32)), (.long q0), (.int (0 : Int32)), (.ref b1)])) _
  refine st2 _ ?_
  show Steps p.tables e below (T2.setTop (mkF m 14 #[.val (.long q0), .second, .val (.int p1), .val (.int p2), .val (.int p3), .val (.ref b1), .unset, .unset, .unset, .unset, .unset, .unset, .unset] [(.int (F1_0 q0 (0 : Int32))), (.int (0 : Int32)), (.ref b1)])) _
  refine st3 _ ?_
  show Steps p.tables e below (T3.setTop (mkF m 15 #[.val (.long q0), .second, .val (.int p1), .val (.int p2), .val (.int p3), .val (.ref b1), .unset, .unset, .unset, .unset, .unset, .unset, .unset] [])) _
  refine XS.aload X3.here hx rfl (hb hby at_15) rfl rfl ?_
  show Steps p.tables e below (T3.setTop (mkF m 17 #[.val (.long q0), .second, .val (.int p1), .val (.int p2), .val (.int p3), .val (.ref b1), .unset, .unset, .unset, .unset, .unset, .unset, .unset] [(.ref b1)])) _
  refine XS.iconst X3.here hx rfl (hb hby at_17) ?_
  show Steps p.tables e below (T3.setTop (mkF m 18 #[.val (.long q0), .second, .val (.int p1), .val (.int p2), .val (.int p3), .val (.ref b1), .unset, .unset, .unset, .unset, .unset, .unset, .unset] [(.int (1 : Int32)), (.ref b1)])) _
  refine XS.lloadN X3.here hx rfl (hb hby at_18) rfl ?_
  show Steps p.tables e below (T3.setTop (mkF m 19 #[.val (.long q0), .second, .val (.int p1), .val (.int p2), .val (.int p3), .val (.ref b1), .unset, .unset, .unset, .unset, .unset, .unset, .unset] [(.long q0), (.int (1 : Int32)), (.ref b1)])) _
  refine XS.iconst X3.here hx rfl (hb hby at_19) ?_
  show Steps p.tables e below (T3.setTop (mkF m 20 #[.val (.long q0), .second, .val (.int p1), .val (.int p2), .val (.int p3), .val (.ref b1), .unset, .unset, .unset, .unset, .unset, .unset, .unset] [(.int (1 : Int32)), (.long q0), (.int (1 : Int32)), (.ref b1)])) _
  refine st4 _ ?_
  show Steps p.tables e below (T4.setTop (mkF m 23 #[.val (.long q0), .second, .val (.int p1), .val (.int p2), .val (.int p3), .val (.ref b1), .unset, .unset, .unset, .unset, .unset, .unset, .unset] [(.int (F1_0 q0 (1 : Int32))), (.int (1 : Int32)), (.ref b1)])) _
  refine st5 _ ?_
  show Steps p.tables e below (T5.setTop (mkF m 24 #[.val (.long q0), .second, .val (.int p1), .val (.int p2), .val (.int p3), .val (.ref b1), .unset, .unset, .unset, .unset, .unset, .unset, .unset] [])) _
  refine XS.aload X5.here hx rfl (hb hby at_24) rfl rfl ?_
  show Steps p.tables e below (T5.setTop (mkF m 26 #[.val (.long q0), .second, .val (.int p1), .val (.int p2), .val (.int p3), .val (.ref b1), .unset, .unset, .unset, .unset, .unset, .unset, .unset] [(.ref b1)])) _
  refine XS.iconst X5.here hx rfl (hb hby at_26) ?_
  show Steps p.tables e below (T5.setTop (mkF m 27 #[.val (.long q0), .second, .val (.int p1), .val (.int p2), .val (.int p3), .val (.ref b1), .unset, .unset, .unset, .unset, .unset, .unset, .unset] [(.int (2 : Int32)), (.ref b1)])) _
  refine XS.lloadN X5.here hx rfl (hb hby at_27) rfl ?_
  show Steps p.tables e below (T5.setTop (mkF m 28 #[.val (.long q0), .second, .val (.int p1), .val (.int p2), .val (.int p3), .val (.ref b1), .unset, .unset, .unset, .unset, .unset, .unset, .unset] [(.long q0), (.int (2 : Int32)), (.ref b1)])) _
  refine XS.iconst X5.here hx rfl (hb hby at_28) ?_
  show Steps p.tables e below (T5.setTop (mkF m 29 #[.val (.long q0), .second, .val (.int p1), .val (.int p2), .val (.int p3), .val (.ref b1), .unset, .unset, .unset, .unset, .unset, .unset, .unset] [(.int (2 : Int32)), (.long q0), (.int (2 : Int32)), (.ref b1)])) _
  refine st6 _ ?_
  show Steps p.tables e below (T6.setTop (mkF m 32 #[.val (.long q0), .second, .val (.int p1), .val (.int p2), .val (.int p3), .val (.ref b1), .unset, .unset, .unset, .unset, .unset, .unset, .unset] [(.int (F1_0 q0 (2 : Int32))), (.int (2 : Int32)), (.ref b1)])) _
  refine st7 _ ?_
  show Steps p.tables e below (T7.setTop (mkF m 33 #[.val (.long q0), .second, .val (.int p1), .val (.int p2), .val (.int p3), .val (.ref b1), .unset, .unset, .unset, .unset, .unset, .unset, .unset] [])) _
  refine XS.aload X7.here hx rfl (hb hby at_33) rfl rfl ?_
  show Steps p.tables e below (T7.setTop (mkF m 35 #[.val (.long q0), .second, .val (.int p1), .val (.int p2), .val (.int p3), .val (.ref b1), .unset, .unset, .unset, .unset, .unset, .unset, .unset] [(.ref b1)])) _
  refine XS.iconst X7.here hx rfl (hb hby at_35) ?_
  show Steps p.tables e below (T7.setTop (mkF m 36 #[.val (.long q0), .second, .val (.int p1), .val (.int p2), .val (.int p3), .val (.ref b1), .unset, .unset, .unset, .unset, .unset, .unset, .unset] [(.int (3 : Int32)), (.ref b1)])) _
  refine XS.lloadN X7.here hx rfl (hb hby at_36) rfl ?_
  show Steps p.tables e below (T7.setTop (mkF m 37 #[.val (.long q0), .second, .val (.int p1), .val (.int p2), .val (.int p3), .val (.ref b1), .unset, .unset, .unset, .unset, .unset, .unset, .unset] [(.long q0), (.int (3 : Int32)), (.ref b1)])) _
  refine XS.iconst X7.here hx rfl (hb hby at_37) ?_
  show Steps p.tables e below (T7.setTop (mkF m 38 #[.val (.long q0), .second, .val (.int p1), .val (.int p2), .val (.int p3), .val (.ref b1), .unset, .unset, .unset, .unset, .unset, .unset, .unset] [(.int (3 : Int32)), (.long q0), (.int (3 : Int32)), (.ref b1)])) _
  refine st8 _ ?_
  show Steps p.tables e below (T8.setTop (mkF m 41 #[.val (.long q0), .second, .val (.int p1), .val (.int p2), .val (.int p3), .val (.ref b1), .unset, .unset, .unset, .unset, .unset, .unset, .unset] [(.int (F1_0 q0 (3 : Int32))), (.int (3 : Int32)), (.ref b1)])) _
  refine st9 _ ?_
  show Steps p.tables e below (T9.setTop (mkF m 42 #[.val (.long q0), .second, .val (.int p1), .val (.int p2), .val (.int p3), .val (.ref b1), .unset, .unset, .unset, .unset, .unset, .unset, .unset] [])) _
  refine XS.aload X9.here hx rfl (hb hby at_42) rfl rfl ?_
  show Steps p.tables e below (T9.setTop (mkF m 44 #[.val (.long q0), .second, .val (.int p1), .val (.int p2), .val (.int p3), .val (.ref b1), .unset, .unset, .unset, .unset, .unset, .unset, .unset] [(.ref b1)])) _
  refine XS.iconst X9.here hx rfl (hb hby at_44) ?_
  show Steps p.tables e below (T9.setTop (mkF m 45 #[.val (.long q0), .second, .val (.int p1), .val (.int p2), .val (.int p3), .val (.ref b1), .unset, .unset, .unset, .unset, .unset, .unset, .unset] [(.int (4 : Int32)), (.ref b1)])) _
  refine XS.lloadN X9.here hx rfl (hb hby at_45) rfl ?_
  show Steps p.tables e below (T9.setTop (mkF m 46 #[.val (.long q0), .second, .val (.int p1), .val (.int p2), .val (.int p3), .val (.ref b1), .unset, .unset, .unset, .unset, .unset, .unset, .unset] [(.long q0), (.int (4 : Int32)), (.ref b1)])) _
  refine XS.iconst X9.here hx rfl (hb hby at_46) ?_
  show Steps p.tables e below (T9.setTop (mkF m 47 #[.val (.long q0), .second, .val (.int p1), .val (.int p2), .val (.int p3), .val (.ref b1), .unset, .unset, .unset, .unset, .unset, .unset, .unset] [(.int (4 : Int32)), (.long q0), (.int (4 : Int32)), (.ref b1)])) _
  refine st10 _ ?_
  show Steps p.tables e below (T10.setTop (mkF m 50 #[.val (.long q0), .second, .val (.int p1), .val (.int p2), .val (.int p3), .val (.ref b1), .unset, .unset, .unset, .unset, .unset, .unset, .unset] [(.int (F1_0 q0 (4 : Int32))), (.int (4 : Int32)), (.ref b1)])) _
  refine st11 _ ?_
  show Steps p.tables e below (T11.setTop (mkF m 51 #[.val (.long q0), .second, .val (.int p1), .val (.int p2), .val (.int p3), .val (.ref b1), .unset, .unset, .unset, .unset, .unset, .unset, .unset] [])) _
  refine XS.aload X11.here hx rfl (hb hby at_51) rfl rfl ?_
  show Steps p.tables e below (T11.setTop (mkF m 53 #[.val (.long q0), .second, .val (.int p1), .val (.int p2), .val (.int p3), .val (.ref b1), .unset, .unset, .unset, .unset, .unset, .unset, .unset] [(.ref b1)])) _
  refine XS.iconst X11.here hx rfl (hb hby at_53) ?_
  show Steps p.tables e below (T11.setTop (mkF m 54 #[.val (.long q0), .second, .val (.int p1), .val (.int p2), .val (.int p3), .val (.ref b1), .unset, .unset, .unset, .unset, .unset, .unset, .unset] [(.int (5 : Int32)), (.ref b1)])) _
  refine XS.lloadN X11.here hx rfl (hb hby at_54) rfl ?_
  show Steps p.tables e below (T11.setTop (mkF m 55 #[.val (.long q0), .second, .val (.int p1), .val (.int p2), .val (.int p3), .val (.ref b1), .unset, .unset, .unset, .unset, .unset, .unset, .unset] [(.long q0), (.int (5 : Int32)), (.ref b1)])) _
  refine XS.iconst X11.here hx rfl (hb hby at_55) ?_
  show Steps p.tables e below (T11.setTop (mkF m 56 #[.val (.long q0), .second, .val (.int p1), .val (.int p2), .val (.int p3), .val (.ref b1), .unset, .unset, .unset, .unset, .unset, .unset, .unset] [(.int (5 : Int32)), (.long q0), (.int (5 : Int32)), (.ref b1)])) _
  refine st12 _ ?_
  show Steps p.tables e below (T12.setTop (mkF m 59 #[.val (.long q0), .second, .val (.int p1), .val (.int p2), .val (.int p3), .val (.ref b1), .unset, .unset, .unset, .unset, .unset, .unset, .unset] [(.int (F1_0 q0 (5 : Int32))), (.int (5 : Int32)), (.ref b1)])) _
  refine st13 _ ?_
  show Steps p.tables e below (T13.setTop (mkF m 60 #[.val (.long q0), .second, .val (.int p1), .val (.int p2), .val (.int p3), .val (.ref b1), .unset, .unset, .unset, .unset, .unset, .unset, .unset] [])) _
  refine XS.aload X13.here hx rfl (hb hby at_60) rfl rfl ?_
  show Steps p.tables e below (T13.setTop (mkF m 62 #[.val (.long q0), .second, .val (.int p1), .val (.int p2), .val (.int p3), .val (.ref b1), .unset, .unset, .unset, .unset, .unset, .unset, .unset] [(.ref b1)])) _
  refine XS.bipush X13.here hx rfl (hb hby at_62) ?_
  show Steps p.tables e below (T13.setTop (mkF m 64 #[.val (.long q0), .second, .val (.int p1), .val (.int p2), .val (.int p3), .val (.ref b1), .unset, .unset, .unset, .unset, .unset, .unset, .unset] [(.int (6 : Int32)), (.ref b1)])) _
  refine XS.lloadN X13.here hx rfl (hb hby at_64) rfl ?_
  show Steps p.tables e below (T13.setTop (mkF m 65 #[.val (.long q0), .second, .val (.int p1), .val (.int p2), .val (.int p3), .val (.ref b1), .unset, .unset, .unset, .unset, .unset, .unset, .unset] [(.long q0), (.int (6 : Int32)), (.ref b1)])) _
  refine XS.bipush X13.here hx rfl (hb hby at_65) ?_
  show Steps p.tables e below (T13.setTop (mkF m 67 #[.val (.long q0), .second, .val (.int p1), .val (.int p2), .val (.int p3), .val (.ref b1), .unset, .unset, .unset, .unset, .unset, .unset, .unset] [(.int (6 : Int32)), (.long q0), (.int (6 : Int32)), (.ref b1)])) _
  refine st14 _ ?_
  show Steps p.tables e below (T14.setTop (mkF m 70 #[.val (.long q0), .second, .val (.int p1), .val (.int p2), .val (.int p3), .val (.ref b1), .unset, .unset, .unset, .unset, .unset, .unset, .unset] [(.int (F1_0 q0 (6 : Int32))), (.int (6 : Int32)), (.ref b1)])) _
  refine st15 _ ?_
  show Steps p.tables e below (T15.setTop (mkF m 71 #[.val (.long q0), .second, .val (.int p1), .val (.int p2), .val (.int p3), .val (.ref b1), .unset, .unset, .unset, .unset, .unset, .unset, .unset] [])) _
  refine XS.aload X15.here hx rfl (hb hby at_71) rfl rfl ?_
  show Steps p.tables e below (T15.setTop (mkF m 73 #[.val (.long q0), .second, .val (.int p1), .val (.int p2), .val (.int p3), .val (.ref b1), .unset, .unset, .unset, .unset, .unset, .unset, .unset] [(.ref b1)])) _
  refine XS.bipush X15.here hx rfl (hb hby at_73) ?_
  show Steps p.tables e below (T15.setTop (mkF m 75 #[.val (.long q0), .second, .val (.int p1), .val (.int p2), .val (.int p3), .val (.ref b1), .unset, .unset, .unset, .unset, .unset, .unset, .unset] [(.int (7 : Int32)), (.ref b1)])) _
  refine XS.lloadN X15.here hx rfl (hb hby at_75) rfl ?_
  show Steps p.tables e below (T15.setTop (mkF m 76 #[.val (.long q0), .second, .val (.int p1), .val (.int p2), .val (.int p3), .val (.ref b1), .unset, .unset, .unset, .unset, .unset, .unset, .unset] [(.long q0), (.int (7 : Int32)), (.ref b1)])) _
  refine XS.bipush X15.here hx rfl (hb hby at_76) ?_
  show Steps p.tables e below (T15.setTop (mkF m 78 #[.val (.long q0), .second, .val (.int p1), .val (.int p2), .val (.int p3), .val (.ref b1), .unset, .unset, .unset, .unset, .unset, .unset, .unset] [(.int (7 : Int32)), (.long q0), (.int (7 : Int32)), (.ref b1)])) _
  refine st16 _ ?_
  show Steps p.tables e below (T16.setTop (mkF m 81 #[.val (.long q0), .second, .val (.int p1), .val (.int p2), .val (.int p3), .val (.ref b1), .unset, .unset, .unset, .unset, .unset, .unset, .unset] [(.int (F1_0 q0 (7 : Int32))), (.int (7 : Int32)), (.ref b1)])) _
  refine st17 _ ?_
  show Steps p.tables e below (T17.setTop (mkF m 82 #[.val (.long q0), .second, .val (.int p1), .val (.int p2), .val (.int p3), .val (.ref b1), .unset, .unset, .unset, .unset, .unset, .unset, .unset] [])) _
  refine XS.iloadN X17.here hx rfl (hb hby at_82) rfl ?_
  show Steps p.tables e below (T17.setTop (mkF m 83 #[.val (.long q0), .second, .val (.int p1), .val (.int p2), .val (.int p3), .val (.ref b1), .unset, .unset, .unset, .unset, .unset, .unset, .unset] [(.int p1)])) _
  refine X17.ldcInt hx hown (mvT hZ (hw _ (List.mem_of_getElem? (i := 5) rfl))) (g := (mkF m 83 #[.val (.long q0), .second, .val (.int p1), .val (.int p2), .val (.int p3), .val (.ref b1), .unset, .unset, .unset, .unset, .unset, .unset, .unset] [(.int p1)])) rfl (hb hby at_83) _ ?_
  show Steps p.tables e below (T17.setTop (mkF m 85 #[.val (.long q0), .second, .val (.int p1), .val (.int p2), .val (.int p3), .val (.ref b1), .unset, .unset, .unset, .unset, .unset, .unset, .unset] [(.int (2147483647 : Int32)), (.int p1)])) _
  refine XS.iand X17.here hx rfl (hb hby at_85) rfl ?_
  show Steps p.tables e below (T17.setTop (mkF m 86 #[.val (.long q0), .second, .val (.int p1), .val (.int p2), .val (.int p3), .val (.ref b1), .unset, .unset, .unset, .unset, .unset, .unset, .unset] [(.int (p1 &&& (2147483647 : Int32)))])) _
  refine XS.bipush X17.here hx rfl (hb hby at_86) ?_
  show Steps p.tables e below (T17.setTop (mkF m 88 #[.val (.long q0), .second, .val (.int p1), .val (.int p2), .val (.int p3), .val (.ref b1), .unset, .unset, .unset, .unset, .unset, .unset, .unset] [(.int (9 : Int32)), (.int (p1 &&& (2147483647 : Int32)))])) _
  refine XS.irem X17.here hx rfl (hb hby at_88) rfl (by decide) ?_
  show Steps p.tables e below (T17.setTop (mkF m 89 #[.val (.long q0), .second, .val (.int p1), .val (.int p2), .val (.int p3), .val (.ref b1), .unset, .unset, .unset, .unset, .unset, .unset, .unset] [(.int ((p1 &&& (2147483647 : Int32)) - ((p1 &&& (2147483647 : Int32)) / (9 : Int32)) * (9 : Int32)))])) _
  refine XS.istore X17.here hx rfl (hb hby at_89) rfl (l' := #[.val (.long q0), .second, .val (.int p1), .val (.int p2), .val (.int p3), .val (.ref b1), .val (.int ((p1 &&& (2147483647 : Int32)) - ((p1 &&& (2147483647 : Int32)) / (9 : Int32)) * (9 : Int32))), .unset, .unset, .unset, .unset, .unset, .unset]) rfl ?_
  show Steps p.tables e below (T17.setTop (mkF m 91 #[.val (.long q0), .second, .val (.int p1), .val (.int p2), .val (.int p3), .val (.ref b1), .val (.int (vO p1)), .unset, .unset, .unset, .unset, .unset, .unset] [])) _
  refine XS.iloadN X17.here hx rfl (hb hby at_91) rfl ?_
  show Steps p.tables e below (T17.setTop (mkF m 92 #[.val (.long q0), .second, .val (.int p1), .val (.int p2), .val (.int p3), .val (.ref b1), .val (.int (vO p1)), .unset, .unset, .unset, .unset, .unset, .unset] [(.int p2)])) _
  refine X17.ldcInt hx hown (mvT hZ (hw _ (List.mem_of_getElem? (i := 5) rfl))) (g := (mkF m 92 #[.val (.long q0), .second, .val (.int p1), .val (.int p2), .val (.int p3), .val (.ref b1), .val (.int (vO p1)), .unset, .unset, .unset, .unset, .unset, .unset] [(.int p2)])) rfl (hb hby at_92) _ ?_
  show Steps p.tables e below (T17.setTop (mkF m 94 #[.val (.long q0), .second, .val (.int p1), .val (.int p2), .val (.int p3), .val (.ref b1), .val (.int (vO p1)), .unset, .unset, .unset, .unset, .unset, .unset] [(.int (2147483647 : Int32)), (.int p2)])) _
  refine XS.iand X17.here hx rfl (hb hby at_94) rfl ?_
  show Steps p.tables e below (T17.setTop (mkF m 95 #[.val (.long q0), .second, .val (.int p1), .val (.int p2), .val (.int p3), .val (.ref b1), .val (.int (vO p1)), .unset, .unset, .unset, .unset, .unset, .unset] [(.int (p2 &&& (2147483647 : Int32)))])) _
  refine XS.bipush X17.here hx rfl (hb hby at_95) ?_
  show Steps p.tables e below (T17.setTop (mkF m 97 #[.val (.long q0), .second, .val (.int p1), .val (.int p2), .val (.int p3), .val (.ref b1), .val (.int (vO p1)), .unset, .unset, .unset, .unset, .unset, .unset] [(.int (9 : Int32)), (.int (p2 &&& (2147483647 : Int32)))])) _
  refine XS.iload X17.here hx rfl (hb hby at_97) rfl ?_
  show Steps p.tables e below (T17.setTop (mkF m 99 #[.val (.long q0), .second, .val (.int p1), .val (.int p2), .val (.int p3), .val (.ref b1), .val (.int (vO p1)), .unset, .unset, .unset, .unset, .unset, .unset] [(.int (vO p1)), (.int (9 : Int32)), (.int (p2 &&& (2147483647 : Int32)))])) _
  refine XS.isub X17.here hx rfl (hb hby at_99) rfl ?_
  show Steps p.tables e below (T17.setTop (mkF m 100 #[.val (.long q0), .second, .val (.int p1), .val (.int p2), .val (.int p3), .val (.ref b1), .val (.int (vO p1)), .unset, .unset, .unset, .unset, .unset, .unset] [(.int ((9 : Int32) - (vO p1))), (.int (p2 &&& (2147483647 : Int32)))])) _
  refine XS.irem X17.here hx rfl (hb hby at_100) rfl (own_nz p1) ?_
  show Steps p.tables e below (T17.setTop (mkF m 101 #[.val (.long q0), .second, .val (.int p1), .val (.int p2), .val (.int p3), .val (.ref b1), .val (.int (vO p1)), .unset, .unset, .unset, .unset, .unset, .unset] [(.int ((p2 &&& (2147483647 : Int32)) - ((p2 &&& (2147483647 : Int32)) / ((9 : Int32) - (vO p1))) * ((9 : Int32) - (vO p1))))])) _
  refine XS.istore X17.here hx rfl (hb hby at_101) rfl (l' := #[.val (.long q0), .second, .val (.int p1), .val (.int p2), .val (.int p3), .val (.ref b1), .val (.int (vO p1)), .val (.int ((p2 &&& (2147483647 : Int32)) - ((p2 &&& (2147483647 : Int32)) / ((9 : Int32) - (vO p1))) * ((9 : Int32) - (vO p1)))), .unset, .unset, .unset, .unset, .unset]) rfl ?_
  show Steps p.tables e below (T17.setTop (mkF m 103 #[.val (.long q0), .second, .val (.int p1), .val (.int p2), .val (.int p3), .val (.ref b1), .val (.int (vO p1)), .val (.int (vLen p1 p2)), .unset, .unset, .unset, .unset, .unset] [])) _
  refine XS.iload X17.here hx rfl (hb hby at_103) rfl ?_
  show Steps p.tables e below (T17.setTop (mkF m 105 #[.val (.long q0), .second, .val (.int p1), .val (.int p2), .val (.int p3), .val (.ref b1), .val (.int (vO p1)), .val (.int (vLen p1 p2)), .unset, .unset, .unset, .unset, .unset] [(.int p3)])) _
  refine XS.bipush X17.here hx rfl (hb hby at_105) ?_
  show Steps p.tables e below (T17.setTop (mkF m 107 #[.val (.long q0), .second, .val (.int p1), .val (.int p2), .val (.int p3), .val (.ref b1), .val (.int (vO p1)), .val (.int (vLen p1 p2)), .unset, .unset, .unset, .unset, .unset] [(.int (7 : Int32)), (.int p3)])) _
  refine XS.iand X17.here hx rfl (hb hby at_107) rfl ?_
  show Steps p.tables e below (T17.setTop (mkF m 108 #[.val (.long q0), .second, .val (.int p1), .val (.int p2), .val (.int p3), .val (.ref b1), .val (.int (vO p1)), .val (.int (vLen p1 p2)), .unset, .unset, .unset, .unset, .unset] [(.int (p3 &&& (7 : Int32)))])) _
  refine XS.iconst X17.here hx rfl (hb hby at_108) ?_
  show Steps p.tables e below (T17.setTop (mkF m 109 #[.val (.long q0), .second, .val (.int p1), .val (.int p2), .val (.int p3), .val (.ref b1), .val (.int (vO p1)), .val (.int (vLen p1 p2)), .unset, .unset, .unset, .unset, .unset] [(.int (5 : Int32)), (.int (p3 &&& (7 : Int32)))])) _
  refine XS.irem X17.here hx rfl (hb hby at_109) rfl (by decide) ?_
  show Steps p.tables e below (T17.setTop (mkF m 110 #[.val (.long q0), .second, .val (.int p1), .val (.int p2), .val (.int p3), .val (.ref b1), .val (.int (vO p1)), .val (.int (vLen p1 p2)), .unset, .unset, .unset, .unset, .unset] [(.int ((p3 &&& (7 : Int32)) - ((p3 &&& (7 : Int32)) / (5 : Int32)) * (5 : Int32)))])) _
  refine XS.iload X17.here hx rfl (hb hby at_110) rfl ?_
  show Steps p.tables e below (T17.setTop (mkF m 112 #[.val (.long q0), .second, .val (.int p1), .val (.int p2), .val (.int p3), .val (.ref b1), .val (.int (vO p1)), .val (.int (vLen p1 p2)), .unset, .unset, .unset, .unset, .unset] [(.int (vLen p1 p2)), (.int ((p3 &&& (7 : Int32)) - ((p3 &&& (7 : Int32)) / (5 : Int32)) * (5 : Int32)))])) _
  refine st18 _ ?_
  show Steps p.tables e below (T18.setTop (mkF m 115 #[.val (.long q0), .second, .val (.int p1), .val (.int p2), .val (.int p3), .val (.ref b1), .val (.int (vO p1)), .val (.int (vLen p1 p2)), .unset, .unset, .unset, .unset, .unset] [(.int (F2_0 ((p3 &&& (7 : Int32)) - ((p3 &&& (7 : Int32)) / (5 : Int32)) * (5 : Int32)) (vLen p1 p2)))])) _
  refine XS.istore X18.here hx rfl (hb hby at_115) rfl (l' := #[.val (.long q0), .second, .val (.int p1), .val (.int p2), .val (.int p3), .val (.ref b1), .val (.int (vO p1)), .val (.int (vLen p1 p2)), .val (.int (F2_0 ((p3 &&& (7 : Int32)) - ((p3 &&& (7 : Int32)) / (5 : Int32)) * (5 : Int32)) (vLen p1 p2))), .unset, .unset, .unset, .unset]) rfl ?_
  show Steps p.tables e below (T18.setTop (mkF m 117 #[.val (.long q0), .second, .val (.int p1), .val (.int p2), .val (.int p3), .val (.ref b1), .val (.int (vO p1)), .val (.int (vLen p1 p2)), .val (.int (vN p1 p2 p3)), .unset, .unset, .unset, .unset] [])) _
  refine st19 _ ?_
  show Steps p.tables e below (T19.setTop (mkF m 120 #[.val (.long q0), .second, .val (.int p1), .val (.int p2), .val (.int p3), .val (.ref b1), .val (.int (vO p1)), .val (.int (vLen p1 p2)), .val (.int (vN p1 p2 p3)), .unset, .unset, .unset, .unset] [(.ref b19)])) _
  refine XS.dup X19.here hx rfl (hb hby at_120) rfl rfl ?_
  show Steps p.tables e below (T19.setTop (mkF m 121 #[.val (.long q0), .second, .val (.int p1), .val (.int p2), .val (.int p3), .val (.ref b1), .val (.int (vO p1)), .val (.int (vLen p1 p2)), .val (.int (vN p1 p2 p3)), .unset, .unset, .unset, .unset] [(.ref b19), (.ref b19)])) _
  refine XS.aload X19.here hx rfl (hb hby at_121) rfl rfl ?_
  show Steps p.tables e below (T19.setTop (mkF m 123 #[.val (.long q0), .second, .val (.int p1), .val (.int p2), .val (.int p3), .val (.ref b1), .val (.int (vO p1)), .val (.int (vLen p1 p2)), .val (.int (vN p1 p2 p3)), .unset, .unset, .unset, .unset] [(.ref b1), (.ref b19), (.ref b19)])) _
  refine XS.iload X19.here hx rfl (hb hby at_123) rfl ?_
  show Steps p.tables e below (T19.setTop (mkF m 125 #[.val (.long q0), .second, .val (.int p1), .val (.int p2), .val (.int p3), .val (.ref b1), .val (.int (vO p1)), .val (.int (vLen p1 p2)), .val (.int (vN p1 p2 p3)), .unset, .unset, .unset, .unset] [(.int (vO p1)), (.ref b1), (.ref b19), (.ref b19)])) _
  refine XS.iload X19.here hx rfl (hb hby at_125) rfl ?_
  show Steps p.tables e below (T19.setTop (mkF m 127 #[.val (.long q0), .second, .val (.int p1), .val (.int p2), .val (.int p3), .val (.ref b1), .val (.int (vO p1)), .val (.int (vLen p1 p2)), .val (.int (vN p1 p2 p3)), .unset, .unset, .unset, .unset] [(.int (vLen p1 p2)), (.int (vO p1)), (.ref b1), (.ref b19), (.ref b19)])) _
  refine st20.trans ?_
  show Steps p.tables e below (T20.setTop (mkF m 130 #[.val (.long q0), .second, .val (.int p1), .val (.int p2), .val (.int p3), .val (.ref b1), .val (.int (vO p1)), .val (.int (vLen p1 p2)), .val (.int (vN p1 p2 p3)), .unset, .unset, .unset, .unset] [(.ref b19)])) _
  refine XS.astore X20.here hx rfl (hb hby at_130) rfl rfl (l' := #[.val (.long q0), .second, .val (.int p1), .val (.int p2), .val (.int p3), .val (.ref b1), .val (.int (vO p1)), .val (.int (vLen p1 p2)), .val (.int (vN p1 p2 p3)), .val (.ref b19), .unset, .unset, .unset]) rfl ?_
  show Steps p.tables e below (T20.setTop (mkF m 132 #[.val (.long q0), .second, .val (.int p1), .val (.int p2), .val (.int p3), .val (.ref b1), .val (.int (vO p1)), .val (.int (vLen p1 p2)), .val (.int (vN p1 p2 p3)), .val (.ref b19), .unset, .unset, .unset] [])) _
  refine XS.iconst X20.here hx rfl (hb hby at_132) ?_
  show Steps p.tables e below (T20.setTop (mkF m 133 #[.val (.long q0), .second, .val (.int p1), .val (.int p2), .val (.int p3), .val (.ref b1), .val (.int (vO p1)), .val (.int (vLen p1 p2)), .val (.int (vN p1 p2 p3)), .val (.ref b19), .unset, .unset, .unset] [(.int (1 : Int32))])) _
  refine XS.istore X20.here hx rfl (hb hby at_133) rfl (l' := #[.val (.long q0), .second, .val (.int p1), .val (.int p2), .val (.int p3), .val (.ref b1), .val (.int (vO p1)), .val (.int (vLen p1 p2)), .val (.int (vN p1 p2 p3)), .val (.ref b19), .val (.int (1 : Int32)), .unset, .unset]) rfl ?_
  show Steps p.tables e below (T20.setTop (mkF m 135 #[.val (.long q0), .second, .val (.int p1), .val (.int p2), .val (.int p3), .val (.ref b1), .val (.int (vO p1)), .val (.int (vLen p1 p2)), .val (.int (vN p1 p2 p3)), .val (.ref b19), .val (.int (1 : Int32)), .unset, .unset] [])) _
  refine XS.iload X20.here hx rfl (hb hby at_135) rfl ?_
  show Steps p.tables e below (T20.setTop (mkF m 137 #[.val (.long q0), .second, .val (.int p1), .val (.int p2), .val (.int p3), .val (.ref b1), .val (.int (vO p1)), .val (.int (vLen p1 p2)), .val (.int (vN p1 p2 p3)), .val (.ref b19), .val (.int (1 : Int32)), .unset, .unset] [(.int (vN p1 p2 p3))])) _
  refine XS.iconst X20.here hx rfl (hb hby at_137) ?_
  show Steps p.tables e below (T20.setTop (mkF m 138 #[.val (.long q0), .second, .val (.int p1), .val (.int p2), .val (.int p3), .val (.ref b1), .val (.int (vO p1)), .val (.int (vLen p1 p2)), .val (.int (vN p1 p2 p3)), .val (.ref b19), .val (.int (1 : Int32)), .unset, .unset] [(.int (1 : Int32)), (.int (vN p1 p2 p3))])) _
  refine XS.icmpNo X20.here hx rfl (hb hby at_138) rfl (flt hc138).1 ?_
  show Steps p.tables e below (T20.setTop (mkF m 141 #[.val (.long q0), .second, .val (.int p1), .val (.int p2), .val (.int p3), .val (.ref b1), .val (.int (vO p1)), .val (.int (vLen p1 p2)), .val (.int (vN p1 p2 p3)), .val (.ref b19), .val (.int (1 : Int32)), .unset, .unset] [])) _
  refine XS.iload X20.here hx rfl (hb hby at_141) rfl ?_
  show Steps p.tables e below (T20.setTop (mkF m 143 #[.val (.long q0), .second, .val (.int p1), .val (.int p2), .val (.int p3), .val (.ref b1), .val (.int (vO p1)), .val (.int (vLen p1 p2)), .val (.int (vN p1 p2 p3)), .val (.ref b19), .val (.int (1 : Int32)), .unset, .unset] [(.int (1 : Int32))])) _
  refine XS.ifNo X20.here hx rfl (hb hby at_143) rfl ((if0 _ _).trans (feq (by decide)).1) ?_
  show Steps p.tables e below (T20.setTop (mkF m 146 #[.val (.long q0), .second, .val (.int p1), .val (.int p2), .val (.int p3), .val (.ref b1), .val (.int (vO p1)), .val (.int (vLen p1 p2)), .val (.int (vN p1 p2 p3)), .val (.ref b19), .val (.int (1 : Int32)), .unset, .unset] [])) _
  refine XS.aload X20.here hx rfl (hb hby at_146) rfl rfl ?_
  show Steps p.tables e below (T20.setTop (mkF m 148 #[.val (.long q0), .second, .val (.int p1), .val (.int p2), .val (.int p3), .val (.ref b1), .val (.int (vO p1)), .val (.int (vLen p1 p2)), .val (.int (vN p1 p2 p3)), .val (.ref b19), .val (.int (1 : Int32)), .unset, .unset] [(.ref b19)])) _
  refine st21.trans ?_
  show Steps p.tables e below (T21.setTop (mkF m 151 #[.val (.long q0), .second, .val (.int p1), .val (.int p2), .val (.int p3), .val (.ref b1), .val (.int (vO p1)), .val (.int (vLen p1 p2)), .val (.int (vN p1 p2 p3)), .val (.ref b19), .val (.int (1 : Int32)), .unset, .unset] [(.int (((bys q0).getD (vO p1).toNatClampNeg 0).toInt8.toInt32))])) _
  refine XS.lloadN X21.here hx rfl (hb hby at_151) rfl ?_
  show Steps p.tables e below (T21.setTop (mkF m 152 #[.val (.long q0), .second, .val (.int p1), .val (.int p2), .val (.int p3), .val (.ref b1), .val (.int (vO p1)), .val (.int (vLen p1 p2)), .val (.int (vN p1 p2 p3)), .val (.ref b19), .val (.int (1 : Int32)), .unset, .unset] [(.long q0), (.int (((bys q0).getD (vO p1).toNatClampNeg 0).toInt8.toInt32))])) _
  refine XS.iload X21.here hx rfl (hb hby at_152) rfl ?_
  show Steps p.tables e below (T21.setTop (mkF m 154 #[.val (.long q0), .second, .val (.int p1), .val (.int p2), .val (.int p3), .val (.ref b1), .val (.int (vO p1)), .val (.int (vLen p1 p2)), .val (.int (vN p1 p2 p3)), .val (.ref b19), .val (.int (1 : Int32)), .unset, .unset] [(.int (vO p1)), (.long q0), (.int (((bys q0).getD (vO p1).toNatClampNeg 0).toInt8.toInt32))])) _
  refine st22 _ ?_
  show Steps p.tables e below (T22.setTop (mkF m 157 #[.val (.long q0), .second, .val (.int p1), .val (.int p2), .val (.int p3), .val (.ref b1), .val (.int (vO p1)), .val (.int (vLen p1 p2)), .val (.int (vN p1 p2 p3)), .val (.ref b19), .val (.int (1 : Int32)), .unset, .unset] [(.int (F1_0 q0 (vO p1))), (.int (((bys q0).getD (vO p1).toNatClampNeg 0).toInt8.toInt32))])) _
  refine XS.icmpNo X22.here hx rfl (hb hby at_157) rfl (teq (own_cmp0 q0 p1 p2 p3 hc138)).2 ?_
  show Steps p.tables e below (T22.setTop (mkF m 160 #[.val (.long q0), .second, .val (.int p1), .val (.int p2), .val (.int p3), .val (.ref b1), .val (.int (vO p1)), .val (.int (vLen p1 p2)), .val (.int (vN p1 p2 p3)), .val (.ref b19), .val (.int (1 : Int32)), .unset, .unset] [])) _
  refine XS.iconst X22.here hx rfl (hb hby at_160) ?_
  show Steps p.tables e below (T22.setTop (mkF m 161 #[.val (.long q0), .second, .val (.int p1), .val (.int p2), .val (.int p3), .val (.ref b1), .val (.int (vO p1)), .val (.int (vLen p1 p2)), .val (.int (vN p1 p2 p3)), .val (.ref b19), .val (.int (1 : Int32)), .unset, .unset] [(.int (1 : Int32))])) _
  refine XS.goto X22.here hx rfl (pc0 := 161) (pc' := 165) rfl (hb hby at_161) (by decide) (by decide) ?_
  show Steps p.tables e below (T22.setTop (mkF m 165 #[.val (.long q0), .second, .val (.int p1), .val (.int p2), .val (.int p3), .val (.ref b1), .val (.int (vO p1)), .val (.int (vLen p1 p2)), .val (.int (vN p1 p2 p3)), .val (.ref b19), .val (.int (1 : Int32)), .unset, .unset] [(.int (1 : Int32))])) _
  refine XS.istore X22.here hx rfl (hb hby at_165) rfl (l' := #[.val (.long q0), .second, .val (.int p1), .val (.int p2), .val (.int p3), .val (.ref b1), .val (.int (vO p1)), .val (.int (vLen p1 p2)), .val (.int (vN p1 p2 p3)), .val (.ref b19), .val (.int (1 : Int32)), .unset, .unset]) rfl ?_
  show Steps p.tables e below (T22.setTop (mkF m 167 #[.val (.long q0), .second, .val (.int p1), .val (.int p2), .val (.int p3), .val (.ref b1), .val (.int (vO p1)), .val (.int (vLen p1 p2)), .val (.int (vN p1 p2 p3)), .val (.ref b19), .val (.int (1 : Int32)), .unset, .unset] [])) _
  refine XS.iload X22.here hx rfl (hb hby at_167) rfl ?_
  show Steps p.tables e below (T22.setTop (mkF m 169 #[.val (.long q0), .second, .val (.int p1), .val (.int p2), .val (.int p3), .val (.ref b1), .val (.int (vO p1)), .val (.int (vLen p1 p2)), .val (.int (vN p1 p2 p3)), .val (.ref b19), .val (.int (1 : Int32)), .unset, .unset] [(.int (vN p1 p2 p3))])) _
  refine XS.iconst X22.here hx rfl (hb hby at_169) ?_
  show Steps p.tables e below (T22.setTop (mkF m 170 #[.val (.long q0), .second, .val (.int p1), .val (.int p2), .val (.int p3), .val (.ref b1), .val (.int (vO p1)), .val (.int (vLen p1 p2)), .val (.int (vN p1 p2 p3)), .val (.ref b19), .val (.int (1 : Int32)), .unset, .unset] [(.int (2 : Int32)), (.int (vN p1 p2 p3))])) _
  refine XS.icmpNo X22.here hx rfl (hb hby at_170) rfl (flt hc170).1 ?_
  show Steps p.tables e below (T22.setTop (mkF m 173 #[.val (.long q0), .second, .val (.int p1), .val (.int p2), .val (.int p3), .val (.ref b1), .val (.int (vO p1)), .val (.int (vLen p1 p2)), .val (.int (vN p1 p2 p3)), .val (.ref b19), .val (.int (1 : Int32)), .unset, .unset] [])) _
  refine XS.iload X22.here hx rfl (hb hby at_173) rfl ?_
  show Steps p.tables e below (T22.setTop (mkF m 175 #[.val (.long q0), .second, .val (.int p1), .val (.int p2), .val (.int p3), .val (.ref b1), .val (.int (vO p1)), .val (.int (vLen p1 p2)), .val (.int (vN p1 p2 p3)), .val (.ref b19), .val (.int (1 : Int32)), .unset, .unset] [(.int (1 : Int32))])) _
  refine XS.ifNo X22.here hx rfl (hb hby at_175) rfl ((if0 _ _).trans (feq (by decide)).1) ?_
  show Steps p.tables e below (T22.setTop (mkF m 178 #[.val (.long q0), .second, .val (.int p1), .val (.int p2), .val (.int p3), .val (.ref b1), .val (.int (vO p1)), .val (.int (vLen p1 p2)), .val (.int (vN p1 p2 p3)), .val (.ref b19), .val (.int (1 : Int32)), .unset, .unset] [])) _
  refine XS.aload X22.here hx rfl (hb hby at_178) rfl rfl ?_
  show Steps p.tables e below (T22.setTop (mkF m 180 #[.val (.long q0), .second, .val (.int p1), .val (.int p2), .val (.int p3), .val (.ref b1), .val (.int (vO p1)), .val (.int (vLen p1 p2)), .val (.int (vN p1 p2 p3)), .val (.ref b19), .val (.int (1 : Int32)), .unset, .unset] [(.ref b19)])) _
  refine st23.trans ?_
  show Steps p.tables e below (T23.setTop (mkF m 183 #[.val (.long q0), .second, .val (.int p1), .val (.int p2), .val (.int p3), .val (.ref b1), .val (.int (vO p1)), .val (.int (vLen p1 p2)), .val (.int (vN p1 p2 p3)), .val (.ref b19), .val (.int (1 : Int32)), .unset, .unset] [(.int (((bys q0).getD ((vO p1) + (1 : Int32)).toNatClampNeg 0).toInt8.toInt32))])) _
  refine XS.lloadN X23.here hx rfl (hb hby at_183) rfl ?_
  show Steps p.tables e below (T23.setTop (mkF m 184 #[.val (.long q0), .second, .val (.int p1), .val (.int p2), .val (.int p3), .val (.ref b1), .val (.int (vO p1)), .val (.int (vLen p1 p2)), .val (.int (vN p1 p2 p3)), .val (.ref b19), .val (.int (1 : Int32)), .unset, .unset] [(.long q0), (.int (((bys q0).getD ((vO p1) + (1 : Int32)).toNatClampNeg 0).toInt8.toInt32))])) _
  refine XS.iload X23.here hx rfl (hb hby at_184) rfl ?_
  show Steps p.tables e below (T23.setTop (mkF m 186 #[.val (.long q0), .second, .val (.int p1), .val (.int p2), .val (.int p3), .val (.ref b1), .val (.int (vO p1)), .val (.int (vLen p1 p2)), .val (.int (vN p1 p2 p3)), .val (.ref b19), .val (.int (1 : Int32)), .unset, .unset] [(.int (vO p1)), (.long q0), (.int (((bys q0).getD ((vO p1) + (1 : Int32)).toNatClampNeg 0).toInt8.toInt32))])) _
  refine XS.iconst X23.here hx rfl (hb hby at_186) ?_
  show Steps p.tables e below (T23.setTop (mkF m 187 #[.val (.long q0), .second, .val (.int p1), .val (.int p2), .val (.int p3), .val (.ref b1), .val (.int (vO p1)), .val (.int (vLen p1 p2)), .val (.int (vN p1 p2 p3)), .val (.ref b19), .val (.int (1 : Int32)), .unset, .unset] [(.int (1 : Int32)), (.int (vO p1)), (.long q0), (.int (((bys q0).getD ((vO p1) + (1 : Int32)).toNatClampNeg 0).toInt8.toInt32))])) _
  refine XS.iadd X23.here hx rfl (hb hby at_187) rfl ?_
  show Steps p.tables e below (T23.setTop (mkF m 188 #[.val (.long q0), .second, .val (.int p1), .val (.int p2), .val (.int p3), .val (.ref b1), .val (.int (vO p1)), .val (.int (vLen p1 p2)), .val (.int (vN p1 p2 p3)), .val (.ref b19), .val (.int (1 : Int32)), .unset, .unset] [(.int ((vO p1) + (1 : Int32))), (.long q0), (.int (((bys q0).getD ((vO p1) + (1 : Int32)).toNatClampNeg 0).toInt8.toInt32))])) _
  refine st24 _ ?_
  show Steps p.tables e below (T24.setTop (mkF m 191 #[.val (.long q0), .second, .val (.int p1), .val (.int p2), .val (.int p3), .val (.ref b1), .val (.int (vO p1)), .val (.int (vLen p1 p2)), .val (.int (vN p1 p2 p3)), .val (.ref b19), .val (.int (1 : Int32)), .unset, .unset] [(.int (F1_0 q0 ((vO p1) + (1 : Int32)))), (.int (((bys q0).getD ((vO p1) + (1 : Int32)).toNatClampNeg 0).toInt8.toInt32))])) _
  refine XS.icmpNo X24.here hx rfl (hb hby at_191) rfl (teq (own_cmp1 q0 p1 p2 p3 hc170)).2 ?_
  show Steps p.tables e below (T24.setTop (mkF m 194 #[.val (.long q0), .second, .val (.int p1), .val (.int p2), .val (.int p3), .val (.ref b1), .val (.int (vO p1)), .val (.int (vLen p1 p2)), .val (.int (vN p1 p2 p3)), .val (.ref b19), .val (.int (1 : Int32)), .unset, .unset] [])) _
  refine XS.iconst X24.here hx rfl (hb hby at_194) ?_
  show Steps p.tables e below (T24.setTop (mkF m 195 #[.val (.long q0), .second, .val (.int p1), .val (.int p2), .val (.int p3), .val (.ref b1), .val (.int (vO p1)), .val (.int (vLen p1 p2)), .val (.int (vN p1 p2 p3)), .val (.ref b19), .val (.int (1 : Int32)), .unset, .unset] [(.int (1 : Int32))])) _
  refine XS.goto X24.here hx rfl (pc0 := 195) (pc' := 199) rfl (hb hby at_195) (by decide) (by decide) ?_
  show Steps p.tables e below (T24.setTop (mkF m 199 #[.val (.long q0), .second, .val (.int p1), .val (.int p2), .val (.int p3), .val (.ref b1), .val (.int (vO p1)), .val (.int (vLen p1 p2)), .val (.int (vN p1 p2 p3)), .val (.ref b19), .val (.int (1 : Int32)), .unset, .unset] [(.int (1 : Int32))])) _
  refine XS.istore X24.here hx rfl (hb hby at_199) rfl (l' := #[.val (.long q0), .second, .val (.int p1), .val (.int p2), .val (.int p3), .val (.ref b1), .val (.int (vO p1)), .val (.int (vLen p1 p2)), .val (.int (vN p1 p2 p3)), .val (.ref b19), .val (.int (1 : Int32)), .unset, .unset]) rfl ?_
  show Steps p.tables e below (T24.setTop (mkF m 201 #[.val (.long q0), .second, .val (.int p1), .val (.int p2), .val (.int p3), .val (.ref b1), .val (.int (vO p1)), .val (.int (vLen p1 p2)), .val (.int (vN p1 p2 p3)), .val (.ref b19), .val (.int (1 : Int32)), .unset, .unset] [])) _
  refine XS.iload X24.here hx rfl (hb hby at_201) rfl ?_
  show Steps p.tables e below (T24.setTop (mkF m 203 #[.val (.long q0), .second, .val (.int p1), .val (.int p2), .val (.int p3), .val (.ref b1), .val (.int (vO p1)), .val (.int (vLen p1 p2)), .val (.int (vN p1 p2 p3)), .val (.ref b19), .val (.int (1 : Int32)), .unset, .unset] [(.int (vN p1 p2 p3))])) _
  refine XS.iconst X24.here hx rfl (hb hby at_203) ?_
  show Steps p.tables e below (T24.setTop (mkF m 204 #[.val (.long q0), .second, .val (.int p1), .val (.int p2), .val (.int p3), .val (.ref b1), .val (.int (vO p1)), .val (.int (vLen p1 p2)), .val (.int (vN p1 p2 p3)), .val (.ref b19), .val (.int (1 : Int32)), .unset, .unset] [(.int (3 : Int32)), (.int (vN p1 p2 p3))])) _
  refine XS.icmpNo X24.here hx rfl (hb hby at_204) rfl (flt hc204).1 ?_
  show Steps p.tables e below (T24.setTop (mkF m 207 #[.val (.long q0), .second, .val (.int p1), .val (.int p2), .val (.int p3), .val (.ref b1), .val (.int (vO p1)), .val (.int (vLen p1 p2)), .val (.int (vN p1 p2 p3)), .val (.ref b19), .val (.int (1 : Int32)), .unset, .unset] [])) _
  refine XS.iload X24.here hx rfl (hb hby at_207) rfl ?_
  show Steps p.tables e below (T24.setTop (mkF m 209 #[.val (.long q0), .second, .val (.int p1), .val (.int p2), .val (.int p3), .val (.ref b1), .val (.int (vO p1)), .val (.int (vLen p1 p2)), .val (.int (vN p1 p2 p3)), .val (.ref b19), .val (.int (1 : Int32)), .unset, .unset] [(.int (1 : Int32))])) _
  refine XS.ifNo X24.here hx rfl (hb hby at_209) rfl ((if0 _ _).trans (feq (by decide)).1) ?_
  show Steps p.tables e below (T24.setTop (mkF m 212 #[.val (.long q0), .second, .val (.int p1), .val (.int p2), .val (.int p3), .val (.ref b1), .val (.int (vO p1)), .val (.int (vLen p1 p2)), .val (.int (vN p1 p2 p3)), .val (.ref b19), .val (.int (1 : Int32)), .unset, .unset] [])) _
  refine XS.aload X24.here hx rfl (hb hby at_212) rfl rfl ?_
  show Steps p.tables e below (T24.setTop (mkF m 214 #[.val (.long q0), .second, .val (.int p1), .val (.int p2), .val (.int p3), .val (.ref b1), .val (.int (vO p1)), .val (.int (vLen p1 p2)), .val (.int (vN p1 p2 p3)), .val (.ref b19), .val (.int (1 : Int32)), .unset, .unset] [(.ref b19)])) _
  refine st25.trans ?_
  show Steps p.tables e below (T25.setTop (mkF m 217 #[.val (.long q0), .second, .val (.int p1), .val (.int p2), .val (.int p3), .val (.ref b1), .val (.int (vO p1)), .val (.int (vLen p1 p2)), .val (.int (vN p1 p2 p3)), .val (.ref b19), .val (.int (1 : Int32)), .unset, .unset] [(.int (((bys q0).getD (((vO p1) + (1 : Int32)) + (1 : Int32)).toNatClampNeg 0).toInt8.toInt32))])) _
  refine XS.lloadN X25.here hx rfl (hb hby at_217) rfl ?_
  show Steps p.tables e below (T25.setTop (mkF m 218 #[.val (.long q0), .second, .val (.int p1), .val (.int p2), .val (.int p3), .val (.ref b1), .val (.int (vO p1)), .val (.int (vLen p1 p2)), .val (.int (vN p1 p2 p3)), .val (.ref b19), .val (.int (1 : Int32)), .unset, .unset] [(.long q0), (.int (((bys q0).getD (((vO p1) + (1 : Int32)) + (1 : Int32)).toNatClampNeg 0).toInt8.toInt32))])) _
  refine XS.iload X25.here hx rfl (hb hby at_218) rfl ?_
  show Steps p.tables e below (T25.setTop (mkF m 220 #[.val (.long q0), .second, .val (.int p1), .val (.int p2), .val (.int p3), .val (.ref b1), .val (.int (vO p1)), .val (.int (vLen p1 p2)), .val (.int (vN p1 p2 p3)), .val (.ref b19), .val (.int (1 : Int32)), .unset, .unset] [(.int (vO p1)), (.long q0), (.int (((bys q0).getD (((vO p1) + (1 : Int32)) + (1 : Int32)).toNatClampNeg 0).toInt8.toInt32))])) _
  refine XS.iconst X25.here hx rfl (hb hby at_220) ?_
  show Steps p.tables e below (T25.setTop (mkF m 221 #[.val (.long q0), .second, .val (.int p1), .val (.int p2), .val (.int p3), .val (.ref b1), .val (.int (vO p1)), .val (.int (vLen p1 p2)), .val (.int (vN p1 p2 p3)), .val (.ref b19), .val (.int (1 : Int32)), .unset, .unset] [(.int (2 : Int32)), (.int (vO p1)), (.long q0), (.int (((bys q0).getD (((vO p1) + (1 : Int32)) + (1 : Int32)).toNatClampNeg 0).toInt8.toInt32))])) _
  refine XS.iadd X25.here hx rfl (hb hby at_221) rfl ?_
  show Steps p.tables e below (T25.setTop (mkF m 222 #[.val (.long q0), .second, .val (.int p1), .val (.int p2), .val (.int p3), .val (.ref b1), .val (.int (vO p1)), .val (.int (vLen p1 p2)), .val (.int (vN p1 p2 p3)), .val (.ref b19), .val (.int (1 : Int32)), .unset, .unset] [(.int ((vO p1) + (2 : Int32))), (.long q0), (.int (((bys q0).getD (((vO p1) + (1 : Int32)) + (1 : Int32)).toNatClampNeg 0).toInt8.toInt32))])) _
  refine st26 _ ?_
  show Steps p.tables e below (T26.setTop (mkF m 225 #[.val (.long q0), .second, .val (.int p1), .val (.int p2), .val (.int p3), .val (.ref b1), .val (.int (vO p1)), .val (.int (vLen p1 p2)), .val (.int (vN p1 p2 p3)), .val (.ref b19), .val (.int (1 : Int32)), .unset, .unset] [(.int (F1_0 q0 ((vO p1) + (2 : Int32)))), (.int (((bys q0).getD (((vO p1) + (1 : Int32)) + (1 : Int32)).toNatClampNeg 0).toInt8.toInt32))])) _
  refine XS.icmpNo X26.here hx rfl (hb hby at_225) rfl (teq (own_cmp2 q0 p1 p2 p3 hc204)).2 ?_
  show Steps p.tables e below (T26.setTop (mkF m 228 #[.val (.long q0), .second, .val (.int p1), .val (.int p2), .val (.int p3), .val (.ref b1), .val (.int (vO p1)), .val (.int (vLen p1 p2)), .val (.int (vN p1 p2 p3)), .val (.ref b19), .val (.int (1 : Int32)), .unset, .unset] [])) _
  refine XS.iconst X26.here hx rfl (hb hby at_228) ?_
  show Steps p.tables e below (T26.setTop (mkF m 229 #[.val (.long q0), .second, .val (.int p1), .val (.int p2), .val (.int p3), .val (.ref b1), .val (.int (vO p1)), .val (.int (vLen p1 p2)), .val (.int (vN p1 p2 p3)), .val (.ref b19), .val (.int (1 : Int32)), .unset, .unset] [(.int (1 : Int32))])) _
  refine XS.goto X26.here hx rfl (pc0 := 229) (pc' := 233) rfl (hb hby at_229) (by decide) (by decide) ?_
  show Steps p.tables e below (T26.setTop (mkF m 233 #[.val (.long q0), .second, .val (.int p1), .val (.int p2), .val (.int p3), .val (.ref b1), .val (.int (vO p1)), .val (.int (vLen p1 p2)), .val (.int (vN p1 p2 p3)), .val (.ref b19), .val (.int (1 : Int32)), .unset, .unset] [(.int (1 : Int32))])) _
  refine XS.istore X26.here hx rfl (hb hby at_233) rfl (l' := #[.val (.long q0), .second, .val (.int p1), .val (.int p2), .val (.int p3), .val (.ref b1), .val (.int (vO p1)), .val (.int (vLen p1 p2)), .val (.int (vN p1 p2 p3)), .val (.ref b19), .val (.int (1 : Int32)), .unset, .unset]) rfl ?_
  show Steps p.tables e below (T26.setTop (mkF m 235 #[.val (.long q0), .second, .val (.int p1), .val (.int p2), .val (.int p3), .val (.ref b1), .val (.int (vO p1)), .val (.int (vLen p1 p2)), .val (.int (vN p1 p2 p3)), .val (.ref b19), .val (.int (1 : Int32)), .unset, .unset] [])) _
  refine XS.iload X26.here hx rfl (hb hby at_235) rfl ?_
  show Steps p.tables e below (T26.setTop (mkF m 237 #[.val (.long q0), .second, .val (.int p1), .val (.int p2), .val (.int p3), .val (.ref b1), .val (.int (vO p1)), .val (.int (vLen p1 p2)), .val (.int (vN p1 p2 p3)), .val (.ref b19), .val (.int (1 : Int32)), .unset, .unset] [(.int (vN p1 p2 p3))])) _
  refine XS.iconst X26.here hx rfl (hb hby at_237) ?_
  show Steps p.tables e below (T26.setTop (mkF m 238 #[.val (.long q0), .second, .val (.int p1), .val (.int p2), .val (.int p3), .val (.ref b1), .val (.int (vO p1)), .val (.int (vLen p1 p2)), .val (.int (vN p1 p2 p3)), .val (.ref b19), .val (.int (1 : Int32)), .unset, .unset] [(.int (4 : Int32)), (.int (vN p1 p2 p3))])) _
  refine XS.icmpNo X26.here hx rfl (hb hby at_238) rfl (flt hc238).1 ?_
  show Steps p.tables e below (T26.setTop (mkF m 241 #[.val (.long q0), .second, .val (.int p1), .val (.int p2), .val (.int p3), .val (.ref b1), .val (.int (vO p1)), .val (.int (vLen p1 p2)), .val (.int (vN p1 p2 p3)), .val (.ref b19), .val (.int (1 : Int32)), .unset, .unset] [])) _
  refine XS.iload X26.here hx rfl (hb hby at_241) rfl ?_
  show Steps p.tables e below (T26.setTop (mkF m 243 #[.val (.long q0), .second, .val (.int p1), .val (.int p2), .val (.int p3), .val (.ref b1), .val (.int (vO p1)), .val (.int (vLen p1 p2)), .val (.int (vN p1 p2 p3)), .val (.ref b19), .val (.int (1 : Int32)), .unset, .unset] [(.int (1 : Int32))])) _
  refine XS.ifNo X26.here hx rfl (hb hby at_243) rfl ((if0 _ _).trans (feq (by decide)).1) ?_
  show Steps p.tables e below (T26.setTop (mkF m 246 #[.val (.long q0), .second, .val (.int p1), .val (.int p2), .val (.int p3), .val (.ref b1), .val (.int (vO p1)), .val (.int (vLen p1 p2)), .val (.int (vN p1 p2 p3)), .val (.ref b19), .val (.int (1 : Int32)), .unset, .unset] [])) _
  refine XS.aload X26.here hx rfl (hb hby at_246) rfl rfl ?_
  show Steps p.tables e below (T26.setTop (mkF m 248 #[.val (.long q0), .second, .val (.int p1), .val (.int p2), .val (.int p3), .val (.ref b1), .val (.int (vO p1)), .val (.int (vLen p1 p2)), .val (.int (vN p1 p2 p3)), .val (.ref b19), .val (.int (1 : Int32)), .unset, .unset] [(.ref b19)])) _
  refine st27.trans ?_
  show Steps p.tables e below (T27.setTop (mkF m 251 #[.val (.long q0), .second, .val (.int p1), .val (.int p2), .val (.int p3), .val (.ref b1), .val (.int (vO p1)), .val (.int (vLen p1 p2)), .val (.int (vN p1 p2 p3)), .val (.ref b19), .val (.int (1 : Int32)), .unset, .unset] [(.int (((bys q0).getD ((((vO p1) + (1 : Int32)) + (1 : Int32)) + (1 : Int32)).toNatClampNeg 0).toInt8.toInt32))])) _
  refine XS.lloadN X27.here hx rfl (hb hby at_251) rfl ?_
  show Steps p.tables e below (T27.setTop (mkF m 252 #[.val (.long q0), .second, .val (.int p1), .val (.int p2), .val (.int p3), .val (.ref b1), .val (.int (vO p1)), .val (.int (vLen p1 p2)), .val (.int (vN p1 p2 p3)), .val (.ref b19), .val (.int (1 : Int32)), .unset, .unset] [(.long q0), (.int (((bys q0).getD ((((vO p1) + (1 : Int32)) + (1 : Int32)) + (1 : Int32)).toNatClampNeg 0).toInt8.toInt32))])) _
  refine XS.iload X27.here hx rfl (hb hby at_252) rfl ?_
  show Steps p.tables e below (T27.setTop (mkF m 254 #[.val (.long q0), .second, .val (.int p1), .val (.int p2), .val (.int p3), .val (.ref b1), .val (.int (vO p1)), .val (.int (vLen p1 p2)), .val (.int (vN p1 p2 p3)), .val (.ref b19), .val (.int (1 : Int32)), .unset, .unset] [(.int (vO p1)), (.long q0), (.int (((bys q0).getD ((((vO p1) + (1 : Int32)) + (1 : Int32)) + (1 : Int32)).toNatClampNeg 0).toInt8.toInt32))])) _
  refine XS.iconst X27.here hx rfl (hb hby at_254) ?_
  show Steps p.tables e below (T27.setTop (mkF m 255 #[.val (.long q0), .second, .val (.int p1), .val (.int p2), .val (.int p3), .val (.ref b1), .val (.int (vO p1)), .val (.int (vLen p1 p2)), .val (.int (vN p1 p2 p3)), .val (.ref b19), .val (.int (1 : Int32)), .unset, .unset] [(.int (3 : Int32)), (.int (vO p1)), (.long q0), (.int (((bys q0).getD ((((vO p1) + (1 : Int32)) + (1 : Int32)) + (1 : Int32)).toNatClampNeg 0).toInt8.toInt32))])) _
  refine XS.iadd X27.here hx rfl (hb hby at_255) rfl ?_
  show Steps p.tables e below (T27.setTop (mkF m 256 #[.val (.long q0), .second, .val (.int p1), .val (.int p2), .val (.int p3), .val (.ref b1), .val (.int (vO p1)), .val (.int (vLen p1 p2)), .val (.int (vN p1 p2 p3)), .val (.ref b19), .val (.int (1 : Int32)), .unset, .unset] [(.int ((vO p1) + (3 : Int32))), (.long q0), (.int (((bys q0).getD ((((vO p1) + (1 : Int32)) + (1 : Int32)) + (1 : Int32)).toNatClampNeg 0).toInt8.toInt32))])) _
  refine st28 _ ?_
  show Steps p.tables e below (T28.setTop (mkF m 259 #[.val (.long q0), .second, .val (.int p1), .val (.int p2), .val (.int p3), .val (.ref b1), .val (.int (vO p1)), .val (.int (vLen p1 p2)), .val (.int (vN p1 p2 p3)), .val (.ref b19), .val (.int (1 : Int32)), .unset, .unset] [(.int (F1_0 q0 ((vO p1) + (3 : Int32)))), (.int (((bys q0).getD ((((vO p1) + (1 : Int32)) + (1 : Int32)) + (1 : Int32)).toNatClampNeg 0).toInt8.toInt32))])) _
  refine XS.icmpNo X28.here hx rfl (hb hby at_259) rfl (teq (own_cmp3 q0 p1 p2 p3 hc238)).2 ?_
  show Steps p.tables e below (T28.setTop (mkF m 262 #[.val (.long q0), .second, .val (.int p1), .val (.int p2), .val (.int p3), .val (.ref b1), .val (.int (vO p1)), .val (.int (vLen p1 p2)), .val (.int (vN p1 p2 p3)), .val (.ref b19), .val (.int (1 : Int32)), .unset, .unset] [])) _
  refine XS.iconst X28.here hx rfl (hb hby at_262) ?_
  show Steps p.tables e below (T28.setTop (mkF m 263 #[.val (.long q0), .second, .val (.int p1), .val (.int p2), .val (.int p3), .val (.ref b1), .val (.int (vO p1)), .val (.int (vLen p1 p2)), .val (.int (vN p1 p2 p3)), .val (.ref b19), .val (.int (1 : Int32)), .unset, .unset] [(.int (1 : Int32))])) _
  refine XS.goto X28.here hx rfl (pc0 := 263) (pc' := 267) rfl (hb hby at_263) (by decide) (by decide) ?_
  show Steps p.tables e below (T28.setTop (mkF m 267 #[.val (.long q0), .second, .val (.int p1), .val (.int p2), .val (.int p3), .val (.ref b1), .val (.int (vO p1)), .val (.int (vLen p1 p2)), .val (.int (vN p1 p2 p3)), .val (.ref b19), .val (.int (1 : Int32)), .unset, .unset] [(.int (1 : Int32))])) _
  refine XS.istore X28.here hx rfl (hb hby at_267) rfl (l' := #[.val (.long q0), .second, .val (.int p1), .val (.int p2), .val (.int p3), .val (.ref b1), .val (.int (vO p1)), .val (.int (vLen p1 p2)), .val (.int (vN p1 p2 p3)), .val (.ref b19), .val (.int (1 : Int32)), .unset, .unset]) rfl ?_
  show Steps p.tables e below (T28.setTop (mkF m 269 #[.val (.long q0), .second, .val (.int p1), .val (.int p2), .val (.int p3), .val (.ref b1), .val (.int (vO p1)), .val (.int (vLen p1 p2)), .val (.int (vN p1 p2 p3)), .val (.ref b19), .val (.int (1 : Int32)), .unset, .unset] [])) _
  refine XS.aload X28.here hx rfl (hb hby at_269) rfl rfl ?_
  show Steps p.tables e below (T28.setTop (mkF m 271 #[.val (.long q0), .second, .val (.int p1), .val (.int p2), .val (.int p3), .val (.ref b1), .val (.int (vO p1)), .val (.int (vLen p1 p2)), .val (.int (vN p1 p2 p3)), .val (.ref b19), .val (.int (1 : Int32)), .unset, .unset] [(.ref b19)])) _
  refine X28.ldc2Long hx hown20 (mvT hZ20 (hw _ (List.mem_of_getElem? (i := 52) rfl))) (g := (mkF m 271 #[.val (.long q0), .second, .val (.int p1), .val (.int p2), .val (.int p3), .val (.ref b1), .val (.int (vO p1)), .val (.int (vLen p1 p2)), .val (.int (vN p1 p2 p3)), .val (.ref b19), .val (.int (1 : Int32)), .unset, .unset] [(.ref b19)])) rfl (hb hby at_271) _ ?_
  show Steps p.tables e below (T28.setTop (mkF m 274 #[.val (.long q0), .second, .val (.int p1), .val (.int p2), .val (.int p3), .val (.ref b1), .val (.int (vO p1)), .val (.int (vLen p1 p2)), .val (.int (vN p1 p2 p3)), .val (.ref b19), .val (.int (1 : Int32)), .unset, .unset] [(.long (8 : Int64)), (.ref b19)])) _
  refine st29.trans ?_
  show Steps p.tables e below (T29.setTop (mkF m 277 #[.val (.long q0), .second, .val (.int p1), .val (.int p2), .val (.int p3), .val (.ref b1), .val (.int (vO p1)), .val (.int (vLen p1 p2)), .val (.int (vN p1 p2 p3)), .val (.ref b19), .val (.int (1 : Int32)), .unset, .unset] [(.long (((F11_0 (8 : Int64) ((((vO p1) + (vLen p1 p2)) - (((((vO p1) + (1 : Int32)) + (1 : Int32)) + (1 : Int32)) + (1 : Int32))).toInt64)).toInt32).toInt64))])) _
  refine XS.lstore X29.here hx rfl (hb hby at_277) rfl (l' := #[.val (.long q0), .second, .val (.int p1), .val (.int p2), .val (.int p3), .val (.ref b1), .val (.int (vO p1)), .val (.int (vLen p1 p2)), .val (.int (vN p1 p2 p3)), .val (.ref b19), .val (.int (1 : Int32)), .val (.long (((F11_0 (8 : Int64) ((((vO p1) + (vLen p1 p2)) - (((((vO p1) + (1 : Int32)) + (1 : Int32)) + (1 : Int32)) + (1 : Int32))).toInt64)).toInt32).toInt64)), .second]) rfl ?_
  show Steps p.tables e below (T29.setTop (mkF m 279 #[.val (.long q0), .second, .val (.int p1), .val (.int p2), .val (.int p3), .val (.ref b1), .val (.int (vO p1)), .val (.int (vLen p1 p2)), .val (.int (vN p1 p2 p3)), .val (.ref b19), .val (.int (1 : Int32)), .val (.long (((F11_0 (8 : Int64) ((((vO p1) + (vLen p1 p2)) - (((((vO p1) + (1 : Int32)) + (1 : Int32)) + (1 : Int32)) + (1 : Int32))).toInt64)).toInt32).toInt64)), .second] [])) _
  refine XS.iload X29.here hx rfl (hb hby at_279) rfl ?_
  show Steps p.tables e below (T29.setTop (mkF m 281 #[.val (.long q0), .second, .val (.int p1), .val (.int p2), .val (.int p3), .val (.ref b1), .val (.int (vO p1)), .val (.int (vLen p1 p2)), .val (.int (vN p1 p2 p3)), .val (.ref b19), .val (.int (1 : Int32)), .val (.long (((F11_0 (8 : Int64) ((((vO p1) + (vLen p1 p2)) - (((((vO p1) + (1 : Int32)) + (1 : Int32)) + (1 : Int32)) + (1 : Int32))).toInt64)).toInt32).toInt64)), .second] [(.int (1 : Int32))])) _
  refine XS.ifNo X29.here hx rfl (hb hby at_281) rfl ((if0 _ _).trans (feq (by decide)).1) ?_
  show Steps p.tables e below (T29.setTop (mkF m 284 #[.val (.long q0), .second, .val (.int p1), .val (.int p2), .val (.int p3), .val (.ref b1), .val (.int (vO p1)), .val (.int (vLen p1 p2)), .val (.int (vN p1 p2 p3)), .val (.ref b19), .val (.int (1 : Int32)), .val (.long (((F11_0 (8 : Int64) ((((vO p1) + (vLen p1 p2)) - (((((vO p1) + (1 : Int32)) + (1 : Int32)) + (1 : Int32)) + (1 : Int32))).toInt64)).toInt32).toInt64)), .second] [])) _
  refine XS.lload X29.here hx rfl (hb hby at_284) rfl ?_
  show Steps p.tables e below (T29.setTop (mkF m 286 #[.val (.long q0), .second, .val (.int p1), .val (.int p2), .val (.int p3), .val (.ref b1), .val (.int (vO p1)), .val (.int (vLen p1 p2)), .val (.int (vN p1 p2 p3)), .val (.ref b19), .val (.int (1 : Int32)), .val (.long (((F11_0 (8 : Int64) ((((vO p1) + (vLen p1 p2)) - (((((vO p1) + (1 : Int32)) + (1 : Int32)) + (1 : Int32)) + (1 : Int32))).toInt64)).toInt32).toInt64)), .second] [(.long (((F11_0 (8 : Int64) ((((vO p1) + (vLen p1 p2)) - (((((vO p1) + (1 : Int32)) + (1 : Int32)) + (1 : Int32)) + (1 : Int32))).toInt64)).toInt32).toInt64))])) _
  refine XS.iload X29.here hx rfl (hb hby at_286) rfl ?_
  show Steps p.tables e below (T29.setTop (mkF m 288 #[.val (.long q0), .second, .val (.int p1), .val (.int p2), .val (.int p3), .val (.ref b1), .val (.int (vO p1)), .val (.int (vLen p1 p2)), .val (.int (vN p1 p2 p3)), .val (.ref b19), .val (.int (1 : Int32)), .val (.long (((F11_0 (8 : Int64) ((((vO p1) + (vLen p1 p2)) - (((((vO p1) + (1 : Int32)) + (1 : Int32)) + (1 : Int32)) + (1 : Int32))).toInt64)).toInt32).toInt64)), .second] [(.int (vLen p1 p2)), (.long (((F11_0 (8 : Int64) ((((vO p1) + (vLen p1 p2)) - (((((vO p1) + (1 : Int32)) + (1 : Int32)) + (1 : Int32)) + (1 : Int32))).toInt64)).toInt32).toInt64))])) _
  refine XS.iload X29.here hx rfl (hb hby at_288) rfl ?_
  show Steps p.tables e below (T29.setTop (mkF m 290 #[.val (.long q0), .second, .val (.int p1), .val (.int p2), .val (.int p3), .val (.ref b1), .val (.int (vO p1)), .val (.int (vLen p1 p2)), .val (.int (vN p1 p2 p3)), .val (.ref b19), .val (.int (1 : Int32)), .val (.long (((F11_0 (8 : Int64) ((((vO p1) + (vLen p1 p2)) - (((((vO p1) + (1 : Int32)) + (1 : Int32)) + (1 : Int32)) + (1 : Int32))).toInt64)).toInt32).toInt64)), .second] [(.int (vN p1 p2 p3)), (.int (vLen p1 p2)), (.long (((F11_0 (8 : Int64) ((((vO p1) + (vLen p1 p2)) - (((((vO p1) + (1 : Int32)) + (1 : Int32)) + (1 : Int32)) + (1 : Int32))).toInt64)).toInt32).toInt64))])) _
  refine XS.isub X29.here hx rfl (hb hby at_290) rfl ?_
  show Steps p.tables e below (T29.setTop (mkF m 291 #[.val (.long q0), .second, .val (.int p1), .val (.int p2), .val (.int p3), .val (.ref b1), .val (.int (vO p1)), .val (.int (vLen p1 p2)), .val (.int (vN p1 p2 p3)), .val (.ref b19), .val (.int (1 : Int32)), .val (.long (((F11_0 (8 : Int64) ((((vO p1) + (vLen p1 p2)) - (((((vO p1) + (1 : Int32)) + (1 : Int32)) + (1 : Int32)) + (1 : Int32))).toInt64)).toInt32).toInt64)), .second] [(.int ((vLen p1 p2) - (vN p1 p2 p3))), (.long (((F11_0 (8 : Int64) ((((vO p1) + (vLen p1 p2)) - (((((vO p1) + (1 : Int32)) + (1 : Int32)) + (1 : Int32)) + (1 : Int32))).toInt64)).toInt32).toInt64))])) _
  refine XS.i2l X29.here hx rfl (hb hby at_291) rfl ?_
  show Steps p.tables e below (T29.setTop (mkF m 292 #[.val (.long q0), .second, .val (.int p1), .val (.int p2), .val (.int p3), .val (.ref b1), .val (.int (vO p1)), .val (.int (vLen p1 p2)), .val (.int (vN p1 p2 p3)), .val (.ref b19), .val (.int (1 : Int32)), .val (.long (((F11_0 (8 : Int64) ((((vO p1) + (vLen p1 p2)) - (((((vO p1) + (1 : Int32)) + (1 : Int32)) + (1 : Int32)) + (1 : Int32))).toInt64)).toInt32).toInt64)), .second] [(.long (((vLen p1 p2) - (vN p1 p2 p3)).toInt64)), (.long (((F11_0 (8 : Int64) ((((vO p1) + (vLen p1 p2)) - (((((vO p1) + (1 : Int32)) + (1 : Int32)) + (1 : Int32)) + (1 : Int32))).toInt64)).toInt32).toInt64))])) _
  refine XS.lcmp X29.here hx rfl (hb hby at_292) rfl ?_
  show Steps p.tables e below (T29.setTop (mkF m 293 #[.val (.long q0), .second, .val (.int p1), .val (.int p2), .val (.int p3), .val (.ref b1), .val (.int (vO p1)), .val (.int (vLen p1 p2)), .val (.int (vN p1 p2 p3)), .val (.ref b19), .val (.int (1 : Int32)), .val (.long (((F11_0 (8 : Int64) ((((vO p1) + (vLen p1 p2)) - (((((vO p1) + (1 : Int32)) + (1 : Int32)) + (1 : Int32)) + (1 : Int32))).toInt64)).toInt32).toInt64)), .second] [(.int (lcmpW (((F11_0 (8 : Int64) ((((vO p1) + (vLen p1 p2)) - (((((vO p1) + (1 : Int32)) + (1 : Int32)) + (1 : Int32)) + (1 : Int32))).toInt64)).toInt32).toInt64) (((vLen p1 p2) - (vN p1 p2 p3)).toInt64)))])) _
  refine XS.ifNo X29.here hx rfl (hb hby at_293) rfl ((if0 _ _).trans (teq ((lw_eq _ _).mpr (own_rest4 p1 p2 p3 hc238))).2) ?_
  show Steps p.tables e below (T29.setTop (mkF m 296 #[.val (.long q0), .second, .val (.int p1), .val (.int p2), .val (.int p3), .val (.ref b1), .val (.int (vO p1)), .val (.int (vLen p1 p2)), .val (.int (vN p1 p2 p3)), .val (.ref b19), .val (.int (1 : Int32)), .val (.long (((F11_0 (8 : Int64) ((((vO p1) + (vLen p1 p2)) - (((((vO p1) + (1 : Int32)) + (1 : Int32)) + (1 : Int32)) + (1 : Int32))).toInt64)).toInt32).toInt64)), .second] [])) _
  refine XS.iconst X29.here hx rfl (hb hby at_296) ?_
  show Steps p.tables e below (T29.setTop (mkF m 297 #[.val (.long q0), .second, .val (.int p1), .val (.int p2), .val (.int p3), .val (.ref b1), .val (.int (vO p1)), .val (.int (vLen p1 p2)), .val (.int (vN p1 p2 p3)), .val (.ref b19), .val (.int (1 : Int32)), .val (.long (((F11_0 (8 : Int64) ((((vO p1) + (vLen p1 p2)) - (((((vO p1) + (1 : Int32)) + (1 : Int32)) + (1 : Int32)) + (1 : Int32))).toInt64)).toInt32).toInt64)), .second] [(.int (1 : Int32))])) _
  refine XS.goto X29.here hx rfl (pc0 := 297) (pc' := 301) rfl (hb hby at_297) (by decide) (by decide) ?_
  show Steps p.tables e below (T29.setTop (mkF m 301 #[.val (.long q0), .second, .val (.int p1), .val (.int p2), .val (.int p3), .val (.ref b1), .val (.int (vO p1)), .val (.int (vLen p1 p2)), .val (.int (vN p1 p2 p3)), .val (.ref b19), .val (.int (1 : Int32)), .val (.long (((F11_0 (8 : Int64) ((((vO p1) + (vLen p1 p2)) - (((((vO p1) + (1 : Int32)) + (1 : Int32)) + (1 : Int32)) + (1 : Int32))).toInt64)).toInt32).toInt64)), .second] [(.int (1 : Int32))])) _
  exact retN X29 hx (t := .boolean) Bd.returns (by simp) (hb hby at_301) hr
def Q_rm0 (Z : State) (q0 : Int64) (p1 : Int32) (p2 : Int32) (p3 : Int32) (h0 : Heap) (n0 : Nat) (v : Option Value) (h : Heap) (L : List Loc) : Prop := (v = some (.int (1 : Int32)) ∧ Fr n0 L)
set_option maxRecDepth 65536 in
set_option maxHeartbeats 40000000 in
theorem rm0 (l : Launch) (Z : State) (a0 : Array Value) (hw : ∀ d ∈ tables_1, d.before a0 Z = true) (ws : List Jvm.Cond) (q0 : Int64) (p1 : Int32) (p2 : Int32) (p3 : Int32) (h0 : Heap) (n0 : Nat) (Z0 : n0 ≤ h0.size) :
    MetFree l x (head1 (Jvm.Cond.code x code maxLocals ret :: ws) room_1) (fun a U => a = #[(.long q0), (.int p1), (.int p2), (.int p3)] ∧ Z.Warmed39 U.vm ∧ U.heap = h0) (fun _ _ _ _ _ => True) (fun _ U o U' => ∃ v L, o = .returned v ∧ Q_rm0 Z q0 p1 p2 p3 h0 n0 v U'.heap L ∧ ReturnedEndW U o U' L room_1.cells room_1.slots) := by
  by_cases c0 : (vN p1 p2 p3) < (1 : Int32)
  · exact rm0_0 l Z a0 hw ws q0 p1 p2 p3 h0 n0 Z0 c0 (own_mono c0 (by decide)) (own_mono c0 (by decide)) (own_mono c0 (by decide))
  · skip
    by_cases c1 : (vN p1 p2 p3) < (2 : Int32)
    · exact rm0_1 l Z a0 hw ws q0 p1 p2 p3 h0 n0 Z0 c0 c1 (own_mono c1 (by decide)) (own_mono c1 (by decide))
    · skip
      by_cases c2 : (vN p1 p2 p3) < (3 : Int32)
      · exact rm0_2 l Z a0 hw ws q0 p1 p2 p3 h0 n0 Z0 c0 c1 c2 (own_mono c2 (by decide))
      · skip
        by_cases c3 : (vN p1 p2 p3) < (4 : Int32)
        · exact rm0_3 l Z a0 hw ws q0 p1 p2 p3 h0 n0 Z0 c0 c1 c2 c3
        · skip
          exact rm0_4 l Z a0 hw ws q0 p1 p2 p3 h0 n0 Z0 c0 c1 c2 c3
set_option maxRecDepth 65536 in
set_option maxHeartbeats 40000000 in
theorem comes_1 {Post : Tables → Env → Array Value → State → Outcome → State → Prop} (hpost : ∀ tb e args s v u, (limb_1_1.after args s (.returned v) u = true ∧ limb_1_2.after args s (.returned v) u = true ∧ True) → ReturnedEndW s (.returned v) u (Jvm.fieldLocs frame_1_writes args s ++ Jvm.arrayLocs frame_1_arrays args s ++ Jvm.staticLocs frame_1_statics s) 16 2176 → Post tb e args s (.returned v) u) :
    ArmFor flags0 classFile x code maxLocals ret World_1 tables_1 room_1 Calls_1 rest_1 Pre_1 Post := by
  intro l hfl _ _ p e ha hc hk s m args below hf hA hF happ hP
  obtain ⟨hcalls, hrest, hpre⟩ := hP
  obtain ⟨-, -, -, hnamed, -, -, -, hat⟩ := (Spec.applies_iff hf).mp happ
  obtain ⟨hg, hn⟩ := and_e (Cond.before_iff.mp (show (Jvm.Cond.and given_1 narrow_1).before args s = true from hpre))
  obtain ⟨gc, g0⟩ := and_e hg
  obtain ⟨k0, g1⟩ := and_e g0
  obtain ⟨k1, g2⟩ := and_e g1
  obtain ⟨k2, g3⟩ := and_e g2
  have k3 := g3
  obtain ⟨w0, w1, w2, w3, rfl⟩ : ∃ w0 w1 w2 w3 : Value, args = #[w0, w1, w2, w3] := by
    have hs : args.size = 4 := by simpa [Cond.value, given_1] using gc
    obtain ⟨L⟩ := args
    match L, hs with
    | [w0, w1, w2, w3], _ => exact ⟨w0, w1, w2, w3, rfl⟩
  have hw := fun d (hd : d ∈ tables_1) => atoms_spec (ws := Jvm.Cond.code x code maxLocals ret :: tables_1) hat d (List.mem_cons_of_mem _ hd)
  obtain ⟨i0, ei0⟩ := isL_v k0
  obtain rfl : w0 = (.long i0) := Option.some.inj ei0
  obtain ⟨i1, ei1⟩ := is_v k1
  obtain rfl : w1 = (.int i1) := Option.some.inj ei1
  obtain ⟨i2, ei2⟩ := is_v k2
  obtain rfl : w2 = (.int i2) := Option.some.inj ei2
  obtain ⟨i3, ei3⟩ := is_v k3
  obtain rfl : w3 = (.int i3) := Option.some.inj ei3
  obtain ⟨n, o, h1, h2, h3, _, L, rfl, ⟨rfl, N⟩, hq⟩ := rm0 l s _ hw tables_1 i0 i1 i2 i3 s.heap s.heap.size (Nat.le_refl _) p e ha hc hk s m _ below hf ((Spec.applies_iff_loose hf).mp happ).1 ⟨rfl, State.Warmed39.refl s, rfl⟩ trivial
  refine ⟨n, _, h1, h2, h3, hpost _ _ _ _ _ _ ⟨Cond.after_iff.mpr rfl, Cond.after_iff.mpr (eq_i res_at (Term.int_eval (1)) rfl), trivial⟩ ⟨hq.1, hq.2.1, hq.2.2.1, (hq.2.2.2.sift fun y hy => Or.inr (N y hy)).mono (by decide) (by decide)⟩⟩
theorem main_1_1 : Claimed_1_1 := comes_1 fun _ _ _ _ _ _ h hF => ⟨h.1, hF⟩
theorem main_1_2 : Claimed_1_2 := comes_1 fun _ _ _ _ _ _ h hF => ⟨h.2.1, hF⟩
end Jvm.Pilot.@@N@@
namespace Jvm.Pilot.@@N@@
open Jvm Jvm.ClassFile Sem Op Lib Jvm.Free Jvm.Stand Jvm.Pilot.@@N@@.Jvm.D
/-! MADE BY PROGRAM (witnessworld.py) out of the Statement's table words and the real class files: 18 classes; the members and pool entries that the words name. The judged class is class 1, her method 2. -/
namespace start1
open Jvm.ClassFile
def u (s : String) : CpInfo := .utf8 (stringToUtf16 s)
/-- a pool by its gaps: so many unusable entries, then the entry; so many at the end -/
def gap : Nat → List CpInfo → List CpInfo
  | 0, r => r
  | n + 1, r => .unusable :: gap n r
def poolList (es : List (Nat × CpInfo)) (last : Nat) : List CpInfo := es.foldr (fun e r => gap e.1 (e.2 :: r)) (gap last [])
def pool (es : List (Nat × CpInfo)) (last : Nat) : Array CpInfo := ⟨poolList es last⟩
def fileOf (pool : Array CpInfo) (this : Nat) (attrs : Array Attribute := #[]) (ms : Array MethodInfo := #[]) (fl : Nat := 33) (sup : Nat := 0) (ifs : Array Nat := #[]) (fds : Array FieldInfo := #[]) : ClassFile where
  minorVersion := 0
  majorVersion := 65
  constantPool := pool
  accessFlags := fl
  thisClass := this
  superClass := sup
  interfaces := ifs
  fields := fds
  methods := ms
  attributes := attrs
def plain (name : String) (sup : Option ClassId) : Class where
  name := name
  kind := .ordinary
  loader := none
  accessFlags := 33
  super := sup
  interfaces := #[]
  cf := none
  fields := #[]
  methods := #[]
  instanceTypes := #[]
  staticTypes := #[]
  resolved := #[]
  callSites := []
  init := .initialized
  statics := none
  mirror := none

def pool0 : Array CpInfo := pool [(5, u "<init>"), (0, u "()V"), (1, .class_ 10), (1, u "java/lang/Object")] 113

def k0c0 : Code := { maxStack := 0, maxLocals := 1, code := object_method_1_code, exceptionTable := #[], attributes := #[] }
def k0m0 : Method := { name := "<init>", desc := "()V", sig := { parameters := [], returnType := none }, accessFlags := 1, code := some k0c0 }
/-- java/lang/Object -/
def k0 : Class := { plain "java/lang/Object" none with
  accessFlags := 33
  interfaces := #[]
  cf := some (fileOf pool0 8 #[] #[{ accessFlags := 1, nameIndex := 5, descriptorIndex := 6, attributes := #[] }] 33 0 #[] #[])
  fields := #[]
  methods := #[k0m0]
  instanceTypes := #[]
  staticTypes := #[]
  resolved := Array.replicate 124 none
  statics := none }

def pool1 : Array CpInfo := pool [(2, .class_ 4), (1, u "java/lang/Object"), (0, u "<init>"), (0, u "()V"), (0, .methodref 8 9), (0, .class_ 10), (0, .nameAndType 11 12), (0, u "com/example/packwise/packwise/ByteArraySourceReadBytePinLaw"), (0, u "at"), (0, u "(JI)B"), (0, .integer 2147483647), (0, .methodref 15 16), (0, .class_ 17), (0, .nameAndType 18 19), (0, u "java/lang/Math"), (0, u "min"), (0, u "(II)I"), (0, .class_ 21), (0, u "com/example/packwise/packwise/ByteArraySource"), (0, .methodref 20 23), (0, .nameAndType 5 24), (0, u "([BII)V"), (0, .methodref 20 26), (0, .nameAndType 27 28), (0, u "readByte"), (0, u "()B"), (0, .long 8), (1, .methodref 20 32), (0, .nameAndType 33 34), (0, u "skipBytes"), (0, u "(J)J"), (2, u "law"), (0, u "(JIII)Z")] 8

def k1m0 : Method := { name := "<init>", desc := "()V", sig := { parameters := [], returnType := none }, accessFlags := 1, code := none }
def k1c1 : Code := { maxStack := 4, maxLocals := 3, code := method_2_code, exceptionTable := #[], attributes := #[] }
def k1m1 : Method := { name := "at", desc := "(JI)B", sig := { parameters := [.long, .int], returnType := some .byte }, accessFlags := 10, code := some k1c1 }
def k1c2 : Code := { maxStack := 5, maxLocals := 13, code := code, exceptionTable := #[], attributes := #[] }
def k1m2 : Method := { name := "law", desc := "(JIII)Z", sig := { parameters := [.long, .int, .int, .int], returnType := some .boolean }, accessFlags := 9, code := some k1c2 }
/-- com/example/packwise/packwise/ByteArraySourceReadBytePinLaw -/
def k1 : Class := { plain "com/example/packwise/packwise/ByteArraySourceReadBytePinLaw" (some 0) with
  accessFlags := 49
  interfaces := #[]
  cf := some (fileOf pool1 8 #[] #[{ accessFlags := 1, nameIndex := 5, descriptorIndex := 6, attributes := #[] }, { accessFlags := 10, nameIndex := 11, descriptorIndex := 12, attributes := #[] }, { accessFlags := 9, nameIndex := 37, descriptorIndex := 38, attributes := #[] }] 49 2 #[] #[])
  fields := #[]
  methods := #[k1m0, k1m1, k1m2]
  instanceTypes := #[]
  staticTypes := #[]
  resolved := Array.replicate 47 none
  statics := none }

def pool2 : Array CpInfo := pool [(1, .class_ 2), (0, u "java/lang/Math"), (1, .class_ 6), (1, u "java/lang/Object"), (0, u "<init>"), (0, u "()V"), (89, .class_ 100), (1, u "java/lang/Math$RandomNumberGeneratorHolder"), (20, u "(JJ)J"), (50, u "negativeZeroFloatBits"), (0, u "J"), (2, u "negativeZeroDoubleBits"), (24, u "min"), (43, u "$assertionsDisabled"), (0, u "Z"), (88, u "(II)I"), (2, u "twoToTheDoubleScaleDown"), (0, u "D"), (4, u "twoToTheDoubleScaleUp"), (9, u "E"), (3, u "PI"), (2, u "TAU"), (2, u "DEGREES_TO_RADIANS"), (0, u "RADIANS_TO_DEGREES")] 94

def k2m0 : Method := { name := "<init>", desc := "()V", sig := { parameters := [], returnType := none }, accessFlags := 2, code := none }
def k2c1 : Code := { maxStack := 2, maxLocals := 2, code := jdk_29_method_69_code, exceptionTable := #[], attributes := #[] }
def k2m1 : Method := { name := "min", desc := "(II)I", sig := { parameters := [.int, .int], returnType := some .int }, accessFlags := 9, code := some k2c1 }
def k2c2 : Code := { maxStack := 4, maxLocals := 4, code := jdk_29_method_70_code, exceptionTable := #[], attributes := #[] }
def k2m2 : Method := { name := "min", desc := "(JJ)J", sig := { parameters := [.long, .long], returnType := some .long }, accessFlags := 9, code := some k2c2 }
/-- java/lang/Math -/
def k2 : Class := { plain "java/lang/Math" (some 0) with
  accessFlags := 49
  interfaces := #[]
  cf := some (fileOf pool2 1 #[.nestMembers #[98]] #[{ accessFlags := 2, nameIndex := 7, descriptorIndex := 8, attributes := #[] }, { accessFlags := 9, nameIndex := 201, descriptorIndex := 335, attributes := #[] }, { accessFlags := 9, nameIndex := 201, descriptorIndex := 121, attributes := #[] }] 49 4 #[] #[{ accessFlags := 25, nameIndex := 354, descriptorIndex := 339, attributes := #[] }, { accessFlags := 25, nameIndex := 358, descriptorIndex := 339, attributes := #[] }, { accessFlags := 25, nameIndex := 361, descriptorIndex := 339, attributes := #[] }, { accessFlags := 26, nameIndex := 364, descriptorIndex := 339, attributes := #[] }, { accessFlags := 26, nameIndex := 365, descriptorIndex := 339, attributes := #[] }, { accessFlags := 26, nameIndex := 172, descriptorIndex := 173, attributes := #[] }, { accessFlags := 26, nameIndex := 176, descriptorIndex := 173, attributes := #[] }, { accessFlags := 8, nameIndex := 344, descriptorIndex := 339, attributes := #[] }, { accessFlags := 8, nameIndex := 338, descriptorIndex := 339, attributes := #[] }, { accessFlags := 4120, nameIndex := 245, descriptorIndex := 246, attributes := #[] }])
  fields := #[{ name := "E", type := .double, accessFlags := 25, slot := 0, constantValue := 0 }, { name := "PI", type := .double, accessFlags := 25, slot := 1, constantValue := 0 }, { name := "TAU", type := .double, accessFlags := 25, slot := 2, constantValue := 0 }, { name := "DEGREES_TO_RADIANS", type := .double, accessFlags := 26, slot := 3, constantValue := 0 }, { name := "RADIANS_TO_DEGREES", type := .double, accessFlags := 26, slot := 4, constantValue := 0 }, { name := "negativeZeroFloatBits", type := .long, accessFlags := 26, slot := 5, constantValue := 0 }, { name := "negativeZeroDoubleBits", type := .long, accessFlags := 26, slot := 6, constantValue := 0 }, { name := "twoToTheDoubleScaleUp", type := .double, accessFlags := 8, slot := 7, constantValue := 0 }, { name := "twoToTheDoubleScaleDown", type := .double, accessFlags := 8, slot := 8, constantValue := 0 }, { name := "$assertionsDisabled", type := .boolean, accessFlags := 4120, slot := 9, constantValue := 0 }]
  methods := #[k2m0, k2m1, k2m2]
  instanceTypes := #[]
  staticTypes := #[.double, .double, .double, .double, .double, .long, .long, .double, .double, .boolean]
  resolved := Array.replicate 460 none
  statics := none }

def pool3 : Array CpInfo := pool [(1, .methodref 2 3), (0, .class_ 4), (0, .nameAndType 5 6), (0, u "java/lang/Object"), (0, u "<init>"), (0, u "()V"), (7, .class_ 16), (1, u "com/example/packwise/packwise/ByteSource"), (6, u "checkSkipLength"), (0, u "(J)V"), (80, u "NO_BYTE_LEFT"), (0, u "Ljava/lang/String;"), (3, u "SKIP_BUFFER_SIZE"), (0, u "I")] 33

def k3c0 : Code := { maxStack := 1, maxLocals := 1, code := prog_11_method_1_code, exceptionTable := #[], attributes := #[] }
def k3m0 : Method := { name := "<init>", desc := "()V", sig := { parameters := [], returnType := none }, accessFlags := 4, code := some k3c0 }
def k3c1 : Code := { maxStack := 4, maxLocals := 2, code := prog_11_method_5_code, exceptionTable := #[], attributes := #[] }
def k3m1 : Method := { name := "checkSkipLength", desc := "(J)V", sig := { parameters := [.long], returnType := none }, accessFlags := 8, code := some k3c1 }
/-- com/example/packwise/packwise/ByteSource -/
def k3 : Class := { plain "com/example/packwise/packwise/ByteSource" (some 0) with
  accessFlags := 1057
  interfaces := #[]
  cf := some (fileOf pool3 14 #[] #[{ accessFlags := 4, nameIndex := 5, descriptorIndex := 6, attributes := #[] }, { accessFlags := 8, nameIndex := 23, descriptorIndex := 24, attributes := #[] }] 1057 2 #[] #[{ accessFlags := 24, nameIndex := 105, descriptorIndex := 106, attributes := #[] }, { accessFlags := 26, nameIndex := 110, descriptorIndex := 111, attributes := #[] }])
  fields := #[{ name := "NO_BYTE_LEFT", type := (.object "java/lang/String"), accessFlags := 24, slot := 0, constantValue := 0 }, { name := "SKIP_BUFFER_SIZE", type := .int, accessFlags := 26, slot := 1, constantValue := 0 }]
  methods := #[k3m0, k3m1]
  instanceTypes := #[]
  staticTypes := #[(.object "java/lang/String"), .int]
  resolved := Array.replicate 145 none
  statics := none }

def pool4 : Array CpInfo := pool [(2, .class_ 4), (1, u "com/example/packwise/packwise/ByteArraySource"), (0, u "<init>"), (0, u "([BII)V"), (0, .methodref 8 9), (0, .class_ 10), (0, .nameAndType 5 11), (0, u "com/example/packwise/packwise/ByteSource"), (0, u "()V"), (0, .string 13), (0, u "bytes"), (0, .methodref 15 16), (0, .class_ 17), (0, .nameAndType 18 19), (0, u "java/util/Objects"), (0, u "requireNonNull"), (0, u "(Ljava/lang/Object;Ljava/lang/String;)Ljava/lang/Object;"), (0, .methodref 21 22), (0, .class_ 23), (0, .nameAndType 24 6), (0, u "com/example/packwise/packwise/ArrayRegion"), (0, u "check"), (0, .fieldref 2 26), (0, .nameAndType 13 27), (0, u "[B"), (0, .fieldref 2 29), (0, .nameAndType 30 31), (0, u "end"), (0, u "I"), (0, .fieldref 2 33), (0, .nameAndType 34 31), (0, u "position"), (8, .class_ 45), (1, u "java/lang/Math"), (0, u "min"), (7, .methodref 2 55), (0, .nameAndType 56 57), (0, u "checkSkipLength"), (0, u "(J)V"), (0, .methodref 43 59), (0, .nameAndType 46 60), (0, u "(JJ)J"), (3, u "readByte"), (0, u "()B"), (4, u "skipBytes"), (0, u "(J)J")] 2

def k4c0 : Code := { maxStack := 3, maxLocals := 4, code := prog_7_method_2_code, exceptionTable := #[], attributes := #[] }
def k4m0 : Method := { name := "<init>", desc := "([BII)V", sig := { parameters := [(.array .byte), .int, .int], returnType := none }, accessFlags := 1, code := some k4c0 }
def k4c1 : Code := { maxStack := 5, maxLocals := 1, code := prog_7_method_3_code, exceptionTable := #[], attributes := #[] }
def k4m1 : Method := { name := "readByte", desc := "()B", sig := { parameters := [], returnType := some .byte }, accessFlags := 1, code := some k4c1 }
def k4c2 : Code := { maxStack := 4, maxLocals := 4, code := prog_7_method_5_code, exceptionTable := #[], attributes := #[] }
def k4m2 : Method := { name := "skipBytes", desc := "(J)J", sig := { parameters := [.long], returnType := some .long }, accessFlags := 1, code := some k4c2 }
/-- com/example/packwise/packwise/ByteArraySource -/
def k4 : Class := { plain "com/example/packwise/packwise/ByteArraySource" (some 3) with
  accessFlags := 49
  interfaces := #[]
  cf := some (fileOf pool4 2 #[] #[{ accessFlags := 1, nameIndex := 5, descriptorIndex := 6, attributes := #[] }, { accessFlags := 1, nameIndex := 64, descriptorIndex := 65, attributes := #[] }, { accessFlags := 1, nameIndex := 70, descriptorIndex := 71, attributes := #[] }] 49 8 #[] #[{ accessFlags := 18, nameIndex := 13, descriptorIndex := 27, attributes := #[] }, { accessFlags := 18, nameIndex := 30, descriptorIndex := 31, attributes := #[] }, { accessFlags := 2, nameIndex := 34, descriptorIndex := 31, attributes := #[] }])
  fields := #[{ name := "bytes", type := (.array .byte), accessFlags := 18, slot := 0, constantValue := 0 }, { name := "end", type := .int, accessFlags := 18, slot := 1, constantValue := 0 }, { name := "position", type := .int, accessFlags := 2, slot := 2, constantValue := 0 }]
  methods := #[k4m0, k4m1, k4m2]
  instanceTypes := #[(.array .byte), .int, .int]
  staticTypes := #[]
  resolved := Array.replicate 74 none
  statics := none }

def pool5 : Array CpInfo := pool [(1, .class_ 2), (0, u "java/io/Serializable"), (0, .class_ 4), (0, u "java/lang/Object")] 2

/-- java/io/Serializable -/
def k5 : Class := { plain "java/io/Serializable" (some 0) with
  accessFlags := 1537
  interfaces := #[]
  cf := some (fileOf pool5 1 #[] #[] 1537 3 #[] #[])
  fields := #[]
  methods := #[]
  instanceTypes := #[]
  staticTypes := #[]
  resolved := Array.replicate 7 none
  statics := none }

def pool6 : Array CpInfo := pool [(1, .class_ 2), (0, u "java/lang/Comparable"), (0, .class_ 4), (0, u "java/lang/Object")] 7

/-- java/lang/Comparable -/
def k6 : Class := { plain "java/lang/Comparable" (some 0) with
  accessFlags := 1537
  interfaces := #[]
  cf := some (fileOf pool6 1 #[] #[] 1537 3 #[] #[])
  fields := #[]
  methods := #[]
  instanceTypes := #[]
  staticTypes := #[]
  resolved := Array.replicate 12 none
  statics := none }

def pool7 : Array CpInfo := pool [(2, .class_ 4), (1, u "java/lang/CharSequence"), (42, .class_ 48), (0, u "java/lang/CharSequence$1CodePointIterator"), (10, .class_ 60), (0, u "java/lang/CharSequence$1CharIterator"), (5, .class_ 67), (0, u "java/lang/Object")] 63

/-- java/lang/CharSequence -/
def k7 : Class := { plain "java/lang/CharSequence" (some 0) with
  accessFlags := 1537
  interfaces := #[]
  cf := some (fileOf pool7 2 #[.nestMembers #[47, 59]] #[] 1537 66 #[] #[])
  fields := #[]
  methods := #[]
  instanceTypes := #[]
  staticTypes := #[]
  resolved := Array.replicate 131 none
  statics := none }

def pool8 : Array CpInfo := pool [(1, .class_ 2), (0, u "java/lang/constant/Constable"), (0, .class_ 4), (0, u "java/lang/Object")] 6

/-- java/lang/constant/Constable -/
def k8 : Class := { plain "java/lang/constant/Constable" (some 0) with
  accessFlags := 1537
  interfaces := #[]
  cf := some (fileOf pool8 1 #[] #[] 1537 3 #[] #[])
  fields := #[]
  methods := #[]
  instanceTypes := #[]
  staticTypes := #[]
  resolved := Array.replicate 11 none
  statics := none }

def pool9 : Array CpInfo := pool [(1, .class_ 2), (0, u "java/lang/constant/ConstantDesc"), (0, .class_ 4), (0, u "java/lang/Object")] 32

/-- java/lang/constant/ConstantDesc -/
def k9 : Class := { plain "java/lang/constant/ConstantDesc" (some 0) with
  accessFlags := 1537
  interfaces := #[]
  cf := some (fileOf pool9 1 #[] #[] 1537 3 #[] #[])
  fields := #[]
  methods := #[]
  instanceTypes := #[]
  staticTypes := #[]
  resolved := Array.replicate 37 none
  statics := none }

def pool10 : Array CpInfo := pool [(2, .class_ 4), (1, u "java/lang/Object"), (0, u "<init>"), (0, u "()V"), (3, .class_ 12), (1, u "java/lang/String"), (0, u "value"), (0, u "[B"), (2, u "coder"), (0, u "B"), (2, u "hash"), (0, u "I"), (2, u "hashIsZero"), (0, u "Z"), (13, u "COMPACT_STRINGS"), (534, .class_ 576), (0, u "java/lang/CharSequence"), (22, u "CASE_INSENSITIVE_ORDER"), (0, u "Ljava/util/Comparator;"), (500, u "serialPersistentFields"), (0, u "[Ljava/io/ObjectStreamField;"), (0, .class_ 1104), (0, u "java/lang/String$CaseInsensitiveComparator"), (1, .class_ 1107), (0, u "java/io/Serializable"), (0, .class_ 1109), (0, u "java/lang/Comparable"), (0, .class_ 1111), (0, u "java/lang/constant/Constable"), (0, .class_ 1113), (0, u "java/lang/constant/ConstantDesc"), (2, u "serialVersionUID"), (0, u "J"), (3, u "REPL"), (0, u "C"), (2, u "LATIN1"), (1, u "UTF16")] 323

def k10m0 : Method := { name := "<init>", desc := "()V", sig := { parameters := [], returnType := none }, accessFlags := 1, code := none }
/-- java/lang/String -/
def k10 : Class := { plain "java/lang/String" (some 0) with
  accessFlags := 49
  interfaces := #[5, 6, 7, 8, 9]
  cf := some (fileOf pool10 10 #[.nestMembers #[1103]] #[{ accessFlags := 1, nameIndex := 5, descriptorIndex := 6, attributes := #[] }] 49 2 #[1106, 1108, 575, 1110, 1112] #[{ accessFlags := 18, nameIndex := 13, descriptorIndex := 14, attributes := #[] }, { accessFlags := 18, nameIndex := 17, descriptorIndex := 18, attributes := #[] }, { accessFlags := 2, nameIndex := 21, descriptorIndex := 22, attributes := #[] }, { accessFlags := 2, nameIndex := 25, descriptorIndex := 26, attributes := #[] }, { accessFlags := 26, nameIndex := 1116, descriptorIndex := 1117, attributes := #[] }, { accessFlags := 24, nameIndex := 40, descriptorIndex := 26, attributes := #[] }, { accessFlags := 26, nameIndex := 1101, descriptorIndex := 1102, attributes := #[] }, { accessFlags := 26, nameIndex := 1121, descriptorIndex := 1122, attributes := #[] }, { accessFlags := 25, nameIndex := 599, descriptorIndex := 600, attributes := #[] }, { accessFlags := 24, nameIndex := 1125, descriptorIndex := 18, attributes := #[] }, { accessFlags := 24, nameIndex := 1127, descriptorIndex := 18, attributes := #[] }])
  fields := #[{ name := "value", type := (.array .byte), accessFlags := 18, slot := 0, constantValue := 0 }, { name := "coder", type := .byte, accessFlags := 18, slot := 1, constantValue := 0 }, { name := "hash", type := .int, accessFlags := 2, slot := 2, constantValue := 0 }, { name := "hashIsZero", type := .boolean, accessFlags := 2, slot := 3, constantValue := 0 }, { name := "serialVersionUID", type := .long, accessFlags := 26, slot := 0, constantValue := 0 }, { name := "COMPACT_STRINGS", type := .boolean, accessFlags := 24, slot := 1, constantValue := 0 }, { name := "serialPersistentFields", type := (.array (.object "java/io/ObjectStreamField")), accessFlags := 26, slot := 2, constantValue := 0 }, { name := "REPL", type := .char, accessFlags := 26, slot := 3, constantValue := 0 }, { name := "CASE_INSENSITIVE_ORDER", type := (.object "java/util/Comparator"), accessFlags := 25, slot := 4, constantValue := 0 }, { name := "LATIN1", type := .byte, accessFlags := 24, slot := 5, constantValue := 0 }, { name := "UTF16", type := .byte, accessFlags := 24, slot := 6, constantValue := 0 }]
  methods := #[k10m0]
  instanceTypes := #[(.array .byte), .byte, .int, .boolean]
  staticTypes := #[.long, .boolean, (.array (.object "java/io/ObjectStreamField")), .char, (.object "java/util/Comparator"), .byte, .byte]
  resolved := Array.replicate 1451 none
  statics := none }

def pool11 : Array CpInfo := pool [(2, .class_ 4), (1, u "java/lang/Object"), (0, u "<init>"), (0, u "()V"), (35, .class_ 44), (1, u "java/util/Objects"), (0, u "requireNonNull"), (48, u "(Ljava/lang/Object;Ljava/lang/String;)Ljava/lang/Object;")] 89

def k11m0 : Method := { name := "<init>", desc := "()V", sig := { parameters := [], returnType := none }, accessFlags := 2, code := none }
def k11c1 : Code := { maxStack := 3, maxLocals := 2, code := jdk_31_method_11_code, exceptionTable := #[], attributes := #[] }
def k11m1 : Method := { name := "requireNonNull", desc := "(Ljava/lang/Object;Ljava/lang/String;)Ljava/lang/Object;", sig := { parameters := [(.object "java/lang/Object"), (.object "java/lang/String")], returnType := some (.object "java/lang/Object") }, accessFlags := 9, code := some k11c1 }
/-- java/util/Objects -/
def k11 : Class := { plain "java/util/Objects" (some 0) with
  accessFlags := 49
  interfaces := #[]
  cf := some (fileOf pool11 42 #[] #[{ accessFlags := 2, nameIndex := 5, descriptorIndex := 6, attributes := #[] }, { accessFlags := 9, nameIndex := 45, descriptorIndex := 94, attributes := #[] }] 49 2 #[] #[])
  fields := #[]
  methods := #[k11m0, k11m1]
  instanceTypes := #[]
  staticTypes := #[]
  resolved := Array.replicate 184 none
  statics := none }

def pool12 : Array CpInfo := pool [(2, .class_ 4), (1, u "java/lang/Object"), (0, u "<init>"), (0, u "()V"), (0, .string 8), (0, u "array"), (0, .methodref 10 11), (0, .class_ 12), (0, .nameAndType 13 14), (0, u "java/util/Objects"), (0, u "requireNonNull"), (0, u "(Ljava/lang/Object;Ljava/lang/String;)Ljava/lang/Object;"), (0, .class_ 16), (0, u "[B"), (0, .methodref 18 19), (0, .class_ 20), (0, .nameAndType 21 22), (0, u "com/example/packwise/packwise/ArrayRegion"), (0, u "check"), (0, u "(III)V"), (37, u "([BII)V")] 21

def k12m0 : Method := { name := "<init>", desc := "()V", sig := { parameters := [], returnType := none }, accessFlags := 2, code := none }
def k12c1 : Code := { maxStack := 3, maxLocals := 3, code := prog_1_method_2_code, exceptionTable := #[], attributes := #[] }
def k12m1 : Method := { name := "check", desc := "([BII)V", sig := { parameters := [(.array .byte), .int, .int], returnType := none }, accessFlags := 8, code := some k12c1 }
def k12c2 : Code := { maxStack := 7, maxLocals := 3, code := prog_1_method_6_code, exceptionTable := #[], attributes := #[] }
def k12m2 : Method := { name := "check", desc := "(III)V", sig := { parameters := [.int, .int, .int], returnType := none }, accessFlags := 10, code := some k12c2 }
/-- com/example/packwise/packwise/ArrayRegion -/
def k12 : Class := { plain "com/example/packwise/packwise/ArrayRegion" (some 0) with
  accessFlags := 48
  interfaces := #[]
  cf := some (fileOf pool12 18 #[] #[{ accessFlags := 2, nameIndex := 5, descriptorIndex := 6, attributes := #[] }, { accessFlags := 8, nameIndex := 21, descriptorIndex := 60, attributes := #[] }, { accessFlags := 10, nameIndex := 21, descriptorIndex := 22, attributes := #[] }] 48 2 #[] #[])
  fields := #[]
  methods := #[k12m0, k12m1, k12m2]
  instanceTypes := #[]
  staticTypes := #[]
  resolved := Array.replicate 82 none
  statics := none }

def pool13 : Array CpInfo := pool [(1, u "java/lang/Cloneable"), (0, .class_ 1), (0, u "java/lang/Object"), (0, .class_ 3)] 3

/-- java/lang/Cloneable -/
def k13 : Class := { plain "java/lang/Cloneable" (some 0) with
  accessFlags := 1537
  interfaces := #[]
  cf := some (fileOf pool13 2 #[] #[] 1537 4 #[] #[])
  fields := #[]
  methods := #[]
  instanceTypes := #[]
  staticTypes := #[]
  resolved := Array.replicate 8 none
  statics := none }

/-- the primitive byte -/
def k14 : Class := { plain "byte" none with kind := .primitive 'B', accessFlags := 0x411 }
/-- [B -/
def k15 : Class := { plain "[B" (some 0) with kind := .array 14 .byte, interfaces := #[13, 5], accessFlags := 1041 }

/-- the primitive int -/
def k16 : Class := { plain "int" none with kind := .primitive 'I', accessFlags := 0x411 }
/-- [I -/
def k17 : Class := { plain "[I" (some 0) with kind := .array 16 .int, interfaces := #[13, 5], accessFlags := 1041 }

def heap : Heap := #[]
def classes : Array Class := #[k0, k1, k2, k3, k4, k5, k6, k7, k8, k9, k10, k11, k12, k13, k14, k15, k16, k17]
def interned : List (Array UInt16 × Addr) := []
def slotsUsed : Nat := 0
def theMethod : MethodId := ⟨1, 2⟩
def args0 : Array Value := #[.long 5, .int 5, .int 5, .int 5]
def aboutOver (below : List Frame) : State where
  vm := { classes := classes, interned := interned.toArray }
  heap := heap
  slotsUsed := slotsUsed
  threads := #[{ frames := .invoking theMethod args0 :: below }]
def below0 : List Frame := [.native { method := ⟨0, 0⟩, args := #[] }]
def about1 : State := aboutOver below0
def p0 : Program := .bare "" "" ""
def e0 : Env := launch0.env 0 0 0
theorem w_frames : about1.frames = Frame.invoking theMethod args0 :: below0 := rfl
set_option maxRecDepth 65536 in
theorem w_args : argsFit about1.vm theMethod args0 = true := by decide +kernel
set_option maxRecDepth 65536 in
theorem w_heap : heapFits about1 = true := by decide +kernel
set_option maxRecDepth 65536 in
theorem w_runnable : about1.curStatus? = some .runnable := by decide +kernel
set_option maxRecDepth 65536 in
theorem w_alone : about1.alone = true := by decide +kernel
set_option maxRecDepth 65536 in
theorem w_named : about1.methodNamed? x = some theMethod := by decide +kernel
set_option maxRecDepth 65536 in
theorem w_hears : about1.hears theMethod below0 = true := by decide +kernel
set_option maxRecDepth 65536 in
theorem w_ripe : about1.ripe theMethod args0 below0 = true := by decide +kernel
theorem w_running : about1.status = .running := rfl
set_option maxRecDepth 65536 in
theorem w_room : about1.hasRoom e0.platform room_1 = true :=
  launch0.hasRoom_least _ room_1 (by decide +kernel) (by decide +kernel) (by decide +kernel) (by decide +kernel) (by decide +kernel) (by decide +kernel)
theorem allAtoms_all (ts : List Jvm.Cond) (a : Array Jvm.Value) (st : Jvm.State) : (allAtoms ts).before a st = ts.all (fun c => c.before a st) := by
  induction ts with
  | nil => rfl
  | cons c t ih =>
    show (Jvm.Cond.and c (allAtoms t)).before a st = _
    rw [Jvm.Cond.before_and, ih, List.all_cons]
def words1 : List Jvm.Cond := Jvm.Cond.code x code maxLocals ret :: tables_1
/-- a 'code' word, met by the world's own term for the bytes: nothing is compared byte by byte -/
theorem code_word {y : MethodName} {bytes : ByteArray} {mx : Nat} {rt : Option FieldType} {a : Array Value} {s : State} {m : MethodId} {meth : Method} {c : Code} (h1 : s.methodNamed? y = some m) (h2 : s.vm.method? m = some meth) (h3 : meth.code = some c) (h4 : c.code = bytes)
    (h5 : (c.maxLocals == mx && c.exceptionTable.isEmpty && decide (c.maxStack ≤ mostOperands) && decide (meth.sig.returnType = rt) && !meth.locks && decide (parseMethodDescriptor y.desc = some meth.sig)) = true) : (Jvm.Cond.code y bytes mx rt).before a s = true := by
  simp only [Bool.and_eq_true, beq_iff_eq, Bool.not_eq_true', decide_eq_true_eq] at h5
  obtain ⟨⟨⟨⟨⟨g1, g2⟩, g3⟩, g4⟩, g5⟩, g6⟩ := h5
  simp [Cond.before, Cond.holds, Cond.value, h1, h2, h3, h4, g1, g2, g3, g4, g5, g6]
def isCode : Jvm.Cond → Bool
  | .code _ _ _ _ => true
  | _ => false
theorem all_split {L : List Jvm.Cond} {P : Jvm.Cond → Bool} (h1 : L.all (fun c => isCode c || P c) = true) (h2 : ∀ c ∈ L.filter isCode, P c = true) : L.all P = true := by
  refine List.all_eq_true.mpr fun c hc => ?_
  have h := List.all_eq_true.mp h1 c hc
  rcases Bool.eq_false_or_eq_true (isCode c) with hi | hi
  · exact h2 c (List.mem_filter.mpr ⟨hc, hi⟩)
  · simpa [hi] using h
set_option maxRecDepth 65536 in
theorem w_c0 : (Jvm.Cond.code x code maxLocals ret).before args0 about1 = true := code_word (m := ⟨1, 2⟩) (meth := k1m2) (c := k1c2) (by decide +kernel) rfl rfl rfl (by decide +kernel)
set_option maxRecDepth 65536 in
theorem w_c1 : (Jvm.Cond.code ({ cls := "com/example/packwise/packwise/ByteArraySourceReadBytePinLaw", name := "at", desc := "(JI)B" } : Jvm.MethodName) method_2_code (3 : Nat) (Option.some Jvm.ClassFile.FieldType.byte)).before args0 about1 = true := code_word (m := ⟨1, 1⟩) (meth := k1m1) (c := k1c1) (by decide +kernel) rfl rfl rfl (by decide +kernel)
set_option maxRecDepth 65536 in
theorem w_c2 : (Jvm.Cond.code ({ cls := "java/lang/Math", name := "min", desc := "(II)I" } : Jvm.MethodName) jdk_29_method_69_code (2 : Nat) (Option.some Jvm.ClassFile.FieldType.int)).before args0 about1 = true := code_word (m := ⟨2, 1⟩) (meth := k2m1) (c := k2c1) (by decide +kernel) rfl rfl rfl (by decide +kernel)
set_option maxRecDepth 65536 in
theorem w_c3 : (Jvm.Cond.code ({ cls := "com/example/packwise/packwise/ByteArraySource", name := "<init>", desc := "([BII)V" } : Jvm.MethodName) prog_7_method_2_code (4 : Nat) (Option.none : Option Jvm.ClassFile.FieldType)).before args0 about1 = true := code_word (m := ⟨4, 0⟩) (meth := k4m0) (c := k4c0) (by decide +kernel) rfl rfl rfl (by decide +kernel)
set_option maxRecDepth 65536 in
theorem w_c4 : (Jvm.Cond.code ({ cls := "com/example/packwise/packwise/ByteSource", name := "<init>", desc := "()V" } : Jvm.MethodName) prog_11_method_1_code (1 : Nat) (Option.none : Option Jvm.ClassFile.FieldType)).before args0 about1 = true := code_word (m := ⟨3, 0⟩) (meth := k3m0) (c := k3c0) (by decide +kernel) rfl rfl rfl (by decide +kernel)
set_option maxRecDepth 65536 in
theorem w_c5 : (Jvm.Cond.code ({ cls := "java/lang/Object", name := "<init>", desc := "()V" } : Jvm.MethodName) object_method_1_code (1 : Nat) (Option.none : Option Jvm.ClassFile.FieldType)).before args0 about1 = true := code_word (m := ⟨0, 0⟩) (meth := k0m0) (c := k0c0) (by decide +kernel) rfl rfl rfl (by decide +kernel)
set_option maxRecDepth 65536 in
theorem w_c6 : (Jvm.Cond.code ({ cls := "java/util/Objects", name := "requireNonNull", desc := "(Ljava/lang/Object;Ljava/lang/String;)Ljava/lang/Object;" } : Jvm.MethodName) jdk_31_method_11_code (2 : Nat) (Option.some (Jvm.ClassFile.FieldType.object "java/lang/Object"))).before args0 about1 = true := code_word (m := ⟨11, 1⟩) (meth := k11m1) (c := k11c1) (by decide +kernel) rfl rfl rfl (by decide +kernel)
set_option maxRecDepth 65536 in
theorem w_c7 : (Jvm.Cond.code ({ cls := "com/example/packwise/packwise/ArrayRegion", name := "check", desc := "([BII)V" } : Jvm.MethodName) prog_1_method_2_code (3 : Nat) (Option.none : Option Jvm.ClassFile.FieldType)).before args0 about1 = true := code_word (m := ⟨12, 1⟩) (meth := k12m1) (c := k12c1) (by decide +kernel) rfl rfl rfl (by decide +kernel)
set_option maxRecDepth 65536 in
theorem w_c8 : (Jvm.Cond.code ({ cls := "com/example/packwise/packwise/ArrayRegion", name := "check", desc := "(III)V" } : Jvm.MethodName) prog_1_method_6_code (3 : Nat) (Option.none : Option Jvm.ClassFile.FieldType)).before args0 about1 = true := code_word (m := ⟨12, 2⟩) (meth := k12m2) (c := k12c2) (by decide +kernel) rfl rfl rfl (by decide +kernel)
set_option maxRecDepth 65536 in
theorem w_c9 : (Jvm.Cond.code ({ cls := "com/example/packwise/packwise/ByteArraySource", name := "skipBytes", desc := "(J)J" } : Jvm.MethodName) prog_7_method_5_code (4 : Nat) (Option.some Jvm.ClassFile.FieldType.long)).before args0 about1 = true := code_word (m := ⟨4, 2⟩) (meth := k4m2) (c := k4c2) (by decide +kernel) rfl rfl rfl (by decide +kernel)
set_option maxRecDepth 65536 in
theorem w_c10 : (Jvm.Cond.code ({ cls := "com/example/packwise/packwise/ByteSource", name := "checkSkipLength", desc := "(J)V" } : Jvm.MethodName) prog_11_method_5_code (2 : Nat) (Option.none : Option Jvm.ClassFile.FieldType)).before args0 about1 = true := code_word (m := ⟨3, 1⟩) (meth := k3m1) (c := k3c1) (by decide +kernel) rfl rfl rfl (by decide +kernel)
set_option maxRecDepth 65536 in
theorem w_c11 : (Jvm.Cond.code ({ cls := "java/lang/Math", name := "min", desc := "(JJ)J" } : Jvm.MethodName) jdk_29_method_70_code (4 : Nat) (Option.some Jvm.ClassFile.FieldType.long)).before args0 about1 = true := code_word (m := ⟨2, 2⟩) (meth := k2m2) (c := k2c2) (by decide +kernel) rfl rfl rfl (by decide +kernel)
set_option maxRecDepth 65536 in
theorem w_c12 : (Jvm.Cond.code ({ cls := "com/example/packwise/packwise/ByteArraySource", name := "readByte", desc := "()B" } : Jvm.MethodName) prog_7_method_3_code (1 : Nat) (Option.some Jvm.ClassFile.FieldType.byte)).before args0 about1 = true := code_word (m := ⟨4, 1⟩) (meth := k4m1) (c := k4c1) (by decide +kernel) rfl rfl rfl (by decide +kernel)
def codes1 : List Jvm.Cond := [Jvm.Cond.code x code maxLocals ret, Jvm.Cond.code ({ cls := "com/example/packwise/packwise/ByteArraySourceReadBytePinLaw", name := "at", desc := "(JI)B" } : Jvm.MethodName) method_2_code (3 : Nat) (Option.some Jvm.ClassFile.FieldType.byte), Jvm.Cond.code ({ cls := "java/lang/Math", name := "min", desc := "(II)I" } : Jvm.MethodName) jdk_29_method_69_code (2 : Nat) (Option.some Jvm.ClassFile.FieldType.int), Jvm.Cond.code ({ cls := "com/example/packwise/packwise/ByteArraySource", name := "<init>", desc := "([BII)V" } : Jvm.MethodName) prog_7_method_2_code (4 : Nat) (Option.none : Option Jvm.ClassFile.FieldType), Jvm.Cond.code ({ cls := "com/example/packwise/packwise/ByteSource", name := "<init>", desc := "()V" } : Jvm.MethodName) prog_11_method_1_code (1 : Nat) (Option.none : Option Jvm.ClassFile.FieldType), Jvm.Cond.code ({ cls := "java/lang/Object", name := "<init>", desc := "()V" } : Jvm.MethodName) object_method_1_code (1 : Nat) (Option.none : Option Jvm.ClassFile.FieldType), Jvm.Cond.code ({ cls := "java/util/Objects", name := "requireNonNull", desc := "(Ljava/lang/Object;Ljava/lang/String;)Ljava/lang/Object;" } : Jvm.MethodName) jdk_31_method_11_code (2 : Nat) (Option.some (Jvm.ClassFile.FieldType.object "java/lang/Object")), Jvm.Cond.code ({ cls := "com/example/packwise/packwise/ArrayRegion", name := "check", desc := "([BII)V" } : Jvm.MethodName) prog_1_method_2_code (3 : Nat) (Option.none : Option Jvm.ClassFile.FieldType), Jvm.Cond.code ({ cls := "com/example/packwise/packwise/ArrayRegion", name := "check", desc := "(III)V" } : Jvm.MethodName) prog_1_method_6_code (3 : Nat) (Option.none : Option Jvm.ClassFile.FieldType), Jvm.Cond.code ({ cls := "com/example/packwise/packwise/ByteArraySource", name := "skipBytes", desc := "(J)J" } : Jvm.MethodName) prog_7_method_5_code (4 : Nat) (Option.some Jvm.ClassFile.FieldType.long), Jvm.Cond.code ({ cls := "com/example/packwise/packwise/ByteSource", name := "checkSkipLength", desc := "(J)V" } : Jvm.MethodName) prog_11_method_5_code (2 : Nat) (Option.none : Option Jvm.ClassFile.FieldType), Jvm.Cond.code ({ cls := "java/lang/Math", name := "min", desc := "(JJ)J" } : Jvm.MethodName) jdk_29_method_70_code (4 : Nat) (Option.some Jvm.ClassFile.FieldType.long), Jvm.Cond.code ({ cls := "com/example/packwise/packwise/ByteArraySource", name := "readByte", desc := "()B" } : Jvm.MethodName) prog_7_method_3_code (1 : Nat) (Option.some Jvm.ClassFile.FieldType.byte)]
set_option maxRecDepth 65536 in
theorem codes_eq : words1.filter isCode = codes1 := rfl
theorem w_codes : ∀ c ∈ words1.filter isCode, c.before args0 about1 = true := by
  rw [codes_eq]
  intro c hc
  simp only [codes1, List.mem_cons, List.not_mem_nil, or_false] at hc
  rcases hc with rfl | rfl | rfl | rfl | rfl | rfl | rfl | rfl | rfl | rfl | rfl | rfl | rfl
  · exact w_c0
  · exact w_c1
  · exact w_c2
  · exact w_c3
  · exact w_c4
  · exact w_c5
  · exact w_c6
  · exact w_c7
  · exact w_c8
  · exact w_c9
  · exact w_c10
  · exact w_c11
  · exact w_c12
set_option maxRecDepth 65536 in
theorem w_t1 : (words1.take 24).all (fun c => isCode c || c.before args0 about1) = true := by decide +kernel
set_option maxRecDepth 65536 in
theorem w_t2 : ((words1.drop 24).take 24).all (fun c => isCode c || c.before args0 about1) = true := by decide +kernel
set_option maxRecDepth 65536 in
theorem w_t3 : ((words1.drop 24).drop 24).all (fun c => isCode c || c.before args0 about1) = true := by decide +kernel
theorem w_tables : (allAtoms (Jvm.Cond.code x code maxLocals ret :: tables_1)).before args0 about1 = true := by
  rw [allAtoms_all]
  show words1.all (fun c => c.before args0 about1) = true
  refine all_split ?_ w_codes
  rw [← List.take_append_drop 24 words1, List.all_append, w_t1, ← List.take_append_drop 24 (words1.drop 24), List.all_append, w_t2, w_t3]
  rfl
set_option maxRecDepth 65536 in
theorem w_case : (Jvm.Cond.and given_1 narrow_1).before args0 about1 = true := by decide +kernel
theorem w_applies : (headSpec (Jvm.Cond.code x code maxLocals ret :: tables_1) room_1).applies x e0.platform about1 = true :=
  (Spec.applies_iff w_frames).mpr ⟨w_running, w_runnable, w_alone, w_named, w_hears, w_ripe, w_room, w_tables⟩
theorem atStart : AtStart classFile x code maxLocals ret World_1 tables_1 room_1 Calls_1 rest_1 Pre_1 launch0 p0 e0 about1 theMethod args0 below0 :=
  ⟨lists_1, trivial, launch0.admits_env _ _ _, launch0.least_env, fairChoices_fair.cas, fairChoices_fair.clock, w_frames, w_args, w_heap, w_applies, trivial, trivial, w_case⟩
end start1
theorem witness_1 : WitnessClaimed_1 := ⟨start1.p0, start1.e0, start1.about1, start1.theMethod, start1.args0, start1.below0, start1.atStart⟩
end Jvm.Pilot.@@N@@
