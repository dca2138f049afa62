import JvmDerived
import JvmDerived.Pilot.@@N@@Statement
import JvmDerived.Pilot.@@N@@Code
set_option linter.unusedVariables false
set_option linter.unusedSimpArgs false
namespace Jvm.RoadKit
open Sem ClassFile Op Lib Jvm.Stand Jvm.Free Jvm.LawKit
section New
variable {p : Program} {l : Launch} {e : Env} {R : Room} {s : State} {m : MethodId} {args : Array Value} {below : List Frame} {meth : Method} {c : Code} {T : State} {locs : List Loc} {cells slots : Nat}
theorem retI (X : Stand p l e R s m args below meth c T locs cells slots) (hx : p.tables.exec = Jvm.exec) {pc : Nat} {Ls : Array Slot} {z : Int32} {rest : List Value} (hret : meth.sig.returnType = some .int) (hd : decode c.code pc = .ok (.ireturn, 1)) {fs : List Frame}
    (hl : ∀ (f : JFrame) (acts : List Action), f.method = m → f.locked = none → f.entered = [] → (doReturn e (T.setTop f) acts (some (.int z))).1 = T.setFrames fs) : Steps p.tables e below (T.setTop (mkF m pc Ls (.int z :: rest))) (T.setFrames fs) := by
  have hm' : T.vm.method? m = some meth := X.method'
  have hn : narrow .int (.int z) = .int z := rfl
  show Steps p.tables e below (T.setTop { method := m, pc := pc, locals := Ls, stack := _ :: rest, locked := none }) _
  jvm_step X.here [X.here.top, hx, hd, hm', hret, hn]
  first | (intro acts; rw [hl _ acts rfl rfl rfl]) | rw [hl _ _ rfl rfl rfl]
  exact Steps.refl _
end New
end Jvm.RoadKit
namespace Jvm.Pilot.@@N@@
open Jvm Jvm.ClassFile Sem Op Lib Jvm.Free Jvm.Stand Jvm.LawKit Jvm.RoadKit Bundle Jvm.Pilot.@@N@@.Jvm.D
theorem pd0 : parseMethodDescriptor "(I)Z" = some ⟨[.int], some .boolean⟩ := by decide +kernel
def IntArr (Z : State) (h : Heap) (a : Addr) (n : Nat) : Prop := ∃ c : Cell, Arr Z h a c .int ∧ c.slots.size = n ∧ ∀ i, i < n → ∃ z : Int32, c.slots[i]? = some (.int z)
theorem own_arr_lt {Z : State} {h : Heap} {a : Addr} {n : Nat} (V : IntArr Z h a n) : a < h.size := by obtain ⟨c, A, -⟩ := V; exact A.lt
theorem own_arr_sz {Z : State} {h : Heap} {a : Addr} {n n0 : Nat} (G : n0 ≤ a) (V : IntArr Z h a n) : n0 ≤ h.size := Nat.le_of_lt (Nat.lt_of_le_of_lt G (own_arr_lt V))
theorem own_arr_new {Z : State} {h : Heap} {a : Addr} {k : ClassId} {z : Int32} {n : Nat} (V : Arv Z h a k .int z [] (defaultValue .int)) (hz : z.toNatClampNeg = n) : IntArr Z h a n := by
  obtain ⟨c, A, -, S, -, H, -⟩ := V
  exact ⟨c, A, S.trans hz, fun i hi => ⟨0, H i (by rw [S, hz]; exact hi)⟩⟩
section OwnArr
variable {p : Program} {l : Launch} {e : Env} {R : Room} {s : State} {m : MethodId} {args : Array Value} {below : List Frame} {meth : Method} {c : Code} {T : State} {locs : List Loc} {cells slots : Nat} {Z : State}
theorem own_arr_in {cl : Cell} {n : Nat} {j : Int32} (S : cl.slots.size = n) (hj : ¬ j < 0) (hj2 : j.toNatClampNeg < n) : ¬ (j < 0 ∨ cl.slots.size ≤ j.toNatClampNeg) := by
  rw [S]; rintro (q | q)
  · exact hj q
  · omega
theorem own_arr_st {n n0 : Nat} {a : Addr} (X : Stand p l e R s m args below meth c T locs cells slots) (hx : p.tables.exec = Jvm.exec) (hZ : Z.Warmed39 s.vm) (V : IntArr Z T.heap a n) (ga : n0 ≤ a) (N : Fr n0 locs) {i v : Int32} {g : JFrame} {rest : List Value} (hi : ¬ i < 0) (hi2 : i.toNatClampNeg < n)
    (hg : g.method = m) (hs : g.stack = .int v :: .int i :: .ref a :: rest) (hd : decode c.code g.pc = .ok (.iastore, 1)) :
    ∃ T' L', Stand p l e R s m args below meth c T' L' cells slots ∧ Fr n0 L' ∧ IntArr Z T'.heap a n ∧ ∀ target, Steps p.tables e below (T'.setTop { g with pc := g.pc + 1, stack := rest }) target → Steps p.tables e below (T.setTop g) target := by
  obtain ⟨cl, A, S, H⟩ := V
  obtain ⟨T', h', X', e', W, st⟩ := stI X hx hZ rfl A (own_arr_in S hi hi2) hg hs hd
  refine ⟨T', _, X', Fr.snoc X' N ga, ?_, st⟩
  rw [e']
  refine ⟨_, A.same W, by rw [sz_set]; exact S, fun k hk => ?_⟩
  by_cases u : i.toNatClampNeg = k
  · subst u; exact ⟨v, by simp [Cell.setSlot, S, hk]⟩
  · obtain ⟨z, hz⟩ := H k hk
    exact ⟨z, by simp only [Cell.setSlot]; rw [Array.getElem?_setIfInBounds_ne u]; exact hz⟩
theorem own_arr_ld {n : Nat} {a : Addr} (X : Stand p l e R s m args below meth c T locs cells slots) (hx : p.tables.exec = Jvm.exec) (hZ : Z.Warmed39 s.vm) (V : IntArr Z T.heap a n) {j : Int32} {g : JFrame} {rest : List Value} (hj : ¬ j < 0 ∧ j.toNatClampNeg < n)
    (hg : g.method = m) (hs : g.stack = .int j :: .ref a :: rest) (hd : decode c.code g.pc = .ok (.iaload, 1)) :
    ∃ z : Int32, ∀ target, Steps p.tables e below (T.setTop { g with pc := g.pc + 1, stack := .int z :: rest }) target → Steps p.tables e below (T.setTop g) target := by
  obtain ⟨cl, A, S, H⟩ := V
  obtain ⟨z, hz⟩ := H _ hj.2
  exact ⟨z, fun target k => X.iaload hx A.1 (State.isArrayOf_alike hZ.alike A.2.1) A.2.2 (own_arr_in S hj.1 hj.2) hz hg hs hd target k⟩
theorem own_arr_len {n : Nat} {a : Addr} (X : Stand p l e R s m args below meth c T locs cells slots) (hx : p.tables.exec = Jvm.exec) (hZ : Z.Warmed39 s.vm) (V : IntArr Z T.heap a n) {g : JFrame} {rest : List Value} {z : Int32} (hz : n.toInt32 = z)
    (hg : g.method = m) (hs : g.stack = .ref a :: rest) (hd : decode c.code g.pc = .ok (.arraylength, 1)) (target : State) (k : Steps p.tables e below (T.setTop { g with pc := g.pc + 1, stack := .int z :: rest }) target) : Steps p.tables e below (T.setTop g) target := by
  obtain ⟨cl, A, S, H⟩ := V
  refine X.arraylength hx A.1 (State.isArrayOf_alike hZ.alike A.2.1) hg hs hd _ ?_
  rw [S, hz]; exact k
end OwnArr
theorem d1_0 : decode prog_54_method_49_code 0 = .ok (.iload_n 0, 1) := by decide +kernel
theorem d1_1 : decode prog_54_method_49_code 1 = .ok (.bipush 65, 2) := by decide +kernel
theorem d1_3 : decode prog_54_method_49_code 3 = .ok (.if_icmp .lt 9, 3) := by decide +kernel
theorem d1_6 : decode prog_54_method_49_code 6 = .ok (.iload_n 0, 1) := by decide +kernel
theorem d1_7 : decode prog_54_method_49_code 7 = .ok (.bipush 90, 2) := by decide +kernel
theorem d1_9 : decode prog_54_method_49_code 9 = .ok (.if_icmp .le 183, 3) := by decide +kernel
theorem d1_12 : decode prog_54_method_49_code 12 = .ok (.iload_n 0, 1) := by decide +kernel
theorem d1_13 : decode prog_54_method_49_code 13 = .ok (.bipush 97, 2) := by decide +kernel
theorem d1_15 : decode prog_54_method_49_code 15 = .ok (.if_icmp .lt 9, 3) := by decide +kernel
theorem d1_18 : decode prog_54_method_49_code 18 = .ok (.iload_n 0, 1) := by decide +kernel
theorem d1_19 : decode prog_54_method_49_code 19 = .ok (.bipush 122, 2) := by decide +kernel
theorem d1_21 : decode prog_54_method_49_code 21 = .ok (.if_icmp .le 171, 3) := by decide +kernel
theorem d1_24 : decode prog_54_method_49_code 24 = .ok (.iload_n 0, 1) := by decide +kernel
theorem d1_25 : decode prog_54_method_49_code 25 = .ok (.sipush 192, 3) := by decide +kernel
theorem d1_28 : decode prog_54_method_49_code 28 = .ok (.if_icmp .lt 10, 3) := by decide +kernel
theorem d1_31 : decode prog_54_method_49_code 31 = .ok (.iload_n 0, 1) := by decide +kernel
theorem d1_32 : decode prog_54_method_49_code 32 = .ok (.sipush 214, 3) := by decide +kernel
theorem d1_35 : decode prog_54_method_49_code 35 = .ok (.if_icmp .le 157, 3) := by decide +kernel
theorem d1_38 : decode prog_54_method_49_code 38 = .ok (.iload_n 0, 1) := by decide +kernel
theorem d1_39 : decode prog_54_method_49_code 39 = .ok (.sipush 216, 3) := by decide +kernel
theorem d1_42 : decode prog_54_method_49_code 42 = .ok (.if_icmp .lt 10, 3) := by decide +kernel
theorem d1_45 : decode prog_54_method_49_code 45 = .ok (.iload_n 0, 1) := by decide +kernel
theorem d1_46 : decode prog_54_method_49_code 46 = .ok (.sipush 246, 3) := by decide +kernel
theorem d1_49 : decode prog_54_method_49_code 49 = .ok (.if_icmp .le 143, 3) := by decide +kernel
theorem d1_52 : decode prog_54_method_49_code 52 = .ok (.iload_n 0, 1) := by decide +kernel
theorem d1_53 : decode prog_54_method_49_code 53 = .ok (.sipush 248, 3) := by decide +kernel
theorem d1_56 : decode prog_54_method_49_code 56 = .ok (.if_icmp .lt 10, 3) := by decide +kernel
theorem d1_59 : decode prog_54_method_49_code 59 = .ok (.iload_n 0, 1) := by decide +kernel
theorem d1_60 : decode prog_54_method_49_code 60 = .ok (.sipush 767, 3) := by decide +kernel
theorem d1_63 : decode prog_54_method_49_code 63 = .ok (.if_icmp .le 129, 3) := by decide +kernel
theorem d1_66 : decode prog_54_method_49_code 66 = .ok (.iload_n 0, 1) := by decide +kernel
theorem d1_67 : decode prog_54_method_49_code 67 = .ok (.sipush 880, 3) := by decide +kernel
theorem d1_70 : decode prog_54_method_49_code 70 = .ok (.if_icmp .lt 10, 3) := by decide +kernel
theorem d1_73 : decode prog_54_method_49_code 73 = .ok (.iload_n 0, 1) := by decide +kernel
theorem d1_74 : decode prog_54_method_49_code 74 = .ok (.sipush 893, 3) := by decide +kernel
theorem d1_77 : decode prog_54_method_49_code 77 = .ok (.if_icmp .le 115, 3) := by decide +kernel
theorem d1_80 : decode prog_54_method_49_code 80 = .ok (.iload_n 0, 1) := by decide +kernel
theorem d1_81 : decode prog_54_method_49_code 81 = .ok (.sipush 895, 3) := by decide +kernel
theorem d1_84 : decode prog_54_method_49_code 84 = .ok (.if_icmp .lt 10, 3) := by decide +kernel
theorem d1_87 : decode prog_54_method_49_code 87 = .ok (.iload_n 0, 1) := by decide +kernel
theorem d1_88 : decode prog_54_method_49_code 88 = .ok (.sipush 8191, 3) := by decide +kernel
theorem d1_91 : decode prog_54_method_49_code 91 = .ok (.if_icmp .le 101, 3) := by decide +kernel
theorem d1_94 : decode prog_54_method_49_code 94 = .ok (.iload_n 0, 1) := by decide +kernel
theorem d1_95 : decode prog_54_method_49_code 95 = .ok (.sipush 8204, 3) := by decide +kernel
theorem d1_98 : decode prog_54_method_49_code 98 = .ok (.if_icmp .lt 10, 3) := by decide +kernel
theorem d1_101 : decode prog_54_method_49_code 101 = .ok (.iload_n 0, 1) := by decide +kernel
theorem d1_102 : decode prog_54_method_49_code 102 = .ok (.sipush 8205, 3) := by decide +kernel
theorem d1_105 : decode prog_54_method_49_code 105 = .ok (.if_icmp .le 87, 3) := by decide +kernel
theorem d1_108 : decode prog_54_method_49_code 108 = .ok (.iload_n 0, 1) := by decide +kernel
theorem d1_109 : decode prog_54_method_49_code 109 = .ok (.sipush 8304, 3) := by decide +kernel
theorem d1_112 : decode prog_54_method_49_code 112 = .ok (.if_icmp .lt 10, 3) := by decide +kernel
theorem d1_115 : decode prog_54_method_49_code 115 = .ok (.iload_n 0, 1) := by decide +kernel
theorem d1_116 : decode prog_54_method_49_code 116 = .ok (.sipush 8591, 3) := by decide +kernel
theorem d1_119 : decode prog_54_method_49_code 119 = .ok (.if_icmp .le 73, 3) := by decide +kernel
theorem d1_122 : decode prog_54_method_49_code 122 = .ok (.iload_n 0, 1) := by decide +kernel
theorem d1_123 : decode prog_54_method_49_code 123 = .ok (.sipush 11264, 3) := by decide +kernel
theorem d1_126 : decode prog_54_method_49_code 126 = .ok (.if_icmp .lt 10, 3) := by decide +kernel
theorem d1_129 : decode prog_54_method_49_code 129 = .ok (.iload_n 0, 1) := by decide +kernel
theorem d1_130 : decode prog_54_method_49_code 130 = .ok (.sipush 12271, 3) := by decide +kernel
theorem d1_133 : decode prog_54_method_49_code 133 = .ok (.if_icmp .le 59, 3) := by decide +kernel
theorem d1_136 : decode prog_54_method_49_code 136 = .ok (.iload_n 0, 1) := by decide +kernel
theorem d1_137 : decode prog_54_method_49_code 137 = .ok (.sipush 12289, 3) := by decide +kernel
theorem d1_140 : decode prog_54_method_49_code 140 = .ok (.if_icmp .lt 10, 3) := by decide +kernel
theorem d1_143 : decode prog_54_method_49_code 143 = .ok (.iload_n 0, 1) := by decide +kernel
theorem d1_144 : decode prog_54_method_49_code 144 = .ok (.ldc_w 374, 3) := by decide +kernel
theorem d1_147 : decode prog_54_method_49_code 147 = .ok (.if_icmp .le 45, 3) := by decide +kernel
theorem d1_150 : decode prog_54_method_49_code 150 = .ok (.iload_n 0, 1) := by decide +kernel
theorem d1_151 : decode prog_54_method_49_code 151 = .ok (.ldc_w 375, 3) := by decide +kernel
theorem d1_154 : decode prog_54_method_49_code 154 = .ok (.if_icmp .lt 10, 3) := by decide +kernel
theorem d1_157 : decode prog_54_method_49_code 157 = .ok (.iload_n 0, 1) := by decide +kernel
theorem d1_158 : decode prog_54_method_49_code 158 = .ok (.ldc_w 376, 3) := by decide +kernel
theorem d1_161 : decode prog_54_method_49_code 161 = .ok (.if_icmp .le 31, 3) := by decide +kernel
theorem d1_164 : decode prog_54_method_49_code 164 = .ok (.iload_n 0, 1) := by decide +kernel
theorem d1_165 : decode prog_54_method_49_code 165 = .ok (.ldc_w 377, 3) := by decide +kernel
theorem d1_168 : decode prog_54_method_49_code 168 = .ok (.if_icmp .lt 10, 3) := by decide +kernel
theorem d1_171 : decode prog_54_method_49_code 171 = .ok (.iload_n 0, 1) := by decide +kernel
theorem d1_172 : decode prog_54_method_49_code 172 = .ok (.ldc_w 378, 3) := by decide +kernel
theorem d1_175 : decode prog_54_method_49_code 175 = .ok (.if_icmp .le 17, 3) := by decide +kernel
theorem d1_178 : decode prog_54_method_49_code 178 = .ok (.iload_n 0, 1) := by decide +kernel
theorem d1_179 : decode prog_54_method_49_code 179 = .ok (.ldc_w 379, 3) := by decide +kernel
theorem d1_182 : decode prog_54_method_49_code 182 = .ok (.if_icmp .lt 14, 3) := by decide +kernel
theorem d1_185 : decode prog_54_method_49_code 185 = .ok (.iload_n 0, 1) := by decide +kernel
theorem d1_186 : decode prog_54_method_49_code 186 = .ok (.ldc_w 380, 3) := by decide +kernel
theorem d1_189 : decode prog_54_method_49_code 189 = .ok (.if_icmp .gt 7, 3) := by decide +kernel
theorem d1_192 : decode prog_54_method_49_code 192 = .ok (.iconst 1, 1) := by decide +kernel
theorem d1_193 : decode prog_54_method_49_code 193 = .ok (.goto 4, 3) := by decide +kernel
theorem d1_196 : decode prog_54_method_49_code 196 = .ok (.iconst 0, 1) := by decide +kernel
theorem d1_197 : decode prog_54_method_49_code 197 = .ok (.ireturn, 1) := by decide +kernel
def F1_196 : Int32 := (0 : Int32)
theorem b1_196 {p : Program} {l : Launch} {e : Env} {R : Room} {s : State} {m : MethodId} {args : Array Value} {below : List Frame} {meth : Method} {c : Code} {T : State} {locs : List Loc} {cells slots : Nat} {Z : State} {a0 : Array Value} (X : Stand p l e R s m args below meth c T locs cells slots) (hx : p.tables.exec = Jvm.exec) (hZ : Z.Warmed39 s.vm) (hw : ∀ d ∈ tables_1, d.before a0 Z = true) (hby : c.code = prog_54_method_49_code) (hown : s.vm.findClass "com/example/triplewright/triplewright/rdf/TextScanner" = some m.cls) (v0 : Int32) (hret : meth.sig.returnType = some .boolean) {fs : List Frame} (hr : ∀ (f : JFrame) (acts : List Action), f.method = m → f.locked = none → f.entered = [] → (doReturn e (T.setTop f) acts (some (.int F1_196))).1 = T.setFrames fs) : Steps p.tables e below (T.setTop (mkF m 196 #[.val (.int v0)] [])) (T.setFrames fs) := by
  show Steps p.tables e below (T.setTop (mkF m 196 #[.val (.int v0)] [])) _
  refine XS.iconst X.here hx rfl (hb hby d1_196) ?_
  show Steps p.tables e below (T.setTop (mkF m 197 #[.val (.int v0)] [(.int (0 : Int32))])) _
  rw [show F1_196 = nar .boolean (0 : Int32) from rfl] at hr
  exact retN X hx (t := .boolean) hret (by simp) (hb hby d1_197) hr
def F1_192 : Int32 := (1 : Int32)
theorem b1_192 {p : Program} {l : Launch} {e : Env} {R : Room} {s : State} {m : MethodId} {args : Array Value} {below : List Frame} {meth : Method} {c : Code} {T : State} {locs : List Loc} {cells slots : Nat} {Z : State} {a0 : Array Value} (X : Stand p l e R s m args below meth c T locs cells slots) (hx : p.tables.exec = Jvm.exec) (hZ : Z.Warmed39 s.vm) (hw : ∀ d ∈ tables_1, d.before a0 Z = true) (hby : c.code = prog_54_method_49_code) (hown : s.vm.findClass "com/example/triplewright/triplewright/rdf/TextScanner" = some m.cls) (v0 : Int32) (hret : meth.sig.returnType = some .boolean) {fs : List Frame} (hr : ∀ (f : JFrame) (acts : List Action), f.method = m → f.locked = none → f.entered = [] → (doReturn e (T.setTop f) acts (some (.int F1_192))).1 = T.setFrames fs) : Steps p.tables e below (T.setTop (mkF m 192 #[.val (.int v0)] [])) (T.setFrames fs) := by
  show Steps p.tables e below (T.setTop (mkF m 192 #[.val (.int v0)] [])) _
  refine XS.iconst X.here hx rfl (hb hby d1_192) ?_
  show Steps p.tables e below (T.setTop (mkF m 193 #[.val (.int v0)] [(.int (1 : Int32))])) _
  refine XS.goto X.here hx rfl (pc0 := 193) (pc' := 197) rfl (hb hby d1_193) (by decide) (by decide) ?_
  show Steps p.tables e below (T.setTop (mkF m 197 #[.val (.int v0)] [(.int (1 : Int32))])) _
  rw [show F1_192 = nar .boolean (1 : Int32) from rfl] at hr
  exact retN X hx (t := .boolean) hret (by simp) (hb hby d1_197) hr
def F1_185 (v0 : Int32) : Int32 := if (983039 : Int32) < v0 then F1_196 else F1_192
theorem b1_185 {p : Program} {l : Launch} {e : Env} {R : Room} {s : State} {m : MethodId} {args : Array Value} {below : List Frame} {meth : Method} {c : Code} {T : State} {locs : List Loc} {cells slots : Nat} {Z : State} {a0 : Array Value} (X : Stand p l e R s m args below meth c T locs cells slots) (hx : p.tables.exec = Jvm.exec) (hZ : Z.Warmed39 s.vm) (hw : ∀ d ∈ tables_1, d.before a0 Z = true) (hby : c.code = prog_54_method_49_code) (hown : s.vm.findClass "com/example/triplewright/triplewright/rdf/TextScanner" = some m.cls) (v0 : Int32) (hret : meth.sig.returnType = some .boolean) {fs : List Frame} (hr : ∀ (f : JFrame) (acts : List Action), f.method = m → f.locked = none → f.entered = [] → (doReturn e (T.setTop f) acts (some (.int (F1_185 v0)))).1 = T.setFrames fs) : Steps p.tables e below (T.setTop (mkF m 185 #[.val (.int v0)] [])) (T.setFrames fs) := by
  show Steps p.tables e below (T.setTop (mkF m 185 #[.val (.int v0)] [])) _
  refine XS.iloadN X.here hx rfl (hb hby d1_185) rfl ?_
  show Steps p.tables e below (T.setTop (mkF m 186 #[.val (.int v0)] [(.int v0)])) _
  refine X.ldcwInt hx hown (mvT hZ (hw _ (List.mem_of_getElem? (i := 27) rfl))) (g := (mkF m 186 #[.val (.int v0)] [(.int v0)])) rfl (hb hby d1_186) _ ?_
  show Steps p.tables e below (T.setTop (mkF m 189 #[.val (.int v0)] [(.int (983039 : Int32)), (.int v0)])) _
  by_cases hc : (983039 : Int32) < v0
  · rw [show (F1_185 v0) = F1_196 from if_pos hc] at hr
    refine XS.icmpYes X.here hx rfl (pc0 := 189) (pc' := 196) rfl (hb hby d1_189) rfl (tlt hc).2.2.1 (by decide) (by decide) ?_
    exact b1_196 X hx hZ hw hby hown v0 hret hr
  · rw [show (F1_185 v0) = F1_192 from if_neg hc] at hr
    refine XS.icmpNo X.here hx rfl (hb hby d1_189) rfl (flt hc).2.2.1 ?_
    exact b1_192 X hx hZ hw hby hown v0 hret hr
def F1_178 (v0 : Int32) : Int32 := if v0 < (65536 : Int32) then F1_196 else (F1_185 v0)
theorem b1_178 {p : Program} {l : Launch} {e : Env} {R : Room} {s : State} {m : MethodId} {args : Array Value} {below : List Frame} {meth : Method} {c : Code} {T : State} {locs : List Loc} {cells slots : Nat} {Z : State} {a0 : Array Value} (X : Stand p l e R s m args below meth c T locs cells slots) (hx : p.tables.exec = Jvm.exec) (hZ : Z.Warmed39 s.vm) (hw : ∀ d ∈ tables_1, d.before a0 Z = true) (hby : c.code = prog_54_method_49_code) (hown : s.vm.findClass "com/example/triplewright/triplewright/rdf/TextScanner" = some m.cls) (v0 : Int32) (hret : meth.sig.returnType = some .boolean) {fs : List Frame} (hr : ∀ (f : JFrame) (acts : List Action), f.method = m → f.locked = none → f.entered = [] → (doReturn e (T.setTop f) acts (some (.int (F1_178 v0)))).1 = T.setFrames fs) : Steps p.tables e below (T.setTop (mkF m 178 #[.val (.int v0)] [])) (T.setFrames fs) := by
  show Steps p.tables e below (T.setTop (mkF m 178 #[.val (.int v0)] [])) _
  refine XS.iloadN X.here hx rfl (hb hby d1_178) rfl ?_
  show Steps p.tables e below (T.setTop (mkF m 179 #[.val (.int v0)] [(.int v0)])) _
  refine X.ldcwInt hx hown (mvT hZ (hw _ (List.mem_of_getElem? (i := 16) rfl))) (g := (mkF m 179 #[.val (.int v0)] [(.int v0)])) rfl (hb hby d1_179) _ ?_
  show Steps p.tables e below (T.setTop (mkF m 182 #[.val (.int v0)] [(.int (65536 : Int32)), (.int v0)])) _
  by_cases hc : v0 < (65536 : Int32)
  · rw [show (F1_178 v0) = F1_196 from if_pos hc] at hr
    refine XS.icmpYes X.here hx rfl (pc0 := 182) (pc' := 196) rfl (hb hby d1_182) rfl (tlt hc).1 (by decide) (by decide) ?_
    exact b1_196 X hx hZ hw hby hown v0 hret hr
  · rw [show (F1_178 v0) = (F1_185 v0) from if_neg hc] at hr
    refine XS.icmpNo X.here hx rfl (hb hby d1_182) rfl (flt hc).1 ?_
    exact b1_185 X hx hZ hw hby hown v0 hret hr
def F1_171 (v0 : Int32) : Int32 := if (65533 : Int32) < v0 then (F1_178 v0) else F1_192
theorem b1_171 {p : Program} {l : Launch} {e : Env} {R : Room} {s : State} {m : MethodId} {args : Array Value} {below : List Frame} {meth : Method} {c : Code} {T : State} {locs : List Loc} {cells slots : Nat} {Z : State} {a0 : Array Value} (X : Stand p l e R s m args below meth c T locs cells slots) (hx : p.tables.exec = Jvm.exec) (hZ : Z.Warmed39 s.vm) (hw : ∀ d ∈ tables_1, d.before a0 Z = true) (hby : c.code = prog_54_method_49_code) (hown : s.vm.findClass "com/example/triplewright/triplewright/rdf/TextScanner" = some m.cls) (v0 : Int32) (hret : meth.sig.returnType = some .boolean) {fs : List Frame} (hr : ∀ (f : JFrame) (acts : List Action), f.method = m → f.locked = none → f.entered = [] → (doReturn e (T.setTop f) acts (some (.int (F1_171 v0)))).1 = T.setFrames fs) : Steps p.tables e below (T.setTop (mkF m 171 #[.val (.int v0)] [])) (T.setFrames fs) := by
  show Steps p.tables e below (T.setTop (mkF m 171 #[.val (.int v0)] [])) _
  refine XS.iloadN X.here hx rfl (hb hby d1_171) rfl ?_
  show Steps p.tables e below (T.setTop (mkF m 172 #[.val (.int v0)] [(.int v0)])) _
  refine X.ldcwInt hx hown (mvT hZ (hw _ (List.mem_of_getElem? (i := 26) rfl))) (g := (mkF m 172 #[.val (.int v0)] [(.int v0)])) rfl (hb hby d1_172) _ ?_
  show Steps p.tables e below (T.setTop (mkF m 175 #[.val (.int v0)] [(.int (65533 : Int32)), (.int v0)])) _
  by_cases hc : (65533 : Int32) < v0
  · rw [show (F1_171 v0) = (F1_178 v0) from if_pos hc] at hr
    refine XS.icmpNo X.here hx rfl (hb hby d1_175) rfl (tlt hc).2.2.2 ?_
    exact b1_178 X hx hZ hw hby hown v0 hret hr
  · rw [show (F1_171 v0) = F1_192 from if_neg hc] at hr
    refine XS.icmpYes X.here hx rfl (pc0 := 175) (pc' := 192) rfl (hb hby d1_175) rfl (flt hc).2.2.2 (by decide) (by decide) ?_
    exact b1_192 X hx hZ hw hby hown v0 hret hr
def F1_164 (v0 : Int32) : Int32 := if v0 < (65008 : Int32) then (F1_178 v0) else (F1_171 v0)
theorem b1_164 {p : Program} {l : Launch} {e : Env} {R : Room} {s : State} {m : MethodId} {args : Array Value} {below : List Frame} {meth : Method} {c : Code} {T : State} {locs : List Loc} {cells slots : Nat} {Z : State} {a0 : Array Value} (X : Stand p l e R s m args below meth c T locs cells slots) (hx : p.tables.exec = Jvm.exec) (hZ : Z.Warmed39 s.vm) (hw : ∀ d ∈ tables_1, d.before a0 Z = true) (hby : c.code = prog_54_method_49_code) (hown : s.vm.findClass "com/example/triplewright/triplewright/rdf/TextScanner" = some m.cls) (v0 : Int32) (hret : meth.sig.returnType = some .boolean) {fs : List Frame} (hr : ∀ (f : JFrame) (acts : List Action), f.method = m → f.locked = none → f.entered = [] → (doReturn e (T.setTop f) acts (some (.int (F1_164 v0)))).1 = T.setFrames fs) : Steps p.tables e below (T.setTop (mkF m 164 #[.val (.int v0)] [])) (T.setFrames fs) := by
  show Steps p.tables e below (T.setTop (mkF m 164 #[.val (.int v0)] [])) _
  refine XS.iloadN X.here hx rfl (hb hby d1_164) rfl ?_
  show Steps p.tables e below (T.setTop (mkF m 165 #[.val (.int v0)] [(.int v0)])) _
  refine X.ldcwInt hx hown (mvT hZ (hw _ (List.mem_of_getElem? (i := 15) rfl))) (g := (mkF m 165 #[.val (.int v0)] [(.int v0)])) rfl (hb hby d1_165) _ ?_
  show Steps p.tables e below (T.setTop (mkF m 168 #[.val (.int v0)] [(.int (65008 : Int32)), (.int v0)])) _
  by_cases hc : v0 < (65008 : Int32)
  · rw [show (F1_164 v0) = (F1_178 v0) from if_pos hc] at hr
    refine XS.icmpYes X.here hx rfl (pc0 := 168) (pc' := 178) rfl (hb hby d1_168) rfl (tlt hc).1 (by decide) (by decide) ?_
    exact b1_178 X hx hZ hw hby hown v0 hret hr
  · rw [show (F1_164 v0) = (F1_171 v0) from if_neg hc] at hr
    refine XS.icmpNo X.here hx rfl (hb hby d1_168) rfl (flt hc).1 ?_
    exact b1_171 X hx hZ hw hby hown v0 hret hr
def F1_157 (v0 : Int32) : Int32 := if (64975 : Int32) < v0 then (F1_164 v0) else F1_192
theorem b1_157 {p : Program} {l : Launch} {e : Env} {R : Room} {s : State} {m : MethodId} {args : Array Value} {below : List Frame} {meth : Method} {c : Code} {T : State} {locs : List Loc} {cells slots : Nat} {Z : State} {a0 : Array Value} (X : Stand p l e R s m args below meth c T locs cells slots) (hx : p.tables.exec = Jvm.exec) (hZ : Z.Warmed39 s.vm) (hw : ∀ d ∈ tables_1, d.before a0 Z = true) (hby : c.code = prog_54_method_49_code) (hown : s.vm.findClass "com/example/triplewright/triplewright/rdf/TextScanner" = some m.cls) (v0 : Int32) (hret : meth.sig.returnType = some .boolean) {fs : List Frame} (hr : ∀ (f : JFrame) (acts : List Action), f.method = m → f.locked = none → f.entered = [] → (doReturn e (T.setTop f) acts (some (.int (F1_157 v0)))).1 = T.setFrames fs) : Steps p.tables e below (T.setTop (mkF m 157 #[.val (.int v0)] [])) (T.setFrames fs) := by
  show Steps p.tables e below (T.setTop (mkF m 157 #[.val (.int v0)] [])) _
  refine XS.iloadN X.here hx rfl (hb hby d1_157) rfl ?_
  show Steps p.tables e below (T.setTop (mkF m 158 #[.val (.int v0)] [(.int v0)])) _
  refine X.ldcwInt hx hown (mvT hZ (hw _ (List.mem_of_getElem? (i := 25) rfl))) (g := (mkF m 158 #[.val (.int v0)] [(.int v0)])) rfl (hb hby d1_158) _ ?_
  show Steps p.tables e below (T.setTop (mkF m 161 #[.val (.int v0)] [(.int (64975 : Int32)), (.int v0)])) _
  by_cases hc : (64975 : Int32) < v0
  · rw [show (F1_157 v0) = (F1_164 v0) from if_pos hc] at hr
    refine XS.icmpNo X.here hx rfl (hb hby d1_161) rfl (tlt hc).2.2.2 ?_
    exact b1_164 X hx hZ hw hby hown v0 hret hr
  · rw [show (F1_157 v0) = F1_192 from if_neg hc] at hr
    refine XS.icmpYes X.here hx rfl (pc0 := 161) (pc' := 192) rfl (hb hby d1_161) rfl (flt hc).2.2.2 (by decide) (by decide) ?_
    exact b1_192 X hx hZ hw hby hown v0 hret hr
def F1_150 (v0 : Int32) : Int32 := if v0 < (63744 : Int32) then (F1_164 v0) else (F1_157 v0)
theorem b1_150 {p : Program} {l : Launch} {e : Env} {R : Room} {s : State} {m : MethodId} {args : Array Value} {below : List Frame} {meth : Method} {c : Code} {T : State} {locs : List Loc} {cells slots : Nat} {Z : State} {a0 : Array Value} (X : Stand p l e R s m args below meth c T locs cells slots) (hx : p.tables.exec = Jvm.exec) (hZ : Z.Warmed39 s.vm) (hw : ∀ d ∈ tables_1, d.before a0 Z = true) (hby : c.code = prog_54_method_49_code) (hown : s.vm.findClass "com/example/triplewright/triplewright/rdf/TextScanner" = some m.cls) (v0 : Int32) (hret : meth.sig.returnType = some .boolean) {fs : List Frame} (hr : ∀ (f : JFrame) (acts : List Action), f.method = m → f.locked = none → f.entered = [] → (doReturn e (T.setTop f) acts (some (.int (F1_150 v0)))).1 = T.setFrames fs) : Steps p.tables e below (T.setTop (mkF m 150 #[.val (.int v0)] [])) (T.setFrames fs) := by
  show Steps p.tables e below (T.setTop (mkF m 150 #[.val (.int v0)] [])) _
  refine XS.iloadN X.here hx rfl (hb hby d1_150) rfl ?_
  show Steps p.tables e below (T.setTop (mkF m 151 #[.val (.int v0)] [(.int v0)])) _
  refine X.ldcwInt hx hown (mvT hZ (hw _ (List.mem_of_getElem? (i := 14) rfl))) (g := (mkF m 151 #[.val (.int v0)] [(.int v0)])) rfl (hb hby d1_151) _ ?_
  show Steps p.tables e below (T.setTop (mkF m 154 #[.val (.int v0)] [(.int (63744 : Int32)), (.int v0)])) _
  by_cases hc : v0 < (63744 : Int32)
  · rw [show (F1_150 v0) = (F1_164 v0) from if_pos hc] at hr
    refine XS.icmpYes X.here hx rfl (pc0 := 154) (pc' := 164) rfl (hb hby d1_154) rfl (tlt hc).1 (by decide) (by decide) ?_
    exact b1_164 X hx hZ hw hby hown v0 hret hr
  · rw [show (F1_150 v0) = (F1_157 v0) from if_neg hc] at hr
    refine XS.icmpNo X.here hx rfl (hb hby d1_154) rfl (flt hc).1 ?_
    exact b1_157 X hx hZ hw hby hown v0 hret hr
def F1_143 (v0 : Int32) : Int32 := if (55295 : Int32) < v0 then (F1_150 v0) else F1_192
theorem b1_143 {p : Program} {l : Launch} {e : Env} {R : Room} {s : State} {m : MethodId} {args : Array Value} {below : List Frame} {meth : Method} {c : Code} {T : State} {locs : List Loc} {cells slots : Nat} {Z : State} {a0 : Array Value} (X : Stand p l e R s m args below meth c T locs cells slots) (hx : p.tables.exec = Jvm.exec) (hZ : Z.Warmed39 s.vm) (hw : ∀ d ∈ tables_1, d.before a0 Z = true) (hby : c.code = prog_54_method_49_code) (hown : s.vm.findClass "com/example/triplewright/triplewright/rdf/TextScanner" = some m.cls) (v0 : Int32) (hret : meth.sig.returnType = some .boolean) {fs : List Frame} (hr : ∀ (f : JFrame) (acts : List Action), f.method = m → f.locked = none → f.entered = [] → (doReturn e (T.setTop f) acts (some (.int (F1_143 v0)))).1 = T.setFrames fs) : Steps p.tables e below (T.setTop (mkF m 143 #[.val (.int v0)] [])) (T.setFrames fs) := by
  show Steps p.tables e below (T.setTop (mkF m 143 #[.val (.int v0)] [])) _
  refine XS.iloadN X.here hx rfl (hb hby d1_143) rfl ?_
  show Steps p.tables e below (T.setTop (mkF m 144 #[.val (.int v0)] [(.int v0)])) _
  refine X.ldcwInt hx hown (mvT hZ (hw _ (List.mem_of_getElem? (i := 24) rfl))) (g := (mkF m 144 #[.val (.int v0)] [(.int v0)])) rfl (hb hby d1_144) _ ?_
  show Steps p.tables e below (T.setTop (mkF m 147 #[.val (.int v0)] [(.int (55295 : Int32)), (.int v0)])) _
  by_cases hc : (55295 : Int32) < v0
  · rw [show (F1_143 v0) = (F1_150 v0) from if_pos hc] at hr
    refine XS.icmpNo X.here hx rfl (hb hby d1_147) rfl (tlt hc).2.2.2 ?_
    exact b1_150 X hx hZ hw hby hown v0 hret hr
  · rw [show (F1_143 v0) = F1_192 from if_neg hc] at hr
    refine XS.icmpYes X.here hx rfl (pc0 := 147) (pc' := 192) rfl (hb hby d1_147) rfl (flt hc).2.2.2 (by decide) (by decide) ?_
    exact b1_192 X hx hZ hw hby hown v0 hret hr
def F1_136 (v0 : Int32) : Int32 := if v0 < (12289 : Int32) then (F1_150 v0) else (F1_143 v0)
theorem b1_136 {p : Program} {l : Launch} {e : Env} {R : Room} {s : State} {m : MethodId} {args : Array Value} {below : List Frame} {meth : Method} {c : Code} {T : State} {locs : List Loc} {cells slots : Nat} {Z : State} {a0 : Array Value} (X : Stand p l e R s m args below meth c T locs cells slots) (hx : p.tables.exec = Jvm.exec) (hZ : Z.Warmed39 s.vm) (hw : ∀ d ∈ tables_1, d.before a0 Z = true) (hby : c.code = prog_54_method_49_code) (hown : s.vm.findClass "com/example/triplewright/triplewright/rdf/TextScanner" = some m.cls) (v0 : Int32) (hret : meth.sig.returnType = some .boolean) {fs : List Frame} (hr : ∀ (f : JFrame) (acts : List Action), f.method = m → f.locked = none → f.entered = [] → (doReturn e (T.setTop f) acts (some (.int (F1_136 v0)))).1 = T.setFrames fs) : Steps p.tables e below (T.setTop (mkF m 136 #[.val (.int v0)] [])) (T.setFrames fs) := by
  show Steps p.tables e below (T.setTop (mkF m 136 #[.val (.int v0)] [])) _
  refine XS.iloadN X.here hx rfl (hb hby d1_136) rfl ?_
  show Steps p.tables e below (T.setTop (mkF m 137 #[.val (.int v0)] [(.int v0)])) _
  refine XS.sipush X.here hx rfl (hb hby d1_137) ?_
  show Steps p.tables e below (T.setTop (mkF m 140 #[.val (.int v0)] [(.int (12289 : Int32)), (.int v0)])) _
  by_cases hc : v0 < (12289 : Int32)
  · rw [show (F1_136 v0) = (F1_150 v0) from if_pos hc] at hr
    refine XS.icmpYes X.here hx rfl (pc0 := 140) (pc' := 150) rfl (hb hby d1_140) rfl (tlt hc).1 (by decide) (by decide) ?_
    exact b1_150 X hx hZ hw hby hown v0 hret hr
  · rw [show (F1_136 v0) = (F1_143 v0) from if_neg hc] at hr
    refine XS.icmpNo X.here hx rfl (hb hby d1_140) rfl (flt hc).1 ?_
    exact b1_143 X hx hZ hw hby hown v0 hret hr
def F1_129 (v0 : Int32) : Int32 := if (12271 : Int32) < v0 then (F1_136 v0) else F1_192
theorem b1_129 {p : Program} {l : Launch} {e : Env} {R : Room} {s : State} {m : MethodId} {args : Array Value} {below : List Frame} {meth : Method} {c : Code} {T : State} {locs : List Loc} {cells slots : Nat} {Z : State} {a0 : Array Value} (X : Stand p l e R s m args below meth c T locs cells slots) (hx : p.tables.exec = Jvm.exec) (hZ : Z.Warmed39 s.vm) (hw : ∀ d ∈ tables_1, d.before a0 Z = true) (hby : c.code = prog_54_method_49_code) (hown : s.vm.findClass "com/example/triplewright/triplewright/rdf/TextScanner" = some m.cls) (v0 : Int32) (hret : meth.sig.returnType = some .boolean) {fs : List Frame} (hr : ∀ (f : JFrame) (acts : List Action), f.method = m → f.locked = none → f.entered = [] → (doReturn e (T.setTop f) acts (some (.int (F1_129 v0)))).1 = T.setFrames fs) : Steps p.tables e below (T.setTop (mkF m 129 #[.val (.int v0)] [])) (T.setFrames fs) := by
  show Steps p.tables e below (T.setTop (mkF m 129 #[.val (.int v0)] [])) _
  refine XS.iloadN X.here hx rfl (hb hby d1_129) rfl ?_
  show Steps p.tables e below (T.setTop (mkF m 130 #[.val (.int v0)] [(.int v0)])) _
  refine XS.sipush X.here hx rfl (hb hby d1_130) ?_
  show Steps p.tables e below (T.setTop (mkF m 133 #[.val (.int v0)] [(.int (12271 : Int32)), (.int v0)])) _
  by_cases hc : (12271 : Int32) < v0
  · rw [show (F1_129 v0) = (F1_136 v0) from if_pos hc] at hr
    refine XS.icmpNo X.here hx rfl (hb hby d1_133) rfl (tlt hc).2.2.2 ?_
    exact b1_136 X hx hZ hw hby hown v0 hret hr
  · rw [show (F1_129 v0) = F1_192 from if_neg hc] at hr
    refine XS.icmpYes X.here hx rfl (pc0 := 133) (pc' := 192) rfl (hb hby d1_133) rfl (flt hc).2.2.2 (by decide) (by decide) ?_
    exact b1_192 X hx hZ hw hby hown v0 hret hr
def F1_122 (v0 : Int32) : Int32 := if v0 < (11264 : Int32) then (F1_136 v0) else (F1_129 v0)
theorem b1_122 {p : Program} {l : Launch} {e : Env} {R : Room} {s : State} {m : MethodId} {args : Array Value} {below : List Frame} {meth : Method} {c : Code} {T : State} {locs : List Loc} {cells slots : Nat} {Z : State} {a0 : Array Value} (X : Stand p l e R s m args below meth c T locs cells slots) (hx : p.tables.exec = Jvm.exec) (hZ : Z.Warmed39 s.vm) (hw : ∀ d ∈ tables_1, d.before a0 Z = true) (hby : c.code = prog_54_method_49_code) (hown : s.vm.findClass "com/example/triplewright/triplewright/rdf/TextScanner" = some m.cls) (v0 : Int32) (hret : meth.sig.returnType = some .boolean) {fs : List Frame} (hr : ∀ (f : JFrame) (acts : List Action), f.method = m → f.locked = none → f.entered = [] → (doReturn e (T.setTop f) acts (some (.int (F1_122 v0)))).1 = T.setFrames fs) : Steps p.tables e below (T.setTop (mkF m 122 #[.val (.int v0)] [])) (T.setFrames fs) := by
  show Steps p.tables e below (T.setTop (mkF m 122 #[.val (.int v0)] [])) _
  refine XS.iloadN X.here hx rfl (hb hby d1_122) rfl ?_
  show Steps p.tables e below (T.setTop (mkF m 123 #[.val (.int v0)] [(.int v0)])) _
  refine XS.sipush X.here hx rfl (hb hby d1_123) ?_
  show Steps p.tables e below (T.setTop (mkF m 126 #[.val (.int v0)] [(.int (11264 : Int32)), (.int v0)])) _
  by_cases hc : v0 < (11264 : Int32)
  · rw [show (F1_122 v0) = (F1_136 v0) from if_pos hc] at hr
    refine XS.icmpYes X.here hx rfl (pc0 := 126) (pc' := 136) rfl (hb hby d1_126) rfl (tlt hc).1 (by decide) (by decide) ?_
    exact b1_136 X hx hZ hw hby hown v0 hret hr
  · rw [show (F1_122 v0) = (F1_129 v0) from if_neg hc] at hr
    refine XS.icmpNo X.here hx rfl (hb hby d1_126) rfl (flt hc).1 ?_
    exact b1_129 X hx hZ hw hby hown v0 hret hr
def F1_115 (v0 : Int32) : Int32 := if (8591 : Int32) < v0 then (F1_122 v0) else F1_192
theorem b1_115 {p : Program} {l : Launch} {e : Env} {R : Room} {s : State} {m : MethodId} {args : Array Value} {below : List Frame} {meth : Method} {c : Code} {T : State} {locs : List Loc} {cells slots : Nat} {Z : State} {a0 : Array Value} (X : Stand p l e R s m args below meth c T locs cells slots) (hx : p.tables.exec = Jvm.exec) (hZ : Z.Warmed39 s.vm) (hw : ∀ d ∈ tables_1, d.before a0 Z = true) (hby : c.code = prog_54_method_49_code) (hown : s.vm.findClass "com/example/triplewright/triplewright/rdf/TextScanner" = some m.cls) (v0 : Int32) (hret : meth.sig.returnType = some .boolean) {fs : List Frame} (hr : ∀ (f : JFrame) (acts : List Action), f.method = m → f.locked = none → f.entered = [] → (doReturn e (T.setTop f) acts (some (.int (F1_115 v0)))).1 = T.setFrames fs) : Steps p.tables e below (T.setTop (mkF m 115 #[.val (.int v0)] [])) (T.setFrames fs) := by
  show Steps p.tables e below (T.setTop (mkF m 115 #[.val (.int v0)] [])) _
  refine XS.iloadN X.here hx rfl (hb hby d1_115) rfl ?_
  show Steps p.tables e below (T.setTop (mkF m 116 #[.val (.int v0)] [(.int v0)])) _
  refine XS.sipush X.here hx rfl (hb hby d1_116) ?_
  show Steps p.tables e below (T.setTop (mkF m 119 #[.val (.int v0)] [(.int (8591 : Int32)), (.int v0)])) _
  by_cases hc : (8591 : Int32) < v0
  · rw [show (F1_115 v0) = (F1_122 v0) from if_pos hc] at hr
    refine XS.icmpNo X.here hx rfl (hb hby d1_119) rfl (tlt hc).2.2.2 ?_
    exact b1_122 X hx hZ hw hby hown v0 hret hr
  · rw [show (F1_115 v0) = F1_192 from if_neg hc] at hr
    refine XS.icmpYes X.here hx rfl (pc0 := 119) (pc' := 192) rfl (hb hby d1_119) rfl (flt hc).2.2.2 (by decide) (by decide) ?_
    exact b1_192 X hx hZ hw hby hown v0 hret hr
def F1_108 (v0 : Int32) : Int32 := if v0 < (8304 : Int32) then (F1_122 v0) else (F1_115 v0)
theorem b1_108 {p : Program} {l : Launch} {e : Env} {R : Room} {s : State} {m : MethodId} {args : Array Value} {below : List Frame} {meth : Method} {c : Code} {T : State} {locs : List Loc} {cells slots : Nat} {Z : State} {a0 : Array Value} (X : Stand p l e R s m args below meth c T locs cells slots) (hx : p.tables.exec = Jvm.exec) (hZ : Z.Warmed39 s.vm) (hw : ∀ d ∈ tables_1, d.before a0 Z = true) (hby : c.code = prog_54_method_49_code) (hown : s.vm.findClass "com/example/triplewright/triplewright/rdf/TextScanner" = some m.cls) (v0 : Int32) (hret : meth.sig.returnType = some .boolean) {fs : List Frame} (hr : ∀ (f : JFrame) (acts : List Action), f.method = m → f.locked = none → f.entered = [] → (doReturn e (T.setTop f) acts (some (.int (F1_108 v0)))).1 = T.setFrames fs) : Steps p.tables e below (T.setTop (mkF m 108 #[.val (.int v0)] [])) (T.setFrames fs) := by
  show Steps p.tables e below (T.setTop (mkF m 108 #[.val (.int v0)] [])) _
  refine XS.iloadN X.here hx rfl (hb hby d1_108) rfl ?_
  show Steps p.tables e below (T.setTop (mkF m 109 #[.val (.int v0)] [(.int v0)])) _
  refine XS.sipush X.here hx rfl (hb hby d1_109) ?_
  show Steps p.tables e below (T.setTop (mkF m 112 #[.val (.int v0)] [(.int (8304 : Int32)), (.int v0)])) _
  by_cases hc : v0 < (8304 : Int32)
  · rw [show (F1_108 v0) = (F1_122 v0) from if_pos hc] at hr
    refine XS.icmpYes X.here hx rfl (pc0 := 112) (pc' := 122) rfl (hb hby d1_112) rfl (tlt hc).1 (by decide) (by decide) ?_
    exact b1_122 X hx hZ hw hby hown v0 hret hr
  · rw [show (F1_108 v0) = (F1_115 v0) from if_neg hc] at hr
    refine XS.icmpNo X.here hx rfl (hb hby d1_112) rfl (flt hc).1 ?_
    exact b1_115 X hx hZ hw hby hown v0 hret hr
def F1_101 (v0 : Int32) : Int32 := if (8205 : Int32) < v0 then (F1_108 v0) else F1_192
theorem b1_101 {p : Program} {l : Launch} {e : Env} {R : Room} {s : State} {m : MethodId} {args : Array Value} {below : List Frame} {meth : Method} {c : Code} {T : State} {locs : List Loc} {cells slots : Nat} {Z : State} {a0 : Array Value} (X : Stand p l e R s m args below meth c T locs cells slots) (hx : p.tables.exec = Jvm.exec) (hZ : Z.Warmed39 s.vm) (hw : ∀ d ∈ tables_1, d.before a0 Z = true) (hby : c.code = prog_54_method_49_code) (hown : s.vm.findClass "com/example/triplewright/triplewright/rdf/TextScanner" = some m.cls) (v0 : Int32) (hret : meth.sig.returnType = some .boolean) {fs : List Frame} (hr : ∀ (f : JFrame) (acts : List Action), f.method = m → f.locked = none → f.entered = [] → (doReturn e (T.setTop f) acts (some (.int (F1_101 v0)))).1 = T.setFrames fs) : Steps p.tables e below (T.setTop (mkF m 101 #[.val (.int v0)] [])) (T.setFrames fs) := by
  show Steps p.tables e below (T.setTop (mkF m 101 #[.val (.int v0)] [])) _
  refine XS.iloadN X.here hx rfl (hb hby d1_101) rfl ?_
  show Steps p.tables e below (T.setTop (mkF m 102 #[.val (.int v0)] [(.int v0)])) _
  refine XS.sipush X.here hx rfl (hb hby d1_102) ?_
  show Steps p.tables e below (T.setTop (mkF m 105 #[.val (.int v0)] [(.int (8205 : Int32)), (.int v0)])) _
  by_cases hc : (8205 : Int32) < v0
  · rw [show (F1_101 v0) = (F1_108 v0) from if_pos hc] at hr
    refine XS.icmpNo X.here hx rfl (hb hby d1_105) rfl (tlt hc).2.2.2 ?_
    exact b1_108 X hx hZ hw hby hown v0 hret hr
  · rw [show (F1_101 v0) = F1_192 from if_neg hc] at hr
    refine XS.icmpYes X.here hx rfl (pc0 := 105) (pc' := 192) rfl (hb hby d1_105) rfl (flt hc).2.2.2 (by decide) (by decide) ?_
    exact b1_192 X hx hZ hw hby hown v0 hret hr
def F1_94 (v0 : Int32) : Int32 := if v0 < (8204 : Int32) then (F1_108 v0) else (F1_101 v0)
theorem b1_94 {p : Program} {l : Launch} {e : Env} {R : Room} {s : State} {m : MethodId} {args : Array Value} {below : List Frame} {meth : Method} {c : Code} {T : State} {locs : List Loc} {cells slots : Nat} {Z : State} {a0 : Array Value} (X : Stand p l e R s m args below meth c T locs cells slots) (hx : p.tables.exec = Jvm.exec) (hZ : Z.Warmed39 s.vm) (hw : ∀ d ∈ tables_1, d.before a0 Z = true) (hby : c.code = prog_54_method_49_code) (hown : s.vm.findClass "com/example/triplewright/triplewright/rdf/TextScanner" = some m.cls) (v0 : Int32) (hret : meth.sig.returnType = some .boolean) {fs : List Frame} (hr : ∀ (f : JFrame) (acts : List Action), f.method = m → f.locked = none → f.entered = [] → (doReturn e (T.setTop f) acts (some (.int (F1_94 v0)))).1 = T.setFrames fs) : Steps p.tables e below (T.setTop (mkF m 94 #[.val (.int v0)] [])) (T.setFrames fs) := by
  show Steps p.tables e below (T.setTop (mkF m 94 #[.val (.int v0)] [])) _
  refine XS.iloadN X.here hx rfl (hb hby d1_94) rfl ?_
  show Steps p.tables e below (T.setTop (mkF m 95 #[.val (.int v0)] [(.int v0)])) _
  refine XS.sipush X.here hx rfl (hb hby d1_95) ?_
  show Steps p.tables e below (T.setTop (mkF m 98 #[.val (.int v0)] [(.int (8204 : Int32)), (.int v0)])) _
  by_cases hc : v0 < (8204 : Int32)
  · rw [show (F1_94 v0) = (F1_108 v0) from if_pos hc] at hr
    refine XS.icmpYes X.here hx rfl (pc0 := 98) (pc' := 108) rfl (hb hby d1_98) rfl (tlt hc).1 (by decide) (by decide) ?_
    exact b1_108 X hx hZ hw hby hown v0 hret hr
  · rw [show (F1_94 v0) = (F1_101 v0) from if_neg hc] at hr
    refine XS.icmpNo X.here hx rfl (hb hby d1_98) rfl (flt hc).1 ?_
    exact b1_101 X hx hZ hw hby hown v0 hret hr
def F1_87 (v0 : Int32) : Int32 := if (8191 : Int32) < v0 then (F1_94 v0) else F1_192
theorem b1_87 {p : Program} {l : Launch} {e : Env} {R : Room} {s : State} {m : MethodId} {args : Array Value} {below : List Frame} {meth : Method} {c : Code} {T : State} {locs : List Loc} {cells slots : Nat} {Z : State} {a0 : Array Value} (X : Stand p l e R s m args below meth c T locs cells slots) (hx : p.tables.exec = Jvm.exec) (hZ : Z.Warmed39 s.vm) (hw : ∀ d ∈ tables_1, d.before a0 Z = true) (hby : c.code = prog_54_method_49_code) (hown : s.vm.findClass "com/example/triplewright/triplewright/rdf/TextScanner" = some m.cls) (v0 : Int32) (hret : meth.sig.returnType = some .boolean) {fs : List Frame} (hr : ∀ (f : JFrame) (acts : List Action), f.method = m → f.locked = none → f.entered = [] → (doReturn e (T.setTop f) acts (some (.int (F1_87 v0)))).1 = T.setFrames fs) : Steps p.tables e below (T.setTop (mkF m 87 #[.val (.int v0)] [])) (T.setFrames fs) := by
  show Steps p.tables e below (T.setTop (mkF m 87 #[.val (.int v0)] [])) _
  refine XS.iloadN X.here hx rfl (hb hby d1_87) rfl ?_
  show Steps p.tables e below (T.setTop (mkF m 88 #[.val (.int v0)] [(.int v0)])) _
  refine XS.sipush X.here hx rfl (hb hby d1_88) ?_
  show Steps p.tables e below (T.setTop (mkF m 91 #[.val (.int v0)] [(.int (8191 : Int32)), (.int v0)])) _
  by_cases hc : (8191 : Int32) < v0
  · rw [show (F1_87 v0) = (F1_94 v0) from if_pos hc] at hr
    refine XS.icmpNo X.here hx rfl (hb hby d1_91) rfl (tlt hc).2.2.2 ?_
    exact b1_94 X hx hZ hw hby hown v0 hret hr
  · rw [show (F1_87 v0) = F1_192 from if_neg hc] at hr
    refine XS.icmpYes X.here hx rfl (pc0 := 91) (pc' := 192) rfl (hb hby d1_91) rfl (flt hc).2.2.2 (by decide) (by decide) ?_
    exact b1_192 X hx hZ hw hby hown v0 hret hr
def F1_80 (v0 : Int32) : Int32 := if v0 < (895 : Int32) then (F1_94 v0) else (F1_87 v0)
theorem b1_80 {p : Program} {l : Launch} {e : Env} {R : Room} {s : State} {m : MethodId} {args : Array Value} {below : List Frame} {meth : Method} {c : Code} {T : State} {locs : List Loc} {cells slots : Nat} {Z : State} {a0 : Array Value} (X : Stand p l e R s m args below meth c T locs cells slots) (hx : p.tables.exec = Jvm.exec) (hZ : Z.Warmed39 s.vm) (hw : ∀ d ∈ tables_1, d.before a0 Z = true) (hby : c.code = prog_54_method_49_code) (hown : s.vm.findClass "com/example/triplewright/triplewright/rdf/TextScanner" = some m.cls) (v0 : Int32) (hret : meth.sig.returnType = some .boolean) {fs : List Frame} (hr : ∀ (f : JFrame) (acts : List Action), f.method = m → f.locked = none → f.entered = [] → (doReturn e (T.setTop f) acts (some (.int (F1_80 v0)))).1 = T.setFrames fs) : Steps p.tables e below (T.setTop (mkF m 80 #[.val (.int v0)] [])) (T.setFrames fs) := by
  show Steps p.tables e below (T.setTop (mkF m 80 #[.val (.int v0)] [])) _
  refine XS.iloadN X.here hx rfl (hb hby d1_80) rfl ?_
  show Steps p.tables e below (T.setTop (mkF m 81 #[.val (.int v0)] [(.int v0)])) _
  refine XS.sipush X.here hx rfl (hb hby d1_81) ?_
  show Steps p.tables e below (T.setTop (mkF m 84 #[.val (.int v0)] [(.int (895 : Int32)), (.int v0)])) _
  by_cases hc : v0 < (895 : Int32)
  · rw [show (F1_80 v0) = (F1_94 v0) from if_pos hc] at hr
    refine XS.icmpYes X.here hx rfl (pc0 := 84) (pc' := 94) rfl (hb hby d1_84) rfl (tlt hc).1 (by decide) (by decide) ?_
    exact b1_94 X hx hZ hw hby hown v0 hret hr
  · rw [show (F1_80 v0) = (F1_87 v0) from if_neg hc] at hr
    refine XS.icmpNo X.here hx rfl (hb hby d1_84) rfl (flt hc).1 ?_
    exact b1_87 X hx hZ hw hby hown v0 hret hr
def F1_73 (v0 : Int32) : Int32 := if (893 : Int32) < v0 then (F1_80 v0) else F1_192
theorem b1_73 {p : Program} {l : Launch} {e : Env} {R : Room} {s : State} {m : MethodId} {args : Array Value} {below : List Frame} {meth : Method} {c : Code} {T : State} {locs : List Loc} {cells slots : Nat} {Z : State} {a0 : Array Value} (X : Stand p l e R s m args below meth c T locs cells slots) (hx : p.tables.exec = Jvm.exec) (hZ : Z.Warmed39 s.vm) (hw : ∀ d ∈ tables_1, d.before a0 Z = true) (hby : c.code = prog_54_method_49_code) (hown : s.vm.findClass "com/example/triplewright/triplewright/rdf/TextScanner" = some m.cls) (v0 : Int32) (hret : meth.sig.returnType = some .boolean) {fs : List Frame} (hr : ∀ (f : JFrame) (acts : List Action), f.method = m → f.locked = none → f.entered = [] → (doReturn e (T.setTop f) acts (some (.int (F1_73 v0)))).1 = T.setFrames fs) : Steps p.tables e below (T.setTop (mkF m 73 #[.val (.int v0)] [])) (T.setFrames fs) := by
  show Steps p.tables e below (T.setTop (mkF m 73 #[.val (.int v0)] [])) _
  refine XS.iloadN X.here hx rfl (hb hby d1_73) rfl ?_
  show Steps p.tables e below (T.setTop (mkF m 74 #[.val (.int v0)] [(.int v0)])) _
  refine XS.sipush X.here hx rfl (hb hby d1_74) ?_
  show Steps p.tables e below (T.setTop (mkF m 77 #[.val (.int v0)] [(.int (893 : Int32)), (.int v0)])) _
  by_cases hc : (893 : Int32) < v0
  · rw [show (F1_73 v0) = (F1_80 v0) from if_pos hc] at hr
    refine XS.icmpNo X.here hx rfl (hb hby d1_77) rfl (tlt hc).2.2.2 ?_
    exact b1_80 X hx hZ hw hby hown v0 hret hr
  · rw [show (F1_73 v0) = F1_192 from if_neg hc] at hr
    refine XS.icmpYes X.here hx rfl (pc0 := 77) (pc' := 192) rfl (hb hby d1_77) rfl (flt hc).2.2.2 (by decide) (by decide) ?_
    exact b1_192 X hx hZ hw hby hown v0 hret hr
def F1_66 (v0 : Int32) : Int32 := if v0 < (880 : Int32) then (F1_80 v0) else (F1_73 v0)
theorem b1_66 {p : Program} {l : Launch} {e : Env} {R : Room} {s : State} {m : MethodId} {args : Array Value} {below : List Frame} {meth : Method} {c : Code} {T : State} {locs : List Loc} {cells slots : Nat} {Z : State} {a0 : Array Value} (X : Stand p l e R s m args below meth c T locs cells slots) (hx : p.tables.exec = Jvm.exec) (hZ : Z.Warmed39 s.vm) (hw : ∀ d ∈ tables_1, d.before a0 Z = true) (hby : c.code = prog_54_method_49_code) (hown : s.vm.findClass "com/example/triplewright/triplewright/rdf/TextScanner" = some m.cls) (v0 : Int32) (hret : meth.sig.returnType = some .boolean) {fs : List Frame} (hr : ∀ (f : JFrame) (acts : List Action), f.method = m → f.locked = none → f.entered = [] → (doReturn e (T.setTop f) acts (some (.int (F1_66 v0)))).1 = T.setFrames fs) : Steps p.tables e below (T.setTop (mkF m 66 #[.val (.int v0)] [])) (T.setFrames fs) := by
  show Steps p.tables e below (T.setTop (mkF m 66 #[.val (.int v0)] [])) _
  refine XS.iloadN X.here hx rfl (hb hby d1_66) rfl ?_
  show Steps p.tables e below (T.setTop (mkF m 67 #[.val (.int v0)] [(.int v0)])) _
  refine XS.sipush X.here hx rfl (hb hby d1_67) ?_
  show Steps p.tables e below (T.setTop (mkF m 70 #[.val (.int v0)] [(.int (880 : Int32)), (.int v0)])) _
  by_cases hc : v0 < (880 : Int32)
  · rw [show (F1_66 v0) = (F1_80 v0) from if_pos hc] at hr
    refine XS.icmpYes X.here hx rfl (pc0 := 70) (pc' := 80) rfl (hb hby d1_70) rfl (tlt hc).1 (by decide) (by decide) ?_
    exact b1_80 X hx hZ hw hby hown v0 hret hr
  · rw [show (F1_66 v0) = (F1_73 v0) from if_neg hc] at hr
    refine XS.icmpNo X.here hx rfl (hb hby d1_70) rfl (flt hc).1 ?_
    exact b1_73 X hx hZ hw hby hown v0 hret hr
def F1_59 (v0 : Int32) : Int32 := if (767 : Int32) < v0 then (F1_66 v0) else F1_192
theorem b1_59 {p : Program} {l : Launch} {e : Env} {R : Room} {s : State} {m : MethodId} {args : Array Value} {below : List Frame} {meth : Method} {c : Code} {T : State} {locs : List Loc} {cells slots : Nat} {Z : State} {a0 : Array Value} (X : Stand p l e R s m args below meth c T locs cells slots) (hx : p.tables.exec = Jvm.exec) (hZ : Z.Warmed39 s.vm) (hw : ∀ d ∈ tables_1, d.before a0 Z = true) (hby : c.code = prog_54_method_49_code) (hown : s.vm.findClass "com/example/triplewright/triplewright/rdf/TextScanner" = some m.cls) (v0 : Int32) (hret : meth.sig.returnType = some .boolean) {fs : List Frame} (hr : ∀ (f : JFrame) (acts : List Action), f.method = m → f.locked = none → f.entered = [] → (doReturn e (T.setTop f) acts (some (.int (F1_59 v0)))).1 = T.setFrames fs) : Steps p.tables e below (T.setTop (mkF m 59 #[.val (.int v0)] [])) (T.setFrames fs) := by
  show Steps p.tables e below (T.setTop (mkF m 59 #[.val (.int v0)] [])) _
  refine XS.iloadN X.here hx rfl (hb hby d1_59) rfl ?_
  show Steps p.tables e below (T.setTop (mkF m 60 #[.val (.int v0)] [(.int v0)])) _
  refine XS.sipush X.here hx rfl (hb hby d1_60) ?_
  show Steps p.tables e below (T.setTop (mkF m 63 #[.val (.int v0)] [(.int (767 : Int32)), (.int v0)])) _
  by_cases hc : (767 : Int32) < v0
  · rw [show (F1_59 v0) = (F1_66 v0) from if_pos hc] at hr
    refine XS.icmpNo X.here hx rfl (hb hby d1_63) rfl (tlt hc).2.2.2 ?_
    exact b1_66 X hx hZ hw hby hown v0 hret hr
  · rw [show (F1_59 v0) = F1_192 from if_neg hc] at hr
    refine XS.icmpYes X.here hx rfl (pc0 := 63) (pc' := 192) rfl (hb hby d1_63) rfl (flt hc).2.2.2 (by decide) (by decide) ?_
    exact b1_192 X hx hZ hw hby hown v0 hret hr
def F1_52 (v0 : Int32) : Int32 := if v0 < (248 : Int32) then (F1_66 v0) else (F1_59 v0)
theorem b1_52 {p : Program} {l : Launch} {e : Env} {R : Room} {s : State} {m : MethodId} {args : Array Value} {below : List Frame} {meth : Method} {c : Code} {T : State} {locs : List Loc} {cells slots : Nat} {Z : State} {a0 : Array Value} (X : Stand p l e R s m args below meth c T locs cells slots) (hx : p.tables.exec = Jvm.exec) (hZ : Z.Warmed39 s.vm) (hw : ∀ d ∈ tables_1, d.before a0 Z = true) (hby : c.code = prog_54_method_49_code) (hown : s.vm.findClass "com/example/triplewright/triplewright/rdf/TextScanner" = some m.cls) (v0 : Int32) (hret : meth.sig.returnType = some .boolean) {fs : List Frame} (hr : ∀ (f : JFrame) (acts : List Action), f.method = m → f.locked = none → f.entered = [] → (doReturn e (T.setTop f) acts (some (.int (F1_52 v0)))).1 = T.setFrames fs) : Steps p.tables e below (T.setTop (mkF m 52 #[.val (.int v0)] [])) (T.setFrames fs) := by
  show Steps p.tables e below (T.setTop (mkF m 52 #[.val (.int v0)] [])) _
  refine XS.iloadN X.here hx rfl (hb hby d1_52) rfl ?_
  show Steps p.tables e below (T.setTop (mkF m 53 #[.val (.int v0)] [(.int v0)])) _
  refine XS.sipush X.here hx rfl (hb hby d1_53) ?_
  show Steps p.tables e below (T.setTop (mkF m 56 #[.val (.int v0)] [(.int (248 : Int32)), (.int v0)])) _
  by_cases hc : v0 < (248 : Int32)
  · rw [show (F1_52 v0) = (F1_66 v0) from if_pos hc] at hr
    refine XS.icmpYes X.here hx rfl (pc0 := 56) (pc' := 66) rfl (hb hby d1_56) rfl (tlt hc).1 (by decide) (by decide) ?_
    exact b1_66 X hx hZ hw hby hown v0 hret hr
  · rw [show (F1_52 v0) = (F1_59 v0) from if_neg hc] at hr
    refine XS.icmpNo X.here hx rfl (hb hby d1_56) rfl (flt hc).1 ?_
    exact b1_59 X hx hZ hw hby hown v0 hret hr
def F1_45 (v0 : Int32) : Int32 := if (246 : Int32) < v0 then (F1_52 v0) else F1_192
theorem b1_45 {p : Program} {l : Launch} {e : Env} {R : Room} {s : State} {m : MethodId} {args : Array Value} {below : List Frame} {meth : Method} {c : Code} {T : State} {locs : List Loc} {cells slots : Nat} {Z : State} {a0 : Array Value} (X : Stand p l e R s m args below meth c T locs cells slots) (hx : p.tables.exec = Jvm.exec) (hZ : Z.Warmed39 s.vm) (hw : ∀ d ∈ tables_1, d.before a0 Z = true) (hby : c.code = prog_54_method_49_code) (hown : s.vm.findClass "com/example/triplewright/triplewright/rdf/TextScanner" = some m.cls) (v0 : Int32) (hret : meth.sig.returnType = some .boolean) {fs : List Frame} (hr : ∀ (f : JFrame) (acts : List Action), f.method = m → f.locked = none → f.entered = [] → (doReturn e (T.setTop f) acts (some (.int (F1_45 v0)))).1 = T.setFrames fs) : Steps p.tables e below (T.setTop (mkF m 45 #[.val (.int v0)] [])) (T.setFrames fs) := by
  show Steps p.tables e below (T.setTop (mkF m 45 #[.val (.int v0)] [])) _
  refine XS.iloadN X.here hx rfl (hb hby d1_45) rfl ?_
  show Steps p.tables e below (T.setTop (mkF m 46 #[.val (.int v0)] [(.int v0)])) _
  refine XS.sipush X.here hx rfl (hb hby d1_46) ?_
  show Steps p.tables e below (T.setTop (mkF m 49 #[.val (.int v0)] [(.int (246 : Int32)), (.int v0)])) _
  by_cases hc : (246 : Int32) < v0
  · rw [show (F1_45 v0) = (F1_52 v0) from if_pos hc] at hr
    refine XS.icmpNo X.here hx rfl (hb hby d1_49) rfl (tlt hc).2.2.2 ?_
    exact b1_52 X hx hZ hw hby hown v0 hret hr
  · rw [show (F1_45 v0) = F1_192 from if_neg hc] at hr
    refine XS.icmpYes X.here hx rfl (pc0 := 49) (pc' := 192) rfl (hb hby d1_49) rfl (flt hc).2.2.2 (by decide) (by decide) ?_
    exact b1_192 X hx hZ hw hby hown v0 hret hr
def F1_38 (v0 : Int32) : Int32 := if v0 < (216 : Int32) then (F1_52 v0) else (F1_45 v0)
theorem b1_38 {p : Program} {l : Launch} {e : Env} {R : Room} {s : State} {m : MethodId} {args : Array Value} {below : List Frame} {meth : Method} {c : Code} {T : State} {locs : List Loc} {cells slots : Nat} {Z : State} {a0 : Array Value} (X : Stand p l e R s m args below meth c T locs cells slots) (hx : p.tables.exec = Jvm.exec) (hZ : Z.Warmed39 s.vm) (hw : ∀ d ∈ tables_1, d.before a0 Z = true) (hby : c.code = prog_54_method_49_code) (hown : s.vm.findClass "com/example/triplewright/triplewright/rdf/TextScanner" = some m.cls) (v0 : Int32) (hret : meth.sig.returnType = some .boolean) {fs : List Frame} (hr : ∀ (f : JFrame) (acts : List Action), f.method = m → f.locked = none → f.entered = [] → (doReturn e (T.setTop f) acts (some (.int (F1_38 v0)))).1 = T.setFrames fs) : Steps p.tables e below (T.setTop (mkF m 38 #[.val (.int v0)] [])) (T.setFrames fs) := by
  show Steps p.tables e below (T.setTop (mkF m 38 #[.val (.int v0)] [])) _
  refine XS.iloadN X.here hx rfl (hb hby d1_38) rfl ?_
  show Steps p.tables e below (T.setTop (mkF m 39 #[.val (.int v0)] [(.int v0)])) _
  refine XS.sipush X.here hx rfl (hb hby d1_39) ?_
  show Steps p.tables e below (T.setTop (mkF m 42 #[.val (.int v0)] [(.int (216 : Int32)), (.int v0)])) _
  by_cases hc : v0 < (216 : Int32)
  · rw [show (F1_38 v0) = (F1_52 v0) from if_pos hc] at hr
    refine XS.icmpYes X.here hx rfl (pc0 := 42) (pc' := 52) rfl (hb hby d1_42) rfl (tlt hc).1 (by decide) (by decide) ?_
    exact b1_52 X hx hZ hw hby hown v0 hret hr
  · rw [show (F1_38 v0) = (F1_45 v0) from if_neg hc] at hr
    refine XS.icmpNo X.here hx rfl (hb hby d1_42) rfl (flt hc).1 ?_
    exact b1_45 X hx hZ hw hby hown v0 hret hr
def F1_31 (v0 : Int32) : Int32 := if (214 : Int32) < v0 then (F1_38 v0) else F1_192
theorem b1_31 {p : Program} {l : Launch} {e : Env} {R : Room} {s : State} {m : MethodId} {args : Array Value} {below : List Frame} {meth : Method} {c : Code} {T : State} {locs : List Loc} {cells slots : Nat} {Z : State} {a0 : Array Value} (X : Stand p l e R s m args below meth c T locs cells slots) (hx : p.tables.exec = Jvm.exec) (hZ : Z.Warmed39 s.vm) (hw : ∀ d ∈ tables_1, d.before a0 Z = true) (hby : c.code = prog_54_method_49_code) (hown : s.vm.findClass "com/example/triplewright/triplewright/rdf/TextScanner" = some m.cls) (v0 : Int32) (hret : meth.sig.returnType = some .boolean) {fs : List Frame} (hr : ∀ (f : JFrame) (acts : List Action), f.method = m → f.locked = none → f.entered = [] → (doReturn e (T.setTop f) acts (some (.int (F1_31 v0)))).1 = T.setFrames fs) : Steps p.tables e below (T.setTop (mkF m 31 #[.val (.int v0)] [])) (T.setFrames fs) := by
  show Steps p.tables e below (T.setTop (mkF m 31 #[.val (.int v0)] [])) _
  refine XS.iloadN X.here hx rfl (hb hby d1_31) rfl ?_
  show Steps p.tables e below (T.setTop (mkF m 32 #[.val (.int v0)] [(.int v0)])) _
  refine XS.sipush X.here hx rfl (hb hby d1_32) ?_
  show Steps p.tables e below (T.setTop (mkF m 35 #[.val (.int v0)] [(.int (214 : Int32)), (.int v0)])) _
  by_cases hc : (214 : Int32) < v0
  · rw [show (F1_31 v0) = (F1_38 v0) from if_pos hc] at hr
    refine XS.icmpNo X.here hx rfl (hb hby d1_35) rfl (tlt hc).2.2.2 ?_
    exact b1_38 X hx hZ hw hby hown v0 hret hr
  · rw [show (F1_31 v0) = F1_192 from if_neg hc] at hr
    refine XS.icmpYes X.here hx rfl (pc0 := 35) (pc' := 192) rfl (hb hby d1_35) rfl (flt hc).2.2.2 (by decide) (by decide) ?_
    exact b1_192 X hx hZ hw hby hown v0 hret hr
def F1_24 (v0 : Int32) : Int32 := if v0 < (192 : Int32) then (F1_38 v0) else (F1_31 v0)
theorem b1_24 {p : Program} {l : Launch} {e : Env} {R : Room} {s : State} {m : MethodId} {args : Array Value} {below : List Frame} {meth : Method} {c : Code} {T : State} {locs : List Loc} {cells slots : Nat} {Z : State} {a0 : Array Value} (X : Stand p l e R s m args below meth c T locs cells slots) (hx : p.tables.exec = Jvm.exec) (hZ : Z.Warmed39 s.vm) (hw : ∀ d ∈ tables_1, d.before a0 Z = true) (hby : c.code = prog_54_method_49_code) (hown : s.vm.findClass "com/example/triplewright/triplewright/rdf/TextScanner" = some m.cls) (v0 : Int32) (hret : meth.sig.returnType = some .boolean) {fs : List Frame} (hr : ∀ (f : JFrame) (acts : List Action), f.method = m → f.locked = none → f.entered = [] → (doReturn e (T.setTop f) acts (some (.int (F1_24 v0)))).1 = T.setFrames fs) : Steps p.tables e below (T.setTop (mkF m 24 #[.val (.int v0)] [])) (T.setFrames fs) := by
  show Steps p.tables e below (T.setTop (mkF m 24 #[.val (.int v0)] [])) _
  refine XS.iloadN X.here hx rfl (hb hby d1_24) rfl ?_
  show Steps p.tables e below (T.setTop (mkF m 25 #[.val (.int v0)] [(.int v0)])) _
  refine XS.sipush X.here hx rfl (hb hby d1_25) ?_
  show Steps p.tables e below (T.setTop (mkF m 28 #[.val (.int v0)] [(.int (192 : Int32)), (.int v0)])) _
  by_cases hc : v0 < (192 : Int32)
  · rw [show (F1_24 v0) = (F1_38 v0) from if_pos hc] at hr
    refine XS.icmpYes X.here hx rfl (pc0 := 28) (pc' := 38) rfl (hb hby d1_28) rfl (tlt hc).1 (by decide) (by decide) ?_
    exact b1_38 X hx hZ hw hby hown v0 hret hr
  · rw [show (F1_24 v0) = (F1_31 v0) from if_neg hc] at hr
    refine XS.icmpNo X.here hx rfl (hb hby d1_28) rfl (flt hc).1 ?_
    exact b1_31 X hx hZ hw hby hown v0 hret hr
def F1_18 (v0 : Int32) : Int32 := if (122 : Int32) < v0 then (F1_24 v0) else F1_192
theorem b1_18 {p : Program} {l : Launch} {e : Env} {R : Room} {s : State} {m : MethodId} {args : Array Value} {below : List Frame} {meth : Method} {c : Code} {T : State} {locs : List Loc} {cells slots : Nat} {Z : State} {a0 : Array Value} (X : Stand p l e R s m args below meth c T locs cells slots) (hx : p.tables.exec = Jvm.exec) (hZ : Z.Warmed39 s.vm) (hw : ∀ d ∈ tables_1, d.before a0 Z = true) (hby : c.code = prog_54_method_49_code) (hown : s.vm.findClass "com/example/triplewright/triplewright/rdf/TextScanner" = some m.cls) (v0 : Int32) (hret : meth.sig.returnType = some .boolean) {fs : List Frame} (hr : ∀ (f : JFrame) (acts : List Action), f.method = m → f.locked = none → f.entered = [] → (doReturn e (T.setTop f) acts (some (.int (F1_18 v0)))).1 = T.setFrames fs) : Steps p.tables e below (T.setTop (mkF m 18 #[.val (.int v0)] [])) (T.setFrames fs) := by
  show Steps p.tables e below (T.setTop (mkF m 18 #[.val (.int v0)] [])) _
  refine XS.iloadN X.here hx rfl (hb hby d1_18) rfl ?_
  show Steps p.tables e below (T.setTop (mkF m 19 #[.val (.int v0)] [(.int v0)])) _
  refine XS.bipush X.here hx rfl (hb hby d1_19) ?_
  show Steps p.tables e below (T.setTop (mkF m 21 #[.val (.int v0)] [(.int (122 : Int32)), (.int v0)])) _
  by_cases hc : (122 : Int32) < v0
  · rw [show (F1_18 v0) = (F1_24 v0) from if_pos hc] at hr
    refine XS.icmpNo X.here hx rfl (hb hby d1_21) rfl (tlt hc).2.2.2 ?_
    exact b1_24 X hx hZ hw hby hown v0 hret hr
  · rw [show (F1_18 v0) = F1_192 from if_neg hc] at hr
    refine XS.icmpYes X.here hx rfl (pc0 := 21) (pc' := 192) rfl (hb hby d1_21) rfl (flt hc).2.2.2 (by decide) (by decide) ?_
    exact b1_192 X hx hZ hw hby hown v0 hret hr
def F1_12 (v0 : Int32) : Int32 := if v0 < (97 : Int32) then (F1_24 v0) else (F1_18 v0)
theorem b1_12 {p : Program} {l : Launch} {e : Env} {R : Room} {s : State} {m : MethodId} {args : Array Value} {below : List Frame} {meth : Method} {c : Code} {T : State} {locs : List Loc} {cells slots : Nat} {Z : State} {a0 : Array Value} (X : Stand p l e R s m args below meth c T locs cells slots) (hx : p.tables.exec = Jvm.exec) (hZ : Z.Warmed39 s.vm) (hw : ∀ d ∈ tables_1, d.before a0 Z = true) (hby : c.code = prog_54_method_49_code) (hown : s.vm.findClass "com/example/triplewright/triplewright/rdf/TextScanner" = some m.cls) (v0 : Int32) (hret : meth.sig.returnType = some .boolean) {fs : List Frame} (hr : ∀ (f : JFrame) (acts : List Action), f.method = m → f.locked = none → f.entered = [] → (doReturn e (T.setTop f) acts (some (.int (F1_12 v0)))).1 = T.setFrames fs) : Steps p.tables e below (T.setTop (mkF m 12 #[.val (.int v0)] [])) (T.setFrames fs) := by
  show Steps p.tables e below (T.setTop (mkF m 12 #[.val (.int v0)] [])) _
  refine XS.iloadN X.here hx rfl (hb hby d1_12) rfl ?_
  show Steps p.tables e below (T.setTop (mkF m 13 #[.val (.int v0)] [(.int v0)])) _
  refine XS.bipush X.here hx rfl (hb hby d1_13) ?_
  show Steps p.tables e below (T.setTop (mkF m 15 #[.val (.int v0)] [(.int (97 : Int32)), (.int v0)])) _
  by_cases hc : v0 < (97 : Int32)
  · rw [show (F1_12 v0) = (F1_24 v0) from if_pos hc] at hr
    refine XS.icmpYes X.here hx rfl (pc0 := 15) (pc' := 24) rfl (hb hby d1_15) rfl (tlt hc).1 (by decide) (by decide) ?_
    exact b1_24 X hx hZ hw hby hown v0 hret hr
  · rw [show (F1_12 v0) = (F1_18 v0) from if_neg hc] at hr
    refine XS.icmpNo X.here hx rfl (hb hby d1_15) rfl (flt hc).1 ?_
    exact b1_18 X hx hZ hw hby hown v0 hret hr
def F1_6 (v0 : Int32) : Int32 := if (90 : Int32) < v0 then (F1_12 v0) else F1_192
theorem b1_6 {p : Program} {l : Launch} {e : Env} {R : Room} {s : State} {m : MethodId} {args : Array Value} {below : List Frame} {meth : Method} {c : Code} {T : State} {locs : List Loc} {cells slots : Nat} {Z : State} {a0 : Array Value} (X : Stand p l e R s m args below meth c T locs cells slots) (hx : p.tables.exec = Jvm.exec) (hZ : Z.Warmed39 s.vm) (hw : ∀ d ∈ tables_1, d.before a0 Z = true) (hby : c.code = prog_54_method_49_code) (hown : s.vm.findClass "com/example/triplewright/triplewright/rdf/TextScanner" = some m.cls) (v0 : Int32) (hret : meth.sig.returnType = some .boolean) {fs : List Frame} (hr : ∀ (f : JFrame) (acts : List Action), f.method = m → f.locked = none → f.entered = [] → (doReturn e (T.setTop f) acts (some (.int (F1_6 v0)))).1 = T.setFrames fs) : Steps p.tables e below (T.setTop (mkF m 6 #[.val (.int v0)] [])) (T.setFrames fs) := by
  show Steps p.tables e below (T.setTop (mkF m 6 #[.val (.int v0)] [])) _
  refine XS.iloadN X.here hx rfl (hb hby d1_6) rfl ?_
  show Steps p.tables e below (T.setTop (mkF m 7 #[.val (.int v0)] [(.int v0)])) _
  refine XS.bipush X.here hx rfl (hb hby d1_7) ?_
  show Steps p.tables e below (T.setTop (mkF m 9 #[.val (.int v0)] [(.int (90 : Int32)), (.int v0)])) _
  by_cases hc : (90 : Int32) < v0
  · rw [show (F1_6 v0) = (F1_12 v0) from if_pos hc] at hr
    refine XS.icmpNo X.here hx rfl (hb hby d1_9) rfl (tlt hc).2.2.2 ?_
    exact b1_12 X hx hZ hw hby hown v0 hret hr
  · rw [show (F1_6 v0) = F1_192 from if_neg hc] at hr
    refine XS.icmpYes X.here hx rfl (pc0 := 9) (pc' := 192) rfl (hb hby d1_9) rfl (flt hc).2.2.2 (by decide) (by decide) ?_
    exact b1_192 X hx hZ hw hby hown v0 hret hr
def F1_0 (v0 : Int32) : Int32 := if v0 < (65 : Int32) then (F1_12 v0) else (F1_6 v0)
theorem b1_0 {p : Program} {l : Launch} {e : Env} {R : Room} {s : State} {m : MethodId} {args : Array Value} {below : List Frame} {meth : Method} {c : Code} {T : State} {locs : List Loc} {cells slots : Nat} {Z : State} {a0 : Array Value} (X : Stand p l e R s m args below meth c T locs cells slots) (hx : p.tables.exec = Jvm.exec) (hZ : Z.Warmed39 s.vm) (hw : ∀ d ∈ tables_1, d.before a0 Z = true) (hby : c.code = prog_54_method_49_code) (hown : s.vm.findClass "com/example/triplewright/triplewright/rdf/TextScanner" = some m.cls) (v0 : Int32) (hret : meth.sig.returnType = some .boolean) {fs : List Frame} (hr : ∀ (f : JFrame) (acts : List Action), f.method = m → f.locked = none → f.entered = [] → (doReturn e (T.setTop f) acts (some (.int (F1_0 v0)))).1 = T.setFrames fs) : Steps p.tables e below (T.setTop (mkF m 0 #[.val (.int v0)] [])) (T.setFrames fs) := by
  show Steps p.tables e below (T.setTop (mkF m 0 #[.val (.int v0)] [])) _
  refine XS.iloadN X.here hx rfl (hb hby d1_0) rfl ?_
  show Steps p.tables e below (T.setTop (mkF m 1 #[.val (.int v0)] [(.int v0)])) _
  refine XS.bipush X.here hx rfl (hb hby d1_1) ?_
  show Steps p.tables e below (T.setTop (mkF m 3 #[.val (.int v0)] [(.int (65 : Int32)), (.int v0)])) _
  by_cases hc : v0 < (65 : Int32)
  · rw [show (F1_0 v0) = (F1_12 v0) from if_pos hc] at hr
    refine XS.icmpYes X.here hx rfl (pc0 := 3) (pc' := 12) rfl (hb hby d1_3) rfl (tlt hc).1 (by decide) (by decide) ?_
    exact b1_12 X hx hZ hw hby hown v0 hret hr
  · rw [show (F1_0 v0) = (F1_6 v0) from if_neg hc] at hr
    refine XS.icmpNo X.here hx rfl (hb hby d1_3) rfl (flt hc).1 ?_
    exact b1_6 X hx hZ hw hby hown v0 hret hr
theorem pn_1 : plainName "com/example/triplewright/triplewright/rdf/TextScanner" = true := by first | (simp [plainName, overriddenIn]; done) | decide +kernel
theorem ef_1 (m : MethodId) (p0 : Int32) : entryFrame m #[(.int p0)] 1 = mkF m 0 #[.val (.int p0)] [] := by first | (simp [entryFrame, mkF, argsToLocals, Value.category]; done) | rfl
def Q_rm1 (Z : State) (p0 : Int32) (h0 : Heap) (n0 : Nat) (v : Option Value) (h : Heap) (L : List Loc) : Prop := (v = some (.int (F1_0 p0)) ∧ Fr n0 L ∧ h = h0)
set_option maxRecDepth 65536 in
set_option maxHeartbeats 40000000 in
theorem rm1 (l : Launch) (Z : State) (a0 : Array Value) (hw : ∀ d ∈ tables_1, d.before a0 Z = true) (ws : List Jvm.Cond) (p0 : Int32) (h0 : Heap) (n0 : Nat) (Z0 : n0 ≤ h0.size) :
    MetFree l (⟨"com/example/triplewright/triplewright/rdf/TextScanner", "isPnCharsBase", "(I)Z"⟩ : MethodName) (head1 (Jvm.Cond.code (⟨"com/example/triplewright/triplewright/rdf/TextScanner", "isPnCharsBase", "(I)Z"⟩ : MethodName) prog_54_method_49_code 1 (some .boolean) :: ws) ({ frames := 0, cells := 0, slots := 0, locals := 0 } : Room)) (fun a U => a = #[(.int p0)] ∧ Z.Warmed39 U.vm ∧ U.heap = h0) (fun _ _ _ _ _ => True) (fun _ U o U' => ∃ v L, o = .returned v ∧ Q_rm1 Z p0 h0 n0 v U'.heap L ∧ FrameEnd U o U' L ({ frames := 0, cells := 0, slots := 0, locals := 0 } : Room).cells ({ frames := 0, cells := 0, slots := 0, locals := 0 } : Room).slots) := by
  refine MetFree.of_bodySF (plainFor_of_name pn_1) hisR ?_
  intro p e s m args below meth c s₁ Bd hml0 hP hK
  obtain ⟨rfl, hZ, hh⟩ := hP
  have hx := Bd.exec
  have hby := Bd.bytes
  have hml : c.maxLocals = 1 := hml0
  have hown : s.vm.findClass "com/example/triplewright/triplewright/rdf/TextScanner" = some m.cls := findClass_of_methodNamed Bd.named
  have hnm := (name_of_methodNamed Bd.named Bd.method).1
  have X0 : Stand p l e ({ frames := 0, cells := 0, slots := 0, locals := 0 } : Room) s m #[(.int p0)] below meth c s₁ [] 0 0 := Stand.of_body Bd
  have e0 : s₁.heap = h0 := by rw [← hh, Bd.state]; rfl
  have N0 := Fr.nil n0
  have pre0 : ∀ t, Steps p.tables e below (s₁.setTop (mkF m 0 #[.val (.int p0)] [])) t → Steps p.tables e below (s₁.setTop (entryFrame m #[(.int p0)] 1)) t := fun t k => castTop (ef_1 m p0) k
  obtain ⟨fs, hr, hrun, hended, hW, hsame⟩ := X0.leave (v := some (.int (F1_0 p0))) (fun h => by rw [Bd.returns] at h; cases h)
  refine ⟨_, _, pre0 _ ?_, hrun, hended, _, _, rfl, ⟨rfl, N0, e0⟩, ⟨_, rfl⟩, hW, hsame.mono (by decide) (by decide)⟩
  exact b1_0 X0 hx hZ hw hby hown p0 Bd.returns hr
theorem d2_0 : decode method_2_code 0 = .ok (.iload_n 0, 1) := by decide +kernel
theorem d2_1 : decode method_2_code 1 = .ok (.bipush 65, 2) := by decide +kernel
theorem d2_3 : decode method_2_code 3 = .ok (.if_icmp .lt 9, 3) := by decide +kernel
theorem d2_6 : decode method_2_code 6 = .ok (.iload_n 0, 1) := by decide +kernel
theorem d2_7 : decode method_2_code 7 = .ok (.ldc 7, 2) := by decide +kernel
theorem d2_9 : decode method_2_code 9 = .ok (.if_icmp .le 5, 3) := by decide +kernel
theorem d2_12 : decode method_2_code 12 = .ok (.iconst 0, 1) := by decide +kernel
theorem d2_13 : decode method_2_code 13 = .ok (.ireturn, 1) := by decide +kernel
theorem d2_14 : decode method_2_code 14 = .ok (.iload_n 0, 1) := by decide +kernel
theorem d2_15 : decode method_2_code 15 = .ok (.bipush 91, 2) := by decide +kernel
theorem d2_17 : decode method_2_code 17 = .ok (.if_icmp .lt 11, 3) := by decide +kernel
theorem d2_20 : decode method_2_code 20 = .ok (.iload_n 0, 1) := by decide +kernel
theorem d2_21 : decode method_2_code 21 = .ok (.bipush 96, 2) := by decide +kernel
theorem d2_23 : decode method_2_code 23 = .ok (.if_icmp .gt 5, 3) := by decide +kernel
theorem d2_26 : decode method_2_code 26 = .ok (.iconst 0, 1) := by decide +kernel
theorem d2_27 : decode method_2_code 27 = .ok (.ireturn, 1) := by decide +kernel
theorem d2_28 : decode method_2_code 28 = .ok (.iload_n 0, 1) := by decide +kernel
theorem d2_29 : decode method_2_code 29 = .ok (.bipush 123, 2) := by decide +kernel
theorem d2_31 : decode method_2_code 31 = .ok (.if_icmp .lt 12, 3) := by decide +kernel
theorem d2_34 : decode method_2_code 34 = .ok (.iload_n 0, 1) := by decide +kernel
theorem d2_35 : decode method_2_code 35 = .ok (.sipush 191, 3) := by decide +kernel
theorem d2_38 : decode method_2_code 38 = .ok (.if_icmp .gt 5, 3) := by decide +kernel
theorem d2_41 : decode method_2_code 41 = .ok (.iconst 0, 1) := by decide +kernel
theorem d2_42 : decode method_2_code 42 = .ok (.ireturn, 1) := by decide +kernel
theorem d2_43 : decode method_2_code 43 = .ok (.iload_n 0, 1) := by decide +kernel
theorem d2_44 : decode method_2_code 44 = .ok (.sipush 215, 3) := by decide +kernel
theorem d2_47 : decode method_2_code 47 = .ok (.if_icmp .eq 10, 3) := by decide +kernel
theorem d2_50 : decode method_2_code 50 = .ok (.iload_n 0, 1) := by decide +kernel
theorem d2_51 : decode method_2_code 51 = .ok (.sipush 247, 3) := by decide +kernel
theorem d2_54 : decode method_2_code 54 = .ok (.if_icmp .ne 5, 3) := by decide +kernel
theorem d2_57 : decode method_2_code 57 = .ok (.iconst 0, 1) := by decide +kernel
theorem d2_58 : decode method_2_code 58 = .ok (.ireturn, 1) := by decide +kernel
theorem d2_59 : decode method_2_code 59 = .ok (.iload_n 0, 1) := by decide +kernel
theorem d2_60 : decode method_2_code 60 = .ok (.sipush 768, 3) := by decide +kernel
theorem d2_63 : decode method_2_code 63 = .ok (.if_icmp .lt 12, 3) := by decide +kernel
theorem d2_66 : decode method_2_code 66 = .ok (.iload_n 0, 1) := by decide +kernel
theorem d2_67 : decode method_2_code 67 = .ok (.sipush 879, 3) := by decide +kernel
theorem d2_70 : decode method_2_code 70 = .ok (.if_icmp .gt 5, 3) := by decide +kernel
theorem d2_73 : decode method_2_code 73 = .ok (.iconst 0, 1) := by decide +kernel
theorem d2_74 : decode method_2_code 74 = .ok (.ireturn, 1) := by decide +kernel
theorem d2_75 : decode method_2_code 75 = .ok (.iload_n 0, 1) := by decide +kernel
theorem d2_76 : decode method_2_code 76 = .ok (.sipush 894, 3) := by decide +kernel
theorem d2_79 : decode method_2_code 79 = .ok (.if_icmp .ne 5, 3) := by decide +kernel
theorem d2_82 : decode method_2_code 82 = .ok (.iconst 0, 1) := by decide +kernel
theorem d2_83 : decode method_2_code 83 = .ok (.ireturn, 1) := by decide +kernel
theorem d2_84 : decode method_2_code 84 = .ok (.iload_n 0, 1) := by decide +kernel
theorem d2_85 : decode method_2_code 85 = .ok (.sipush 8192, 3) := by decide +kernel
theorem d2_88 : decode method_2_code 88 = .ok (.if_icmp .lt 12, 3) := by decide +kernel
theorem d2_91 : decode method_2_code 91 = .ok (.iload_n 0, 1) := by decide +kernel
theorem d2_92 : decode method_2_code 92 = .ok (.sipush 8203, 3) := by decide +kernel
theorem d2_95 : decode method_2_code 95 = .ok (.if_icmp .gt 5, 3) := by decide +kernel
theorem d2_98 : decode method_2_code 98 = .ok (.iconst 0, 1) := by decide +kernel
theorem d2_99 : decode method_2_code 99 = .ok (.ireturn, 1) := by decide +kernel
theorem d2_100 : decode method_2_code 100 = .ok (.iload_n 0, 1) := by decide +kernel
theorem d2_101 : decode method_2_code 101 = .ok (.sipush 8206, 3) := by decide +kernel
theorem d2_104 : decode method_2_code 104 = .ok (.if_icmp .lt 12, 3) := by decide +kernel
theorem d2_107 : decode method_2_code 107 = .ok (.iload_n 0, 1) := by decide +kernel
theorem d2_108 : decode method_2_code 108 = .ok (.sipush 8303, 3) := by decide +kernel
theorem d2_111 : decode method_2_code 111 = .ok (.if_icmp .gt 5, 3) := by decide +kernel
theorem d2_114 : decode method_2_code 114 = .ok (.iconst 0, 1) := by decide +kernel
theorem d2_115 : decode method_2_code 115 = .ok (.ireturn, 1) := by decide +kernel
theorem d2_116 : decode method_2_code 116 = .ok (.iload_n 0, 1) := by decide +kernel
theorem d2_117 : decode method_2_code 117 = .ok (.sipush 8592, 3) := by decide +kernel
theorem d2_120 : decode method_2_code 120 = .ok (.if_icmp .lt 12, 3) := by decide +kernel
theorem d2_123 : decode method_2_code 123 = .ok (.iload_n 0, 1) := by decide +kernel
theorem d2_124 : decode method_2_code 124 = .ok (.sipush 11263, 3) := by decide +kernel
theorem d2_127 : decode method_2_code 127 = .ok (.if_icmp .gt 5, 3) := by decide +kernel
theorem d2_130 : decode method_2_code 130 = .ok (.iconst 0, 1) := by decide +kernel
theorem d2_131 : decode method_2_code 131 = .ok (.ireturn, 1) := by decide +kernel
theorem d2_132 : decode method_2_code 132 = .ok (.iload_n 0, 1) := by decide +kernel
theorem d2_133 : decode method_2_code 133 = .ok (.sipush 12272, 3) := by decide +kernel
theorem d2_136 : decode method_2_code 136 = .ok (.if_icmp .lt 12, 3) := by decide +kernel
theorem d2_139 : decode method_2_code 139 = .ok (.iload_n 0, 1) := by decide +kernel
theorem d2_140 : decode method_2_code 140 = .ok (.sipush 12288, 3) := by decide +kernel
theorem d2_143 : decode method_2_code 143 = .ok (.if_icmp .gt 5, 3) := by decide +kernel
theorem d2_146 : decode method_2_code 146 = .ok (.iconst 0, 1) := by decide +kernel
theorem d2_147 : decode method_2_code 147 = .ok (.ireturn, 1) := by decide +kernel
theorem d2_148 : decode method_2_code 148 = .ok (.iload_n 0, 1) := by decide +kernel
theorem d2_149 : decode method_2_code 149 = .ok (.ldc 8, 2) := by decide +kernel
theorem d2_151 : decode method_2_code 151 = .ok (.if_icmp .lt 11, 3) := by decide +kernel
theorem d2_154 : decode method_2_code 154 = .ok (.iload_n 0, 1) := by decide +kernel
theorem d2_155 : decode method_2_code 155 = .ok (.ldc 9, 2) := by decide +kernel
theorem d2_157 : decode method_2_code 157 = .ok (.if_icmp .gt 5, 3) := by decide +kernel
theorem d2_160 : decode method_2_code 160 = .ok (.iconst 0, 1) := by decide +kernel
theorem d2_161 : decode method_2_code 161 = .ok (.ireturn, 1) := by decide +kernel
theorem d2_162 : decode method_2_code 162 = .ok (.iload_n 0, 1) := by decide +kernel
theorem d2_163 : decode method_2_code 163 = .ok (.ldc 10, 2) := by decide +kernel
theorem d2_165 : decode method_2_code 165 = .ok (.if_icmp .lt 11, 3) := by decide +kernel
theorem d2_168 : decode method_2_code 168 = .ok (.iload_n 0, 1) := by decide +kernel
theorem d2_169 : decode method_2_code 169 = .ok (.ldc 11, 2) := by decide +kernel
theorem d2_171 : decode method_2_code 171 = .ok (.if_icmp .gt 5, 3) := by decide +kernel
theorem d2_174 : decode method_2_code 174 = .ok (.iconst 0, 1) := by decide +kernel
theorem d2_175 : decode method_2_code 175 = .ok (.ireturn, 1) := by decide +kernel
theorem d2_176 : decode method_2_code 176 = .ok (.iload_n 0, 1) := by decide +kernel
theorem d2_177 : decode method_2_code 177 = .ok (.ldc 12, 2) := by decide +kernel
theorem d2_179 : decode method_2_code 179 = .ok (.if_icmp .lt 11, 3) := by decide +kernel
theorem d2_182 : decode method_2_code 182 = .ok (.iload_n 0, 1) := by decide +kernel
theorem d2_183 : decode method_2_code 183 = .ok (.ldc 13, 2) := by decide +kernel
theorem d2_185 : decode method_2_code 185 = .ok (.if_icmp .gt 5, 3) := by decide +kernel
theorem d2_188 : decode method_2_code 188 = .ok (.iconst 0, 1) := by decide +kernel
theorem d2_189 : decode method_2_code 189 = .ok (.ireturn, 1) := by decide +kernel
theorem d2_190 : decode method_2_code 190 = .ok (.iconst 1, 1) := by decide +kernel
theorem d2_191 : decode method_2_code 191 = .ok (.ireturn, 1) := by decide +kernel
def F2_12 : Int32 := (0 : Int32)
theorem b2_12 {p : Program} {l : Launch} {e : Env} {R : Room} {s : State} {m : MethodId} {args : Array Value} {below : List Frame} {meth : Method} {c : Code} {T : State} {locs : List Loc} {cells slots : Nat} {Z : State} {a0 : Array Value} (X : Stand p l e R s m args below meth c T locs cells slots) (hx : p.tables.exec = Jvm.exec) (hZ : Z.Warmed39 s.vm) (hw : ∀ d ∈ tables_1, d.before a0 Z = true) (hby : c.code = method_2_code) (hown : s.vm.findClass "com/example/triplewright/triplewright/rdf/TextScannerIsPnCharsBasePinLaw" = some m.cls) (v0 : Int32) (hret : meth.sig.returnType = some .boolean) {fs : List Frame} (hr : ∀ (f : JFrame) (acts : List Action), f.method = m → f.locked = none → f.entered = [] → (doReturn e (T.setTop f) acts (some (.int F2_12))).1 = T.setFrames fs) : Steps p.tables e below (T.setTop (mkF m 12 #[.val (.int v0)] [])) (T.setFrames fs) := by
  show Steps p.tables e below (T.setTop (mkF m 12 #[.val (.int v0)] [])) _
  refine XS.iconst X.here hx rfl (hb hby d2_12) ?_
  show Steps p.tables e below (T.setTop (mkF m 13 #[.val (.int v0)] [(.int (0 : Int32))])) _
  rw [show F2_12 = nar .boolean (0 : Int32) from rfl] at hr
  exact retN X hx (t := .boolean) hret (by simp) (hb hby d2_13) hr
def F2_57 : Int32 := (0 : Int32)
theorem b2_57 {p : Program} {l : Launch} {e : Env} {R : Room} {s : State} {m : MethodId} {args : Array Value} {below : List Frame} {meth : Method} {c : Code} {T : State} {locs : List Loc} {cells slots : Nat} {Z : State} {a0 : Array Value} (X : Stand p l e R s m args below meth c T locs cells slots) (hx : p.tables.exec = Jvm.exec) (hZ : Z.Warmed39 s.vm) (hw : ∀ d ∈ tables_1, d.before a0 Z = true) (hby : c.code = method_2_code) (hown : s.vm.findClass "com/example/triplewright/triplewright/rdf/TextScannerIsPnCharsBasePinLaw" = some m.cls) (v0 : Int32) (hret : meth.sig.returnType = some .boolean) {fs : List Frame} (hr : ∀ (f : JFrame) (acts : List Action), f.method = m → f.locked = none → f.entered = [] → (doReturn e (T.setTop f) acts (some (.int F2_57))).1 = T.setFrames fs) : Steps p.tables e below (T.setTop (mkF m 57 #[.val (.int v0)] [])) (T.setFrames fs) := by
  show Steps p.tables e below (T.setTop (mkF m 57 #[.val (.int v0)] [])) _
  refine XS.iconst X.here hx rfl (hb hby d2_57) ?_
  show Steps p.tables e below (T.setTop (mkF m 58 #[.val (.int v0)] [(.int (0 : Int32))])) _
  rw [show F2_57 = nar .boolean (0 : Int32) from rfl] at hr
  exact retN X hx (t := .boolean) hret (by simp) (hb hby d2_58) hr
def F2_190 : Int32 := (1 : Int32)
theorem b2_190 {p : Program} {l : Launch} {e : Env} {R : Room} {s : State} {m : MethodId} {args : Array Value} {below : List Frame} {meth : Method} {c : Code} {T : State} {locs : List Loc} {cells slots : Nat} {Z : State} {a0 : Array Value} (X : Stand p l e R s m args below meth c T locs cells slots) (hx : p.tables.exec = Jvm.exec) (hZ : Z.Warmed39 s.vm) (hw : ∀ d ∈ tables_1, d.before a0 Z = true) (hby : c.code = method_2_code) (hown : s.vm.findClass "com/example/triplewright/triplewright/rdf/TextScannerIsPnCharsBasePinLaw" = some m.cls) (v0 : Int32) (hret : meth.sig.returnType = some .boolean) {fs : List Frame} (hr : ∀ (f : JFrame) (acts : List Action), f.method = m → f.locked = none → f.entered = [] → (doReturn e (T.setTop f) acts (some (.int F2_190))).1 = T.setFrames fs) : Steps p.tables e below (T.setTop (mkF m 190 #[.val (.int v0)] [])) (T.setFrames fs) := by
  show Steps p.tables e below (T.setTop (mkF m 190 #[.val (.int v0)] [])) _
  refine XS.iconst X.here hx rfl (hb hby d2_190) ?_
  show Steps p.tables e below (T.setTop (mkF m 191 #[.val (.int v0)] [(.int (1 : Int32))])) _
  rw [show F2_190 = nar .boolean (1 : Int32) from rfl] at hr
  exact retN X hx (t := .boolean) hret (by simp) (hb hby d2_191) hr
def F2_188 : Int32 := (0 : Int32)
theorem b2_188 {p : Program} {l : Launch} {e : Env} {R : Room} {s : State} {m : MethodId} {args : Array Value} {below : List Frame} {meth : Method} {c : Code} {T : State} {locs : List Loc} {cells slots : Nat} {Z : State} {a0 : Array Value} (X : Stand p l e R s m args below meth c T locs cells slots) (hx : p.tables.exec = Jvm.exec) (hZ : Z.Warmed39 s.vm) (hw : ∀ d ∈ tables_1, d.before a0 Z = true) (hby : c.code = method_2_code) (hown : s.vm.findClass "com/example/triplewright/triplewright/rdf/TextScannerIsPnCharsBasePinLaw" = some m.cls) (v0 : Int32) (hret : meth.sig.returnType = some .boolean) {fs : List Frame} (hr : ∀ (f : JFrame) (acts : List Action), f.method = m → f.locked = none → f.entered = [] → (doReturn e (T.setTop f) acts (some (.int F2_188))).1 = T.setFrames fs) : Steps p.tables e below (T.setTop (mkF m 188 #[.val (.int v0)] [])) (T.setFrames fs) := by
  show Steps p.tables e below (T.setTop (mkF m 188 #[.val (.int v0)] [])) _
  refine XS.iconst X.here hx rfl (hb hby d2_188) ?_
  show Steps p.tables e below (T.setTop (mkF m 189 #[.val (.int v0)] [(.int (0 : Int32))])) _
  rw [show F2_188 = nar .boolean (0 : Int32) from rfl] at hr
  exact retN X hx (t := .boolean) hret (by simp) (hb hby d2_189) hr
def F2_182 (v0 : Int32) : Int32 := if (65535 : Int32) < v0 then F2_190 else F2_188
theorem b2_182 {p : Program} {l : Launch} {e : Env} {R : Room} {s : State} {m : MethodId} {args : Array Value} {below : List Frame} {meth : Method} {c : Code} {T : State} {locs : List Loc} {cells slots : Nat} {Z : State} {a0 : Array Value} (X : Stand p l e R s m args below meth c T locs cells slots) (hx : p.tables.exec = Jvm.exec) (hZ : Z.Warmed39 s.vm) (hw : ∀ d ∈ tables_1, d.before a0 Z = true) (hby : c.code = method_2_code) (hown : s.vm.findClass "com/example/triplewright/triplewright/rdf/TextScannerIsPnCharsBasePinLaw" = some m.cls) (v0 : Int32) (hret : meth.sig.returnType = some .boolean) {fs : List Frame} (hr : ∀ (f : JFrame) (acts : List Action), f.method = m → f.locked = none → f.entered = [] → (doReturn e (T.setTop f) acts (some (.int (F2_182 v0)))).1 = T.setFrames fs) : Steps p.tables e below (T.setTop (mkF m 182 #[.val (.int v0)] [])) (T.setFrames fs) := by
  show Steps p.tables e below (T.setTop (mkF m 182 #[.val (.int v0)] [])) _
  refine XS.iloadN X.here hx rfl (hb hby d2_182) rfl ?_
  show Steps p.tables e below (T.setTop (mkF m 183 #[.val (.int v0)] [(.int v0)])) _
  refine X.ldcInt hx hown (mvT hZ (hw _ (List.mem_of_getElem? (i := 30) rfl))) (g := (mkF m 183 #[.val (.int v0)] [(.int v0)])) rfl (hb hby d2_183) _ ?_
  show Steps p.tables e below (T.setTop (mkF m 185 #[.val (.int v0)] [(.int (65535 : Int32)), (.int v0)])) _
  by_cases hc : (65535 : Int32) < v0
  · rw [show (F2_182 v0) = F2_190 from if_pos hc] at hr
    refine XS.icmpYes X.here hx rfl (pc0 := 185) (pc' := 190) rfl (hb hby d2_185) rfl (tlt hc).2.2.1 (by decide) (by decide) ?_
    exact b2_190 X hx hZ hw hby hown v0 hret hr
  · rw [show (F2_182 v0) = F2_188 from if_neg hc] at hr
    refine XS.icmpNo X.here hx rfl (hb hby d2_185) rfl (flt hc).2.2.1 ?_
    exact b2_188 X hx hZ hw hby hown v0 hret hr
def F2_176 (v0 : Int32) : Int32 := if v0 < (65534 : Int32) then F2_190 else (F2_182 v0)
theorem b2_176 {p : Program} {l : Launch} {e : Env} {R : Room} {s : State} {m : MethodId} {args : Array Value} {below : List Frame} {meth : Method} {c : Code} {T : State} {locs : List Loc} {cells slots : Nat} {Z : State} {a0 : Array Value} (X : Stand p l e R s m args below meth c T locs cells slots) (hx : p.tables.exec = Jvm.exec) (hZ : Z.Warmed39 s.vm) (hw : ∀ d ∈ tables_1, d.before a0 Z = true) (hby : c.code = method_2_code) (hown : s.vm.findClass "com/example/triplewright/triplewright/rdf/TextScannerIsPnCharsBasePinLaw" = some m.cls) (v0 : Int32) (hret : meth.sig.returnType = some .boolean) {fs : List Frame} (hr : ∀ (f : JFrame) (acts : List Action), f.method = m → f.locked = none → f.entered = [] → (doReturn e (T.setTop f) acts (some (.int (F2_176 v0)))).1 = T.setFrames fs) : Steps p.tables e below (T.setTop (mkF m 176 #[.val (.int v0)] [])) (T.setFrames fs) := by
  show Steps p.tables e below (T.setTop (mkF m 176 #[.val (.int v0)] [])) _
  refine XS.iloadN X.here hx rfl (hb hby d2_176) rfl ?_
  show Steps p.tables e below (T.setTop (mkF m 177 #[.val (.int v0)] [(.int v0)])) _
  refine X.ldcInt hx hown (mvT hZ (hw _ (List.mem_of_getElem? (i := 23) rfl))) (g := (mkF m 177 #[.val (.int v0)] [(.int v0)])) rfl (hb hby d2_177) _ ?_
  show Steps p.tables e below (T.setTop (mkF m 179 #[.val (.int v0)] [(.int (65534 : Int32)), (.int v0)])) _
  by_cases hc : v0 < (65534 : Int32)
  · rw [show (F2_176 v0) = F2_190 from if_pos hc] at hr
    refine XS.icmpYes X.here hx rfl (pc0 := 179) (pc' := 190) rfl (hb hby d2_179) rfl (tlt hc).1 (by decide) (by decide) ?_
    exact b2_190 X hx hZ hw hby hown v0 hret hr
  · rw [show (F2_176 v0) = (F2_182 v0) from if_neg hc] at hr
    refine XS.icmpNo X.here hx rfl (hb hby d2_179) rfl (flt hc).1 ?_
    exact b2_182 X hx hZ hw hby hown v0 hret hr
def F2_174 : Int32 := (0 : Int32)
theorem b2_174 {p : Program} {l : Launch} {e : Env} {R : Room} {s : State} {m : MethodId} {args : Array Value} {below : List Frame} {meth : Method} {c : Code} {T : State} {locs : List Loc} {cells slots : Nat} {Z : State} {a0 : Array Value} (X : Stand p l e R s m args below meth c T locs cells slots) (hx : p.tables.exec = Jvm.exec) (hZ : Z.Warmed39 s.vm) (hw : ∀ d ∈ tables_1, d.before a0 Z = true) (hby : c.code = method_2_code) (hown : s.vm.findClass "com/example/triplewright/triplewright/rdf/TextScannerIsPnCharsBasePinLaw" = some m.cls) (v0 : Int32) (hret : meth.sig.returnType = some .boolean) {fs : List Frame} (hr : ∀ (f : JFrame) (acts : List Action), f.method = m → f.locked = none → f.entered = [] → (doReturn e (T.setTop f) acts (some (.int F2_174))).1 = T.setFrames fs) : Steps p.tables e below (T.setTop (mkF m 174 #[.val (.int v0)] [])) (T.setFrames fs) := by
  show Steps p.tables e below (T.setTop (mkF m 174 #[.val (.int v0)] [])) _
  refine XS.iconst X.here hx rfl (hb hby d2_174) ?_
  show Steps p.tables e below (T.setTop (mkF m 175 #[.val (.int v0)] [(.int (0 : Int32))])) _
  rw [show F2_174 = nar .boolean (0 : Int32) from rfl] at hr
  exact retN X hx (t := .boolean) hret (by simp) (hb hby d2_175) hr
def F2_168 (v0 : Int32) : Int32 := if (65007 : Int32) < v0 then (F2_176 v0) else F2_174
theorem b2_168 {p : Program} {l : Launch} {e : Env} {R : Room} {s : State} {m : MethodId} {args : Array Value} {below : List Frame} {meth : Method} {c : Code} {T : State} {locs : List Loc} {cells slots : Nat} {Z : State} {a0 : Array Value} (X : Stand p l e R s m args below meth c T locs cells slots) (hx : p.tables.exec = Jvm.exec) (hZ : Z.Warmed39 s.vm) (hw : ∀ d ∈ tables_1, d.before a0 Z = true) (hby : c.code = method_2_code) (hown : s.vm.findClass "com/example/triplewright/triplewright/rdf/TextScannerIsPnCharsBasePinLaw" = some m.cls) (v0 : Int32) (hret : meth.sig.returnType = some .boolean) {fs : List Frame} (hr : ∀ (f : JFrame) (acts : List Action), f.method = m → f.locked = none → f.entered = [] → (doReturn e (T.setTop f) acts (some (.int (F2_168 v0)))).1 = T.setFrames fs) : Steps p.tables e below (T.setTop (mkF m 168 #[.val (.int v0)] [])) (T.setFrames fs) := by
  show Steps p.tables e below (T.setTop (mkF m 168 #[.val (.int v0)] [])) _
  refine XS.iloadN X.here hx rfl (hb hby d2_168) rfl ?_
  show Steps p.tables e below (T.setTop (mkF m 169 #[.val (.int v0)] [(.int v0)])) _
  refine X.ldcInt hx hown (mvT hZ (hw _ (List.mem_of_getElem? (i := 29) rfl))) (g := (mkF m 169 #[.val (.int v0)] [(.int v0)])) rfl (hb hby d2_169) _ ?_
  show Steps p.tables e below (T.setTop (mkF m 171 #[.val (.int v0)] [(.int (65007 : Int32)), (.int v0)])) _
  by_cases hc : (65007 : Int32) < v0
  · rw [show (F2_168 v0) = (F2_176 v0) from if_pos hc] at hr
    refine XS.icmpYes X.here hx rfl (pc0 := 171) (pc' := 176) rfl (hb hby d2_171) rfl (tlt hc).2.2.1 (by decide) (by decide) ?_
    exact b2_176 X hx hZ hw hby hown v0 hret hr
  · rw [show (F2_168 v0) = F2_174 from if_neg hc] at hr
    refine XS.icmpNo X.here hx rfl (hb hby d2_171) rfl (flt hc).2.2.1 ?_
    exact b2_174 X hx hZ hw hby hown v0 hret hr
def F2_162 (v0 : Int32) : Int32 := if v0 < (64976 : Int32) then (F2_176 v0) else (F2_168 v0)
theorem b2_162 {p : Program} {l : Launch} {e : Env} {R : Room} {s : State} {m : MethodId} {args : Array Value} {below : List Frame} {meth : Method} {c : Code} {T : State} {locs : List Loc} {cells slots : Nat} {Z : State} {a0 : Array Value} (X : Stand p l e R s m args below meth c T locs cells slots) (hx : p.tables.exec = Jvm.exec) (hZ : Z.Warmed39 s.vm) (hw : ∀ d ∈ tables_1, d.before a0 Z = true) (hby : c.code = method_2_code) (hown : s.vm.findClass "com/example/triplewright/triplewright/rdf/TextScannerIsPnCharsBasePinLaw" = some m.cls) (v0 : Int32) (hret : meth.sig.returnType = some .boolean) {fs : List Frame} (hr : ∀ (f : JFrame) (acts : List Action), f.method = m → f.locked = none → f.entered = [] → (doReturn e (T.setTop f) acts (some (.int (F2_162 v0)))).1 = T.setFrames fs) : Steps p.tables e below (T.setTop (mkF m 162 #[.val (.int v0)] [])) (T.setFrames fs) := by
  show Steps p.tables e below (T.setTop (mkF m 162 #[.val (.int v0)] [])) _
  refine XS.iloadN X.here hx rfl (hb hby d2_162) rfl ?_
  show Steps p.tables e below (T.setTop (mkF m 163 #[.val (.int v0)] [(.int v0)])) _
  refine X.ldcInt hx hown (mvT hZ (hw _ (List.mem_of_getElem? (i := 22) rfl))) (g := (mkF m 163 #[.val (.int v0)] [(.int v0)])) rfl (hb hby d2_163) _ ?_
  show Steps p.tables e below (T.setTop (mkF m 165 #[.val (.int v0)] [(.int (64976 : Int32)), (.int v0)])) _
  by_cases hc : v0 < (64976 : Int32)
  · rw [show (F2_162 v0) = (F2_176 v0) from if_pos hc] at hr
    refine XS.icmpYes X.here hx rfl (pc0 := 165) (pc' := 176) rfl (hb hby d2_165) rfl (tlt hc).1 (by decide) (by decide) ?_
    exact b2_176 X hx hZ hw hby hown v0 hret hr
  · rw [show (F2_162 v0) = (F2_168 v0) from if_neg hc] at hr
    refine XS.icmpNo X.here hx rfl (hb hby d2_165) rfl (flt hc).1 ?_
    exact b2_168 X hx hZ hw hby hown v0 hret hr
def F2_160 : Int32 := (0 : Int32)
theorem b2_160 {p : Program} {l : Launch} {e : Env} {R : Room} {s : State} {m : MethodId} {args : Array Value} {below : List Frame} {meth : Method} {c : Code} {T : State} {locs : List Loc} {cells slots : Nat} {Z : State} {a0 : Array Value} (X : Stand p l e R s m args below meth c T locs cells slots) (hx : p.tables.exec = Jvm.exec) (hZ : Z.Warmed39 s.vm) (hw : ∀ d ∈ tables_1, d.before a0 Z = true) (hby : c.code = method_2_code) (hown : s.vm.findClass "com/example/triplewright/triplewright/rdf/TextScannerIsPnCharsBasePinLaw" = some m.cls) (v0 : Int32) (hret : meth.sig.returnType = some .boolean) {fs : List Frame} (hr : ∀ (f : JFrame) (acts : List Action), f.method = m → f.locked = none → f.entered = [] → (doReturn e (T.setTop f) acts (some (.int F2_160))).1 = T.setFrames fs) : Steps p.tables e below (T.setTop (mkF m 160 #[.val (.int v0)] [])) (T.setFrames fs) := by
  show Steps p.tables e below (T.setTop (mkF m 160 #[.val (.int v0)] [])) _
  refine XS.iconst X.here hx rfl (hb hby d2_160) ?_
  show Steps p.tables e below (T.setTop (mkF m 161 #[.val (.int v0)] [(.int (0 : Int32))])) _
  rw [show F2_160 = nar .boolean (0 : Int32) from rfl] at hr
  exact retN X hx (t := .boolean) hret (by simp) (hb hby d2_161) hr
def F2_154 (v0 : Int32) : Int32 := if (63743 : Int32) < v0 then (F2_162 v0) else F2_160
theorem b2_154 {p : Program} {l : Launch} {e : Env} {R : Room} {s : State} {m : MethodId} {args : Array Value} {below : List Frame} {meth : Method} {c : Code} {T : State} {locs : List Loc} {cells slots : Nat} {Z : State} {a0 : Array Value} (X : Stand p l e R s m args below meth c T locs cells slots) (hx : p.tables.exec = Jvm.exec) (hZ : Z.Warmed39 s.vm) (hw : ∀ d ∈ tables_1, d.before a0 Z = true) (hby : c.code = method_2_code) (hown : s.vm.findClass "com/example/triplewright/triplewright/rdf/TextScannerIsPnCharsBasePinLaw" = some m.cls) (v0 : Int32) (hret : meth.sig.returnType = some .boolean) {fs : List Frame} (hr : ∀ (f : JFrame) (acts : List Action), f.method = m → f.locked = none → f.entered = [] → (doReturn e (T.setTop f) acts (some (.int (F2_154 v0)))).1 = T.setFrames fs) : Steps p.tables e below (T.setTop (mkF m 154 #[.val (.int v0)] [])) (T.setFrames fs) := by
  show Steps p.tables e below (T.setTop (mkF m 154 #[.val (.int v0)] [])) _
  refine XS.iloadN X.here hx rfl (hb hby d2_154) rfl ?_
  show Steps p.tables e below (T.setTop (mkF m 155 #[.val (.int v0)] [(.int v0)])) _
  refine X.ldcInt hx hown (mvT hZ (hw _ (List.mem_of_getElem? (i := 28) rfl))) (g := (mkF m 155 #[.val (.int v0)] [(.int v0)])) rfl (hb hby d2_155) _ ?_
  show Steps p.tables e below (T.setTop (mkF m 157 #[.val (.int v0)] [(.int (63743 : Int32)), (.int v0)])) _
  by_cases hc : (63743 : Int32) < v0
  · rw [show (F2_154 v0) = (F2_162 v0) from if_pos hc] at hr
    refine XS.icmpYes X.here hx rfl (pc0 := 157) (pc' := 162) rfl (hb hby d2_157) rfl (tlt hc).2.2.1 (by decide) (by decide) ?_
    exact b2_162 X hx hZ hw hby hown v0 hret hr
  · rw [show (F2_154 v0) = F2_160 from if_neg hc] at hr
    refine XS.icmpNo X.here hx rfl (hb hby d2_157) rfl (flt hc).2.2.1 ?_
    exact b2_160 X hx hZ hw hby hown v0 hret hr
def F2_148 (v0 : Int32) : Int32 := if v0 < (55296 : Int32) then (F2_162 v0) else (F2_154 v0)
theorem b2_148 {p : Program} {l : Launch} {e : Env} {R : Room} {s : State} {m : MethodId} {args : Array Value} {below : List Frame} {meth : Method} {c : Code} {T : State} {locs : List Loc} {cells slots : Nat} {Z : State} {a0 : Array Value} (X : Stand p l e R s m args below meth c T locs cells slots) (hx : p.tables.exec = Jvm.exec) (hZ : Z.Warmed39 s.vm) (hw : ∀ d ∈ tables_1, d.before a0 Z = true) (hby : c.code = method_2_code) (hown : s.vm.findClass "com/example/triplewright/triplewright/rdf/TextScannerIsPnCharsBasePinLaw" = some m.cls) (v0 : Int32) (hret : meth.sig.returnType = some .boolean) {fs : List Frame} (hr : ∀ (f : JFrame) (acts : List Action), f.method = m → f.locked = none → f.entered = [] → (doReturn e (T.setTop f) acts (some (.int (F2_148 v0)))).1 = T.setFrames fs) : Steps p.tables e below (T.setTop (mkF m 148 #[.val (.int v0)] [])) (T.setFrames fs) := by
  show Steps p.tables e below (T.setTop (mkF m 148 #[.val (.int v0)] [])) _
  refine XS.iloadN X.here hx rfl (hb hby d2_148) rfl ?_
  show Steps p.tables e below (T.setTop (mkF m 149 #[.val (.int v0)] [(.int v0)])) _
  refine X.ldcInt hx hown (mvT hZ (hw _ (List.mem_of_getElem? (i := 21) rfl))) (g := (mkF m 149 #[.val (.int v0)] [(.int v0)])) rfl (hb hby d2_149) _ ?_
  show Steps p.tables e below (T.setTop (mkF m 151 #[.val (.int v0)] [(.int (55296 : Int32)), (.int v0)])) _
  by_cases hc : v0 < (55296 : Int32)
  · rw [show (F2_148 v0) = (F2_162 v0) from if_pos hc] at hr
    refine XS.icmpYes X.here hx rfl (pc0 := 151) (pc' := 162) rfl (hb hby d2_151) rfl (tlt hc).1 (by decide) (by decide) ?_
    exact b2_162 X hx hZ hw hby hown v0 hret hr
  · rw [show (F2_148 v0) = (F2_154 v0) from if_neg hc] at hr
    refine XS.icmpNo X.here hx rfl (hb hby d2_151) rfl (flt hc).1 ?_
    exact b2_154 X hx hZ hw hby hown v0 hret hr
def F2_146 : Int32 := (0 : Int32)
theorem b2_146 {p : Program} {l : Launch} {e : Env} {R : Room} {s : State} {m : MethodId} {args : Array Value} {below : List Frame} {meth : Method} {c : Code} {T : State} {locs : List Loc} {cells slots : Nat} {Z : State} {a0 : Array Value} (X : Stand p l e R s m args below meth c T locs cells slots) (hx : p.tables.exec = Jvm.exec) (hZ : Z.Warmed39 s.vm) (hw : ∀ d ∈ tables_1, d.before a0 Z = true) (hby : c.code = method_2_code) (hown : s.vm.findClass "com/example/triplewright/triplewright/rdf/TextScannerIsPnCharsBasePinLaw" = some m.cls) (v0 : Int32) (hret : meth.sig.returnType = some .boolean) {fs : List Frame} (hr : ∀ (f : JFrame) (acts : List Action), f.method = m → f.locked = none → f.entered = [] → (doReturn e (T.setTop f) acts (some (.int F2_146))).1 = T.setFrames fs) : Steps p.tables e below (T.setTop (mkF m 146 #[.val (.int v0)] [])) (T.setFrames fs) := by
  show Steps p.tables e below (T.setTop (mkF m 146 #[.val (.int v0)] [])) _
  refine XS.iconst X.here hx rfl (hb hby d2_146) ?_
  show Steps p.tables e below (T.setTop (mkF m 147 #[.val (.int v0)] [(.int (0 : Int32))])) _
  rw [show F2_146 = nar .boolean (0 : Int32) from rfl] at hr
  exact retN X hx (t := .boolean) hret (by simp) (hb hby d2_147) hr
def F2_139 (v0 : Int32) : Int32 := if (12288 : Int32) < v0 then (F2_148 v0) else F2_146
theorem b2_139 {p : Program} {l : Launch} {e : Env} {R : Room} {s : State} {m : MethodId} {args : Array Value} {below : List Frame} {meth : Method} {c : Code} {T : State} {locs : List Loc} {cells slots : Nat} {Z : State} {a0 : Array Value} (X : Stand p l e R s m args below meth c T locs cells slots) (hx : p.tables.exec = Jvm.exec) (hZ : Z.Warmed39 s.vm) (hw : ∀ d ∈ tables_1, d.before a0 Z = true) (hby : c.code = method_2_code) (hown : s.vm.findClass "com/example/triplewright/triplewright/rdf/TextScannerIsPnCharsBasePinLaw" = some m.cls) (v0 : Int32) (hret : meth.sig.returnType = some .boolean) {fs : List Frame} (hr : ∀ (f : JFrame) (acts : List Action), f.method = m → f.locked = none → f.entered = [] → (doReturn e (T.setTop f) acts (some (.int (F2_139 v0)))).1 = T.setFrames fs) : Steps p.tables e below (T.setTop (mkF m 139 #[.val (.int v0)] [])) (T.setFrames fs) := by
  show Steps p.tables e below (T.setTop (mkF m 139 #[.val (.int v0)] [])) _
  refine XS.iloadN X.here hx rfl (hb hby d2_139) rfl ?_
  show Steps p.tables e below (T.setTop (mkF m 140 #[.val (.int v0)] [(.int v0)])) _
  refine XS.sipush X.here hx rfl (hb hby d2_140) ?_
  show Steps p.tables e below (T.setTop (mkF m 143 #[.val (.int v0)] [(.int (12288 : Int32)), (.int v0)])) _
  by_cases hc : (12288 : Int32) < v0
  · rw [show (F2_139 v0) = (F2_148 v0) from if_pos hc] at hr
    refine XS.icmpYes X.here hx rfl (pc0 := 143) (pc' := 148) rfl (hb hby d2_143) rfl (tlt hc).2.2.1 (by decide) (by decide) ?_
    exact b2_148 X hx hZ hw hby hown v0 hret hr
  · rw [show (F2_139 v0) = F2_146 from if_neg hc] at hr
    refine XS.icmpNo X.here hx rfl (hb hby d2_143) rfl (flt hc).2.2.1 ?_
    exact b2_146 X hx hZ hw hby hown v0 hret hr
def F2_132 (v0 : Int32) : Int32 := if v0 < (12272 : Int32) then (F2_148 v0) else (F2_139 v0)
theorem b2_132 {p : Program} {l : Launch} {e : Env} {R : Room} {s : State} {m : MethodId} {args : Array Value} {below : List Frame} {meth : Method} {c : Code} {T : State} {locs : List Loc} {cells slots : Nat} {Z : State} {a0 : Array Value} (X : Stand p l e R s m args below meth c T locs cells slots) (hx : p.tables.exec = Jvm.exec) (hZ : Z.Warmed39 s.vm) (hw : ∀ d ∈ tables_1, d.before a0 Z = true) (hby : c.code = method_2_code) (hown : s.vm.findClass "com/example/triplewright/triplewright/rdf/TextScannerIsPnCharsBasePinLaw" = some m.cls) (v0 : Int32) (hret : meth.sig.returnType = some .boolean) {fs : List Frame} (hr : ∀ (f : JFrame) (acts : List Action), f.method = m → f.locked = none → f.entered = [] → (doReturn e (T.setTop f) acts (some (.int (F2_132 v0)))).1 = T.setFrames fs) : Steps p.tables e below (T.setTop (mkF m 132 #[.val (.int v0)] [])) (T.setFrames fs) := by
  show Steps p.tables e below (T.setTop (mkF m 132 #[.val (.int v0)] [])) _
  refine XS.iloadN X.here hx rfl (hb hby d2_132) rfl ?_
  show Steps p.tables e below (T.setTop (mkF m 133 #[.val (.int v0)] [(.int v0)])) _
  refine XS.sipush X.here hx rfl (hb hby d2_133) ?_
  show Steps p.tables e below (T.setTop (mkF m 136 #[.val (.int v0)] [(.int (12272 : Int32)), (.int v0)])) _
  by_cases hc : v0 < (12272 : Int32)
  · rw [show (F2_132 v0) = (F2_148 v0) from if_pos hc] at hr
    refine XS.icmpYes X.here hx rfl (pc0 := 136) (pc' := 148) rfl (hb hby d2_136) rfl (tlt hc).1 (by decide) (by decide) ?_
    exact b2_148 X hx hZ hw hby hown v0 hret hr
  · rw [show (F2_132 v0) = (F2_139 v0) from if_neg hc] at hr
    refine XS.icmpNo X.here hx rfl (hb hby d2_136) rfl (flt hc).1 ?_
    exact b2_139 X hx hZ hw hby hown v0 hret hr
def F2_130 : Int32 := (0 : Int32)
theorem b2_130 {p : Program} {l : Launch} {e : Env} {R : Room} {s : State} {m : MethodId} {args : Array Value} {below : List Frame} {meth : Method} {c : Code} {T : State} {locs : List Loc} {cells slots : Nat} {Z : State} {a0 : Array Value} (X : Stand p l e R s m args below meth c T locs cells slots) (hx : p.tables.exec = Jvm.exec) (hZ : Z.Warmed39 s.vm) (hw : ∀ d ∈ tables_1, d.before a0 Z = true) (hby : c.code = method_2_code) (hown : s.vm.findClass "com/example/triplewright/triplewright/rdf/TextScannerIsPnCharsBasePinLaw" = some m.cls) (v0 : Int32) (hret : meth.sig.returnType = some .boolean) {fs : List Frame} (hr : ∀ (f : JFrame) (acts : List Action), f.method = m → f.locked = none → f.entered = [] → (doReturn e (T.setTop f) acts (some (.int F2_130))).1 = T.setFrames fs) : Steps p.tables e below (T.setTop (mkF m 130 #[.val (.int v0)] [])) (T.setFrames fs) := by
  show Steps p.tables e below (T.setTop (mkF m 130 #[.val (.int v0)] [])) _
  refine XS.iconst X.here hx rfl (hb hby d2_130) ?_
  show Steps p.tables e below (T.setTop (mkF m 131 #[.val (.int v0)] [(.int (0 : Int32))])) _
  rw [show F2_130 = nar .boolean (0 : Int32) from rfl] at hr
  exact retN X hx (t := .boolean) hret (by simp) (hb hby d2_131) hr
def F2_123 (v0 : Int32) : Int32 := if (11263 : Int32) < v0 then (F2_132 v0) else F2_130
theorem b2_123 {p : Program} {l : Launch} {e : Env} {R : Room} {s : State} {m : MethodId} {args : Array Value} {below : List Frame} {meth : Method} {c : Code} {T : State} {locs : List Loc} {cells slots : Nat} {Z : State} {a0 : Array Value} (X : Stand p l e R s m args below meth c T locs cells slots) (hx : p.tables.exec = Jvm.exec) (hZ : Z.Warmed39 s.vm) (hw : ∀ d ∈ tables_1, d.before a0 Z = true) (hby : c.code = method_2_code) (hown : s.vm.findClass "com/example/triplewright/triplewright/rdf/TextScannerIsPnCharsBasePinLaw" = some m.cls) (v0 : Int32) (hret : meth.sig.returnType = some .boolean) {fs : List Frame} (hr : ∀ (f : JFrame) (acts : List Action), f.method = m → f.locked = none → f.entered = [] → (doReturn e (T.setTop f) acts (some (.int (F2_123 v0)))).1 = T.setFrames fs) : Steps p.tables e below (T.setTop (mkF m 123 #[.val (.int v0)] [])) (T.setFrames fs) := by
  show Steps p.tables e below (T.setTop (mkF m 123 #[.val (.int v0)] [])) _
  refine XS.iloadN X.here hx rfl (hb hby d2_123) rfl ?_
  show Steps p.tables e below (T.setTop (mkF m 124 #[.val (.int v0)] [(.int v0)])) _
  refine XS.sipush X.here hx rfl (hb hby d2_124) ?_
  show Steps p.tables e below (T.setTop (mkF m 127 #[.val (.int v0)] [(.int (11263 : Int32)), (.int v0)])) _
  by_cases hc : (11263 : Int32) < v0
  · rw [show (F2_123 v0) = (F2_132 v0) from if_pos hc] at hr
    refine XS.icmpYes X.here hx rfl (pc0 := 127) (pc' := 132) rfl (hb hby d2_127) rfl (tlt hc).2.2.1 (by decide) (by decide) ?_
    exact b2_132 X hx hZ hw hby hown v0 hret hr
  · rw [show (F2_123 v0) = F2_130 from if_neg hc] at hr
    refine XS.icmpNo X.here hx rfl (hb hby d2_127) rfl (flt hc).2.2.1 ?_
    exact b2_130 X hx hZ hw hby hown v0 hret hr
def F2_116 (v0 : Int32) : Int32 := if v0 < (8592 : Int32) then (F2_132 v0) else (F2_123 v0)
theorem b2_116 {p : Program} {l : Launch} {e : Env} {R : Room} {s : State} {m : MethodId} {args : Array Value} {below : List Frame} {meth : Method} {c : Code} {T : State} {locs : List Loc} {cells slots : Nat} {Z : State} {a0 : Array Value} (X : Stand p l e R s m args below meth c T locs cells slots) (hx : p.tables.exec = Jvm.exec) (hZ : Z.Warmed39 s.vm) (hw : ∀ d ∈ tables_1, d.before a0 Z = true) (hby : c.code = method_2_code) (hown : s.vm.findClass "com/example/triplewright/triplewright/rdf/TextScannerIsPnCharsBasePinLaw" = some m.cls) (v0 : Int32) (hret : meth.sig.returnType = some .boolean) {fs : List Frame} (hr : ∀ (f : JFrame) (acts : List Action), f.method = m → f.locked = none → f.entered = [] → (doReturn e (T.setTop f) acts (some (.int (F2_116 v0)))).1 = T.setFrames fs) : Steps p.tables e below (T.setTop (mkF m 116 #[.val (.int v0)] [])) (T.setFrames fs) := by
  show Steps p.tables e below (T.setTop (mkF m 116 #[.val (.int v0)] [])) _
  refine XS.iloadN X.here hx rfl (hb hby d2_116) rfl ?_
  show Steps p.tables e below (T.setTop (mkF m 117 #[.val (.int v0)] [(.int v0)])) _
  refine XS.sipush X.here hx rfl (hb hby d2_117) ?_
  show Steps p.tables e below (T.setTop (mkF m 120 #[.val (.int v0)] [(.int (8592 : Int32)), (.int v0)])) _
  by_cases hc : v0 < (8592 : Int32)
  · rw [show (F2_116 v0) = (F2_132 v0) from if_pos hc] at hr
    refine XS.icmpYes X.here hx rfl (pc0 := 120) (pc' := 132) rfl (hb hby d2_120) rfl (tlt hc).1 (by decide) (by decide) ?_
    exact b2_132 X hx hZ hw hby hown v0 hret hr
  · rw [show (F2_116 v0) = (F2_123 v0) from if_neg hc] at hr
    refine XS.icmpNo X.here hx rfl (hb hby d2_120) rfl (flt hc).1 ?_
    exact b2_123 X hx hZ hw hby hown v0 hret hr
def F2_114 : Int32 := (0 : Int32)
theorem b2_114 {p : Program} {l : Launch} {e : Env} {R : Room} {s : State} {m : MethodId} {args : Array Value} {below : List Frame} {meth : Method} {c : Code} {T : State} {locs : List Loc} {cells slots : Nat} {Z : State} {a0 : Array Value} (X : Stand p l e R s m args below meth c T locs cells slots) (hx : p.tables.exec = Jvm.exec) (hZ : Z.Warmed39 s.vm) (hw : ∀ d ∈ tables_1, d.before a0 Z = true) (hby : c.code = method_2_code) (hown : s.vm.findClass "com/example/triplewright/triplewright/rdf/TextScannerIsPnCharsBasePinLaw" = some m.cls) (v0 : Int32) (hret : meth.sig.returnType = some .boolean) {fs : List Frame} (hr : ∀ (f : JFrame) (acts : List Action), f.method = m → f.locked = none → f.entered = [] → (doReturn e (T.setTop f) acts (some (.int F2_114))).1 = T.setFrames fs) : Steps p.tables e below (T.setTop (mkF m 114 #[.val (.int v0)] [])) (T.setFrames fs) := by
  show Steps p.tables e below (T.setTop (mkF m 114 #[.val (.int v0)] [])) _
  refine XS.iconst X.here hx rfl (hb hby d2_114) ?_
  show Steps p.tables e below (T.setTop (mkF m 115 #[.val (.int v0)] [(.int (0 : Int32))])) _
  rw [show F2_114 = nar .boolean (0 : Int32) from rfl] at hr
  exact retN X hx (t := .boolean) hret (by simp) (hb hby d2_115) hr
def F2_107 (v0 : Int32) : Int32 := if (8303 : Int32) < v0 then (F2_116 v0) else F2_114
theorem b2_107 {p : Program} {l : Launch} {e : Env} {R : Room} {s : State} {m : MethodId} {args : Array Value} {below : List Frame} {meth : Method} {c : Code} {T : State} {locs : List Loc} {cells slots : Nat} {Z : State} {a0 : Array Value} (X : Stand p l e R s m args below meth c T locs cells slots) (hx : p.tables.exec = Jvm.exec) (hZ : Z.Warmed39 s.vm) (hw : ∀ d ∈ tables_1, d.before a0 Z = true) (hby : c.code = method_2_code) (hown : s.vm.findClass "com/example/triplewright/triplewright/rdf/TextScannerIsPnCharsBasePinLaw" = some m.cls) (v0 : Int32) (hret : meth.sig.returnType = some .boolean) {fs : List Frame} (hr : ∀ (f : JFrame) (acts : List Action), f.method = m → f.locked = none → f.entered = [] → (doReturn e (T.setTop f) acts (some (.int (F2_107 v0)))).1 = T.setFrames fs) : Steps p.tables e below (T.setTop (mkF m 107 #[.val (.int v0)] [])) (T.setFrames fs) := by
  show Steps p.tables e below (T.setTop (mkF m 107 #[.val (.int v0)] [])) _
  refine XS.iloadN X.here hx rfl (hb hby d2_107) rfl ?_
  show Steps p.tables e below (T.setTop (mkF m 108 #[.val (.int v0)] [(.int v0)])) _
  refine XS.sipush X.here hx rfl (hb hby d2_108) ?_
  show Steps p.tables e below (T.setTop (mkF m 111 #[.val (.int v0)] [(.int (8303 : Int32)), (.int v0)])) _
  by_cases hc : (8303 : Int32) < v0
  · rw [show (F2_107 v0) = (F2_116 v0) from if_pos hc] at hr
    refine XS.icmpYes X.here hx rfl (pc0 := 111) (pc' := 116) rfl (hb hby d2_111) rfl (tlt hc).2.2.1 (by decide) (by decide) ?_
    exact b2_116 X hx hZ hw hby hown v0 hret hr
  · rw [show (F2_107 v0) = F2_114 from if_neg hc] at hr
    refine XS.icmpNo X.here hx rfl (hb hby d2_111) rfl (flt hc).2.2.1 ?_
    exact b2_114 X hx hZ hw hby hown v0 hret hr
def F2_100 (v0 : Int32) : Int32 := if v0 < (8206 : Int32) then (F2_116 v0) else (F2_107 v0)
theorem b2_100 {p : Program} {l : Launch} {e : Env} {R : Room} {s : State} {m : MethodId} {args : Array Value} {below : List Frame} {meth : Method} {c : Code} {T : State} {locs : List Loc} {cells slots : Nat} {Z : State} {a0 : Array Value} (X : Stand p l e R s m args below meth c T locs cells slots) (hx : p.tables.exec = Jvm.exec) (hZ : Z.Warmed39 s.vm) (hw : ∀ d ∈ tables_1, d.before a0 Z = true) (hby : c.code = method_2_code) (hown : s.vm.findClass "com/example/triplewright/triplewright/rdf/TextScannerIsPnCharsBasePinLaw" = some m.cls) (v0 : Int32) (hret : meth.sig.returnType = some .boolean) {fs : List Frame} (hr : ∀ (f : JFrame) (acts : List Action), f.method = m → f.locked = none → f.entered = [] → (doReturn e (T.setTop f) acts (some (.int (F2_100 v0)))).1 = T.setFrames fs) : Steps p.tables e below (T.setTop (mkF m 100 #[.val (.int v0)] [])) (T.setFrames fs) := by
  show Steps p.tables e below (T.setTop (mkF m 100 #[.val (.int v0)] [])) _
  refine XS.iloadN X.here hx rfl (hb hby d2_100) rfl ?_
  show Steps p.tables e below (T.setTop (mkF m 101 #[.val (.int v0)] [(.int v0)])) _
  refine XS.sipush X.here hx rfl (hb hby d2_101) ?_
  show Steps p.tables e below (T.setTop (mkF m 104 #[.val (.int v0)] [(.int (8206 : Int32)), (.int v0)])) _
  by_cases hc : v0 < (8206 : Int32)
  · rw [show (F2_100 v0) = (F2_116 v0) from if_pos hc] at hr
    refine XS.icmpYes X.here hx rfl (pc0 := 104) (pc' := 116) rfl (hb hby d2_104) rfl (tlt hc).1 (by decide) (by decide) ?_
    exact b2_116 X hx hZ hw hby hown v0 hret hr
  · rw [show (F2_100 v0) = (F2_107 v0) from if_neg hc] at hr
    refine XS.icmpNo X.here hx rfl (hb hby d2_104) rfl (flt hc).1 ?_
    exact b2_107 X hx hZ hw hby hown v0 hret hr
def F2_98 : Int32 := (0 : Int32)
theorem b2_98 {p : Program} {l : Launch} {e : Env} {R : Room} {s : State} {m : MethodId} {args : Array Value} {below : List Frame} {meth : Method} {c : Code} {T : State} {locs : List Loc} {cells slots : Nat} {Z : State} {a0 : Array Value} (X : Stand p l e R s m args below meth c T locs cells slots) (hx : p.tables.exec = Jvm.exec) (hZ : Z.Warmed39 s.vm) (hw : ∀ d ∈ tables_1, d.before a0 Z = true) (hby : c.code = method_2_code) (hown : s.vm.findClass "com/example/triplewright/triplewright/rdf/TextScannerIsPnCharsBasePinLaw" = some m.cls) (v0 : Int32) (hret : meth.sig.returnType = some .boolean) {fs : List Frame} (hr : ∀ (f : JFrame) (acts : List Action), f.method = m → f.locked = none → f.entered = [] → (doReturn e (T.setTop f) acts (some (.int F2_98))).1 = T.setFrames fs) : Steps p.tables e below (T.setTop (mkF m 98 #[.val (.int v0)] [])) (T.setFrames fs) := by
  show Steps p.tables e below (T.setTop (mkF m 98 #[.val (.int v0)] [])) _
  refine XS.iconst X.here hx rfl (hb hby d2_98) ?_
  show Steps p.tables e below (T.setTop (mkF m 99 #[.val (.int v0)] [(.int (0 : Int32))])) _
  rw [show F2_98 = nar .boolean (0 : Int32) from rfl] at hr
  exact retN X hx (t := .boolean) hret (by simp) (hb hby d2_99) hr
def F2_91 (v0 : Int32) : Int32 := if (8203 : Int32) < v0 then (F2_100 v0) else F2_98
theorem b2_91 {p : Program} {l : Launch} {e : Env} {R : Room} {s : State} {m : MethodId} {args : Array Value} {below : List Frame} {meth : Method} {c : Code} {T : State} {locs : List Loc} {cells slots : Nat} {Z : State} {a0 : Array Value} (X : Stand p l e R s m args below meth c T locs cells slots) (hx : p.tables.exec = Jvm.exec) (hZ : Z.Warmed39 s.vm) (hw : ∀ d ∈ tables_1, d.before a0 Z = true) (hby : c.code = method_2_code) (hown : s.vm.findClass "com/example/triplewright/triplewright/rdf/TextScannerIsPnCharsBasePinLaw" = some m.cls) (v0 : Int32) (hret : meth.sig.returnType = some .boolean) {fs : List Frame} (hr : ∀ (f : JFrame) (acts : List Action), f.method = m → f.locked = none → f.entered = [] → (doReturn e (T.setTop f) acts (some (.int (F2_91 v0)))).1 = T.setFrames fs) : Steps p.tables e below (T.setTop (mkF m 91 #[.val (.int v0)] [])) (T.setFrames fs) := by
  show Steps p.tables e below (T.setTop (mkF m 91 #[.val (.int v0)] [])) _
  refine XS.iloadN X.here hx rfl (hb hby d2_91) rfl ?_
  show Steps p.tables e below (T.setTop (mkF m 92 #[.val (.int v0)] [(.int v0)])) _
  refine XS.sipush X.here hx rfl (hb hby d2_92) ?_
  show Steps p.tables e below (T.setTop (mkF m 95 #[.val (.int v0)] [(.int (8203 : Int32)), (.int v0)])) _
  by_cases hc : (8203 : Int32) < v0
  · rw [show (F2_91 v0) = (F2_100 v0) from if_pos hc] at hr
    refine XS.icmpYes X.here hx rfl (pc0 := 95) (pc' := 100) rfl (hb hby d2_95) rfl (tlt hc).2.2.1 (by decide) (by decide) ?_
    exact b2_100 X hx hZ hw hby hown v0 hret hr
  · rw [show (F2_91 v0) = F2_98 from if_neg hc] at hr
    refine XS.icmpNo X.here hx rfl (hb hby d2_95) rfl (flt hc).2.2.1 ?_
    exact b2_98 X hx hZ hw hby hown v0 hret hr
def F2_84 (v0 : Int32) : Int32 := if v0 < (8192 : Int32) then (F2_100 v0) else (F2_91 v0)
theorem b2_84 {p : Program} {l : Launch} {e : Env} {R : Room} {s : State} {m : MethodId} {args : Array Value} {below : List Frame} {meth : Method} {c : Code} {T : State} {locs : List Loc} {cells slots : Nat} {Z : State} {a0 : Array Value} (X : Stand p l e R s m args below meth c T locs cells slots) (hx : p.tables.exec = Jvm.exec) (hZ : Z.Warmed39 s.vm) (hw : ∀ d ∈ tables_1, d.before a0 Z = true) (hby : c.code = method_2_code) (hown : s.vm.findClass "com/example/triplewright/triplewright/rdf/TextScannerIsPnCharsBasePinLaw" = some m.cls) (v0 : Int32) (hret : meth.sig.returnType = some .boolean) {fs : List Frame} (hr : ∀ (f : JFrame) (acts : List Action), f.method = m → f.locked = none → f.entered = [] → (doReturn e (T.setTop f) acts (some (.int (F2_84 v0)))).1 = T.setFrames fs) : Steps p.tables e below (T.setTop (mkF m 84 #[.val (.int v0)] [])) (T.setFrames fs) := by
  show Steps p.tables e below (T.setTop (mkF m 84 #[.val (.int v0)] [])) _
  refine XS.iloadN X.here hx rfl (hb hby d2_84) rfl ?_
  show Steps p.tables e below (T.setTop (mkF m 85 #[.val (.int v0)] [(.int v0)])) _
  refine XS.sipush X.here hx rfl (hb hby d2_85) ?_
  show Steps p.tables e below (T.setTop (mkF m 88 #[.val (.int v0)] [(.int (8192 : Int32)), (.int v0)])) _
  by_cases hc : v0 < (8192 : Int32)
  · rw [show (F2_84 v0) = (F2_100 v0) from if_pos hc] at hr
    refine XS.icmpYes X.here hx rfl (pc0 := 88) (pc' := 100) rfl (hb hby d2_88) rfl (tlt hc).1 (by decide) (by decide) ?_
    exact b2_100 X hx hZ hw hby hown v0 hret hr
  · rw [show (F2_84 v0) = (F2_91 v0) from if_neg hc] at hr
    refine XS.icmpNo X.here hx rfl (hb hby d2_88) rfl (flt hc).1 ?_
    exact b2_91 X hx hZ hw hby hown v0 hret hr
def F2_82 : Int32 := (0 : Int32)
theorem b2_82 {p : Program} {l : Launch} {e : Env} {R : Room} {s : State} {m : MethodId} {args : Array Value} {below : List Frame} {meth : Method} {c : Code} {T : State} {locs : List Loc} {cells slots : Nat} {Z : State} {a0 : Array Value} (X : Stand p l e R s m args below meth c T locs cells slots) (hx : p.tables.exec = Jvm.exec) (hZ : Z.Warmed39 s.vm) (hw : ∀ d ∈ tables_1, d.before a0 Z = true) (hby : c.code = method_2_code) (hown : s.vm.findClass "com/example/triplewright/triplewright/rdf/TextScannerIsPnCharsBasePinLaw" = some m.cls) (v0 : Int32) (hret : meth.sig.returnType = some .boolean) {fs : List Frame} (hr : ∀ (f : JFrame) (acts : List Action), f.method = m → f.locked = none → f.entered = [] → (doReturn e (T.setTop f) acts (some (.int F2_82))).1 = T.setFrames fs) : Steps p.tables e below (T.setTop (mkF m 82 #[.val (.int v0)] [])) (T.setFrames fs) := by
  show Steps p.tables e below (T.setTop (mkF m 82 #[.val (.int v0)] [])) _
  refine XS.iconst X.here hx rfl (hb hby d2_82) ?_
  show Steps p.tables e below (T.setTop (mkF m 83 #[.val (.int v0)] [(.int (0 : Int32))])) _
  rw [show F2_82 = nar .boolean (0 : Int32) from rfl] at hr
  exact retN X hx (t := .boolean) hret (by simp) (hb hby d2_83) hr
def F2_75 (v0 : Int32) : Int32 := if v0 = (894 : Int32) then F2_82 else (F2_84 v0)
theorem b2_75 {p : Program} {l : Launch} {e : Env} {R : Room} {s : State} {m : MethodId} {args : Array Value} {below : List Frame} {meth : Method} {c : Code} {T : State} {locs : List Loc} {cells slots : Nat} {Z : State} {a0 : Array Value} (X : Stand p l e R s m args below meth c T locs cells slots) (hx : p.tables.exec = Jvm.exec) (hZ : Z.Warmed39 s.vm) (hw : ∀ d ∈ tables_1, d.before a0 Z = true) (hby : c.code = method_2_code) (hown : s.vm.findClass "com/example/triplewright/triplewright/rdf/TextScannerIsPnCharsBasePinLaw" = some m.cls) (v0 : Int32) (hret : meth.sig.returnType = some .boolean) {fs : List Frame} (hr : ∀ (f : JFrame) (acts : List Action), f.method = m → f.locked = none → f.entered = [] → (doReturn e (T.setTop f) acts (some (.int (F2_75 v0)))).1 = T.setFrames fs) : Steps p.tables e below (T.setTop (mkF m 75 #[.val (.int v0)] [])) (T.setFrames fs) := by
  show Steps p.tables e below (T.setTop (mkF m 75 #[.val (.int v0)] [])) _
  refine XS.iloadN X.here hx rfl (hb hby d2_75) rfl ?_
  show Steps p.tables e below (T.setTop (mkF m 76 #[.val (.int v0)] [(.int v0)])) _
  refine XS.sipush X.here hx rfl (hb hby d2_76) ?_
  show Steps p.tables e below (T.setTop (mkF m 79 #[.val (.int v0)] [(.int (894 : Int32)), (.int v0)])) _
  by_cases hc : v0 = (894 : Int32)
  · rw [show (F2_75 v0) = F2_82 from if_pos hc] at hr
    refine XS.icmpNo X.here hx rfl (hb hby d2_79) rfl (teq hc).2 ?_
    exact b2_82 X hx hZ hw hby hown v0 hret hr
  · rw [show (F2_75 v0) = (F2_84 v0) from if_neg hc] at hr
    refine XS.icmpYes X.here hx rfl (pc0 := 79) (pc' := 84) rfl (hb hby d2_79) rfl (feq hc).2 (by decide) (by decide) ?_
    exact b2_84 X hx hZ hw hby hown v0 hret hr
def F2_73 : Int32 := (0 : Int32)
theorem b2_73 {p : Program} {l : Launch} {e : Env} {R : Room} {s : State} {m : MethodId} {args : Array Value} {below : List Frame} {meth : Method} {c : Code} {T : State} {locs : List Loc} {cells slots : Nat} {Z : State} {a0 : Array Value} (X : Stand p l e R s m args below meth c T locs cells slots) (hx : p.tables.exec = Jvm.exec) (hZ : Z.Warmed39 s.vm) (hw : ∀ d ∈ tables_1, d.before a0 Z = true) (hby : c.code = method_2_code) (hown : s.vm.findClass "com/example/triplewright/triplewright/rdf/TextScannerIsPnCharsBasePinLaw" = some m.cls) (v0 : Int32) (hret : meth.sig.returnType = some .boolean) {fs : List Frame} (hr : ∀ (f : JFrame) (acts : List Action), f.method = m → f.locked = none → f.entered = [] → (doReturn e (T.setTop f) acts (some (.int F2_73))).1 = T.setFrames fs) : Steps p.tables e below (T.setTop (mkF m 73 #[.val (.int v0)] [])) (T.setFrames fs) := by
  show Steps p.tables e below (T.setTop (mkF m 73 #[.val (.int v0)] [])) _
  refine XS.iconst X.here hx rfl (hb hby d2_73) ?_
  show Steps p.tables e below (T.setTop (mkF m 74 #[.val (.int v0)] [(.int (0 : Int32))])) _
  rw [show F2_73 = nar .boolean (0 : Int32) from rfl] at hr
  exact retN X hx (t := .boolean) hret (by simp) (hb hby d2_74) hr
def F2_66 (v0 : Int32) : Int32 := if (879 : Int32) < v0 then (F2_75 v0) else F2_73
theorem b2_66 {p : Program} {l : Launch} {e : Env} {R : Room} {s : State} {m : MethodId} {args : Array Value} {below : List Frame} {meth : Method} {c : Code} {T : State} {locs : List Loc} {cells slots : Nat} {Z : State} {a0 : Array Value} (X : Stand p l e R s m args below meth c T locs cells slots) (hx : p.tables.exec = Jvm.exec) (hZ : Z.Warmed39 s.vm) (hw : ∀ d ∈ tables_1, d.before a0 Z = true) (hby : c.code = method_2_code) (hown : s.vm.findClass "com/example/triplewright/triplewright/rdf/TextScannerIsPnCharsBasePinLaw" = some m.cls) (v0 : Int32) (hret : meth.sig.returnType = some .boolean) {fs : List Frame} (hr : ∀ (f : JFrame) (acts : List Action), f.method = m → f.locked = none → f.entered = [] → (doReturn e (T.setTop f) acts (some (.int (F2_66 v0)))).1 = T.setFrames fs) : Steps p.tables e below (T.setTop (mkF m 66 #[.val (.int v0)] [])) (T.setFrames fs) := by
  show Steps p.tables e below (T.setTop (mkF m 66 #[.val (.int v0)] [])) _
  refine XS.iloadN X.here hx rfl (hb hby d2_66) rfl ?_
  show Steps p.tables e below (T.setTop (mkF m 67 #[.val (.int v0)] [(.int v0)])) _
  refine XS.sipush X.here hx rfl (hb hby d2_67) ?_
  show Steps p.tables e below (T.setTop (mkF m 70 #[.val (.int v0)] [(.int (879 : Int32)), (.int v0)])) _
  by_cases hc : (879 : Int32) < v0
  · rw [show (F2_66 v0) = (F2_75 v0) from if_pos hc] at hr
    refine XS.icmpYes X.here hx rfl (pc0 := 70) (pc' := 75) rfl (hb hby d2_70) rfl (tlt hc).2.2.1 (by decide) (by decide) ?_
    exact b2_75 X hx hZ hw hby hown v0 hret hr
  · rw [show (F2_66 v0) = F2_73 from if_neg hc] at hr
    refine XS.icmpNo X.here hx rfl (hb hby d2_70) rfl (flt hc).2.2.1 ?_
    exact b2_73 X hx hZ hw hby hown v0 hret hr
def F2_59 (v0 : Int32) : Int32 := if v0 < (768 : Int32) then (F2_75 v0) else (F2_66 v0)
theorem b2_59 {p : Program} {l : Launch} {e : Env} {R : Room} {s : State} {m : MethodId} {args : Array Value} {below : List Frame} {meth : Method} {c : Code} {T : State} {locs : List Loc} {cells slots : Nat} {Z : State} {a0 : Array Value} (X : Stand p l e R s m args below meth c T locs cells slots) (hx : p.tables.exec = Jvm.exec) (hZ : Z.Warmed39 s.vm) (hw : ∀ d ∈ tables_1, d.before a0 Z = true) (hby : c.code = method_2_code) (hown : s.vm.findClass "com/example/triplewright/triplewright/rdf/TextScannerIsPnCharsBasePinLaw" = some m.cls) (v0 : Int32) (hret : meth.sig.returnType = some .boolean) {fs : List Frame} (hr : ∀ (f : JFrame) (acts : List Action), f.method = m → f.locked = none → f.entered = [] → (doReturn e (T.setTop f) acts (some (.int (F2_59 v0)))).1 = T.setFrames fs) : Steps p.tables e below (T.setTop (mkF m 59 #[.val (.int v0)] [])) (T.setFrames fs) := by
  show Steps p.tables e below (T.setTop (mkF m 59 #[.val (.int v0)] [])) _
  refine XS.iloadN X.here hx rfl (hb hby d2_59) rfl ?_
  show Steps p.tables e below (T.setTop (mkF m 60 #[.val (.int v0)] [(.int v0)])) _
  refine XS.sipush X.here hx rfl (hb hby d2_60) ?_
  show Steps p.tables e below (T.setTop (mkF m 63 #[.val (.int v0)] [(.int (768 : Int32)), (.int v0)])) _
  by_cases hc : v0 < (768 : Int32)
  · rw [show (F2_59 v0) = (F2_75 v0) from if_pos hc] at hr
    refine XS.icmpYes X.here hx rfl (pc0 := 63) (pc' := 75) rfl (hb hby d2_63) rfl (tlt hc).1 (by decide) (by decide) ?_
    exact b2_75 X hx hZ hw hby hown v0 hret hr
  · rw [show (F2_59 v0) = (F2_66 v0) from if_neg hc] at hr
    refine XS.icmpNo X.here hx rfl (hb hby d2_63) rfl (flt hc).1 ?_
    exact b2_66 X hx hZ hw hby hown v0 hret hr
def F2_50 (v0 : Int32) : Int32 := if v0 = (247 : Int32) then F2_57 else (F2_59 v0)
theorem b2_50 {p : Program} {l : Launch} {e : Env} {R : Room} {s : State} {m : MethodId} {args : Array Value} {below : List Frame} {meth : Method} {c : Code} {T : State} {locs : List Loc} {cells slots : Nat} {Z : State} {a0 : Array Value} (X : Stand p l e R s m args below meth c T locs cells slots) (hx : p.tables.exec = Jvm.exec) (hZ : Z.Warmed39 s.vm) (hw : ∀ d ∈ tables_1, d.before a0 Z = true) (hby : c.code = method_2_code) (hown : s.vm.findClass "com/example/triplewright/triplewright/rdf/TextScannerIsPnCharsBasePinLaw" = some m.cls) (v0 : Int32) (hret : meth.sig.returnType = some .boolean) {fs : List Frame} (hr : ∀ (f : JFrame) (acts : List Action), f.method = m → f.locked = none → f.entered = [] → (doReturn e (T.setTop f) acts (some (.int (F2_50 v0)))).1 = T.setFrames fs) : Steps p.tables e below (T.setTop (mkF m 50 #[.val (.int v0)] [])) (T.setFrames fs) := by
  show Steps p.tables e below (T.setTop (mkF m 50 #[.val (.int v0)] [])) _
  refine XS.iloadN X.here hx rfl (hb hby d2_50) rfl ?_
  show Steps p.tables e below (T.setTop (mkF m 51 #[.val (.int v0)] [(.int v0)])) _
  refine XS.sipush X.here hx rfl (hb hby d2_51) ?_
  show Steps p.tables e below (T.setTop (mkF m 54 #[.val (.int v0)] [(.int (247 : Int32)), (.int v0)])) _
  by_cases hc : v0 = (247 : Int32)
  · rw [show (F2_50 v0) = F2_57 from if_pos hc] at hr
    refine XS.icmpNo X.here hx rfl (hb hby d2_54) rfl (teq hc).2 ?_
    exact b2_57 X hx hZ hw hby hown v0 hret hr
  · rw [show (F2_50 v0) = (F2_59 v0) from if_neg hc] at hr
    refine XS.icmpYes X.here hx rfl (pc0 := 54) (pc' := 59) rfl (hb hby d2_54) rfl (feq hc).2 (by decide) (by decide) ?_
    exact b2_59 X hx hZ hw hby hown v0 hret hr
def F2_43 (v0 : Int32) : Int32 := if v0 = (215 : Int32) then F2_57 else (F2_50 v0)
theorem b2_43 {p : Program} {l : Launch} {e : Env} {R : Room} {s : State} {m : MethodId} {args : Array Value} {below : List Frame} {meth : Method} {c : Code} {T : State} {locs : List Loc} {cells slots : Nat} {Z : State} {a0 : Array Value} (X : Stand p l e R s m args below meth c T locs cells slots) (hx : p.tables.exec = Jvm.exec) (hZ : Z.Warmed39 s.vm) (hw : ∀ d ∈ tables_1, d.before a0 Z = true) (hby : c.code = method_2_code) (hown : s.vm.findClass "com/example/triplewright/triplewright/rdf/TextScannerIsPnCharsBasePinLaw" = some m.cls) (v0 : Int32) (hret : meth.sig.returnType = some .boolean) {fs : List Frame} (hr : ∀ (f : JFrame) (acts : List Action), f.method = m → f.locked = none → f.entered = [] → (doReturn e (T.setTop f) acts (some (.int (F2_43 v0)))).1 = T.setFrames fs) : Steps p.tables e below (T.setTop (mkF m 43 #[.val (.int v0)] [])) (T.setFrames fs) := by
  show Steps p.tables e below (T.setTop (mkF m 43 #[.val (.int v0)] [])) _
  refine XS.iloadN X.here hx rfl (hb hby d2_43) rfl ?_
  show Steps p.tables e below (T.setTop (mkF m 44 #[.val (.int v0)] [(.int v0)])) _
  refine XS.sipush X.here hx rfl (hb hby d2_44) ?_
  show Steps p.tables e below (T.setTop (mkF m 47 #[.val (.int v0)] [(.int (215 : Int32)), (.int v0)])) _
  by_cases hc : v0 = (215 : Int32)
  · rw [show (F2_43 v0) = F2_57 from if_pos hc] at hr
    refine XS.icmpYes X.here hx rfl (pc0 := 47) (pc' := 57) rfl (hb hby d2_47) rfl (teq hc).1 (by decide) (by decide) ?_
    exact b2_57 X hx hZ hw hby hown v0 hret hr
  · rw [show (F2_43 v0) = (F2_50 v0) from if_neg hc] at hr
    refine XS.icmpNo X.here hx rfl (hb hby d2_47) rfl (feq hc).1 ?_
    exact b2_50 X hx hZ hw hby hown v0 hret hr
def F2_41 : Int32 := (0 : Int32)
theorem b2_41 {p : Program} {l : Launch} {e : Env} {R : Room} {s : State} {m : MethodId} {args : Array Value} {below : List Frame} {meth : Method} {c : Code} {T : State} {locs : List Loc} {cells slots : Nat} {Z : State} {a0 : Array Value} (X : Stand p l e R s m args below meth c T locs cells slots) (hx : p.tables.exec = Jvm.exec) (hZ : Z.Warmed39 s.vm) (hw : ∀ d ∈ tables_1, d.before a0 Z = true) (hby : c.code = method_2_code) (hown : s.vm.findClass "com/example/triplewright/triplewright/rdf/TextScannerIsPnCharsBasePinLaw" = some m.cls) (v0 : Int32) (hret : meth.sig.returnType = some .boolean) {fs : List Frame} (hr : ∀ (f : JFrame) (acts : List Action), f.method = m → f.locked = none → f.entered = [] → (doReturn e (T.setTop f) acts (some (.int F2_41))).1 = T.setFrames fs) : Steps p.tables e below (T.setTop (mkF m 41 #[.val (.int v0)] [])) (T.setFrames fs) := by
  show Steps p.tables e below (T.setTop (mkF m 41 #[.val (.int v0)] [])) _
  refine XS.iconst X.here hx rfl (hb hby d2_41) ?_
  show Steps p.tables e below (T.setTop (mkF m 42 #[.val (.int v0)] [(.int (0 : Int32))])) _
  rw [show F2_41 = nar .boolean (0 : Int32) from rfl] at hr
  exact retN X hx (t := .boolean) hret (by simp) (hb hby d2_42) hr
def F2_34 (v0 : Int32) : Int32 := if (191 : Int32) < v0 then (F2_43 v0) else F2_41
theorem b2_34 {p : Program} {l : Launch} {e : Env} {R : Room} {s : State} {m : MethodId} {args : Array Value} {below : List Frame} {meth : Method} {c : Code} {T : State} {locs : List Loc} {cells slots : Nat} {Z : State} {a0 : Array Value} (X : Stand p l e R s m args below meth c T locs cells slots) (hx : p.tables.exec = Jvm.exec) (hZ : Z.Warmed39 s.vm) (hw : ∀ d ∈ tables_1, d.before a0 Z = true) (hby : c.code = method_2_code) (hown : s.vm.findClass "com/example/triplewright/triplewright/rdf/TextScannerIsPnCharsBasePinLaw" = some m.cls) (v0 : Int32) (hret : meth.sig.returnType = some .boolean) {fs : List Frame} (hr : ∀ (f : JFrame) (acts : List Action), f.method = m → f.locked = none → f.entered = [] → (doReturn e (T.setTop f) acts (some (.int (F2_34 v0)))).1 = T.setFrames fs) : Steps p.tables e below (T.setTop (mkF m 34 #[.val (.int v0)] [])) (T.setFrames fs) := by
  show Steps p.tables e below (T.setTop (mkF m 34 #[.val (.int v0)] [])) _
  refine XS.iloadN X.here hx rfl (hb hby d2_34) rfl ?_
  show Steps p.tables e below (T.setTop (mkF m 35 #[.val (.int v0)] [(.int v0)])) _
  refine XS.sipush X.here hx rfl (hb hby d2_35) ?_
  show Steps p.tables e below (T.setTop (mkF m 38 #[.val (.int v0)] [(.int (191 : Int32)), (.int v0)])) _
  by_cases hc : (191 : Int32) < v0
  · rw [show (F2_34 v0) = (F2_43 v0) from if_pos hc] at hr
    refine XS.icmpYes X.here hx rfl (pc0 := 38) (pc' := 43) rfl (hb hby d2_38) rfl (tlt hc).2.2.1 (by decide) (by decide) ?_
    exact b2_43 X hx hZ hw hby hown v0 hret hr
  · rw [show (F2_34 v0) = F2_41 from if_neg hc] at hr
    refine XS.icmpNo X.here hx rfl (hb hby d2_38) rfl (flt hc).2.2.1 ?_
    exact b2_41 X hx hZ hw hby hown v0 hret hr
def F2_28 (v0 : Int32) : Int32 := if v0 < (123 : Int32) then (F2_43 v0) else (F2_34 v0)
theorem b2_28 {p : Program} {l : Launch} {e : Env} {R : Room} {s : State} {m : MethodId} {args : Array Value} {below : List Frame} {meth : Method} {c : Code} {T : State} {locs : List Loc} {cells slots : Nat} {Z : State} {a0 : Array Value} (X : Stand p l e R s m args below meth c T locs cells slots) (hx : p.tables.exec = Jvm.exec) (hZ : Z.Warmed39 s.vm) (hw : ∀ d ∈ tables_1, d.before a0 Z = true) (hby : c.code = method_2_code) (hown : s.vm.findClass "com/example/triplewright/triplewright/rdf/TextScannerIsPnCharsBasePinLaw" = some m.cls) (v0 : Int32) (hret : meth.sig.returnType = some .boolean) {fs : List Frame} (hr : ∀ (f : JFrame) (acts : List Action), f.method = m → f.locked = none → f.entered = [] → (doReturn e (T.setTop f) acts (some (.int (F2_28 v0)))).1 = T.setFrames fs) : Steps p.tables e below (T.setTop (mkF m 28 #[.val (.int v0)] [])) (T.setFrames fs) := by
  show Steps p.tables e below (T.setTop (mkF m 28 #[.val (.int v0)] [])) _
  refine XS.iloadN X.here hx rfl (hb hby d2_28) rfl ?_
  show Steps p.tables e below (T.setTop (mkF m 29 #[.val (.int v0)] [(.int v0)])) _
  refine XS.bipush X.here hx rfl (hb hby d2_29) ?_
  show Steps p.tables e below (T.setTop (mkF m 31 #[.val (.int v0)] [(.int (123 : Int32)), (.int v0)])) _
  by_cases hc : v0 < (123 : Int32)
  · rw [show (F2_28 v0) = (F2_43 v0) from if_pos hc] at hr
    refine XS.icmpYes X.here hx rfl (pc0 := 31) (pc' := 43) rfl (hb hby d2_31) rfl (tlt hc).1 (by decide) (by decide) ?_
    exact b2_43 X hx hZ hw hby hown v0 hret hr
  · rw [show (F2_28 v0) = (F2_34 v0) from if_neg hc] at hr
    refine XS.icmpNo X.here hx rfl (hb hby d2_31) rfl (flt hc).1 ?_
    exact b2_34 X hx hZ hw hby hown v0 hret hr
def F2_26 : Int32 := (0 : Int32)
theorem b2_26 {p : Program} {l : Launch} {e : Env} {R : Room} {s : State} {m : MethodId} {args : Array Value} {below : List Frame} {meth : Method} {c : Code} {T : State} {locs : List Loc} {cells slots : Nat} {Z : State} {a0 : Array Value} (X : Stand p l e R s m args below meth c T locs cells slots) (hx : p.tables.exec = Jvm.exec) (hZ : Z.Warmed39 s.vm) (hw : ∀ d ∈ tables_1, d.before a0 Z = true) (hby : c.code = method_2_code) (hown : s.vm.findClass "com/example/triplewright/triplewright/rdf/TextScannerIsPnCharsBasePinLaw" = some m.cls) (v0 : Int32) (hret : meth.sig.returnType = some .boolean) {fs : List Frame} (hr : ∀ (f : JFrame) (acts : List Action), f.method = m → f.locked = none → f.entered = [] → (doReturn e (T.setTop f) acts (some (.int F2_26))).1 = T.setFrames fs) : Steps p.tables e below (T.setTop (mkF m 26 #[.val (.int v0)] [])) (T.setFrames fs) := by
  show Steps p.tables e below (T.setTop (mkF m 26 #[.val (.int v0)] [])) _
  refine XS.iconst X.here hx rfl (hb hby d2_26) ?_
  show Steps p.tables e below (T.setTop (mkF m 27 #[.val (.int v0)] [(.int (0 : Int32))])) _
  rw [show F2_26 = nar .boolean (0 : Int32) from rfl] at hr
  exact retN X hx (t := .boolean) hret (by simp) (hb hby d2_27) hr
def F2_20 (v0 : Int32) : Int32 := if (96 : Int32) < v0 then (F2_28 v0) else F2_26
theorem b2_20 {p : Program} {l : Launch} {e : Env} {R : Room} {s : State} {m : MethodId} {args : Array Value} {below : List Frame} {meth : Method} {c : Code} {T : State} {locs : List Loc} {cells slots : Nat} {Z : State} {a0 : Array Value} (X : Stand p l e R s m args below meth c T locs cells slots) (hx : p.tables.exec = Jvm.exec) (hZ : Z.Warmed39 s.vm) (hw : ∀ d ∈ tables_1, d.before a0 Z = true) (hby : c.code = method_2_code) (hown : s.vm.findClass "com/example/triplewright/triplewright/rdf/TextScannerIsPnCharsBasePinLaw" = some m.cls) (v0 : Int32) (hret : meth.sig.returnType = some .boolean) {fs : List Frame} (hr : ∀ (f : JFrame) (acts : List Action), f.method = m → f.locked = none → f.entered = [] → (doReturn e (T.setTop f) acts (some (.int (F2_20 v0)))).1 = T.setFrames fs) : Steps p.tables e below (T.setTop (mkF m 20 #[.val (.int v0)] [])) (T.setFrames fs) := by
  show Steps p.tables e below (T.setTop (mkF m 20 #[.val (.int v0)] [])) _
  refine XS.iloadN X.here hx rfl (hb hby d2_20) rfl ?_
  show Steps p.tables e below (T.setTop (mkF m 21 #[.val (.int v0)] [(.int v0)])) _
  refine XS.bipush X.here hx rfl (hb hby d2_21) ?_
  show Steps p.tables e below (T.setTop (mkF m 23 #[.val (.int v0)] [(.int (96 : Int32)), (.int v0)])) _
  by_cases hc : (96 : Int32) < v0
  · rw [show (F2_20 v0) = (F2_28 v0) from if_pos hc] at hr
    refine XS.icmpYes X.here hx rfl (pc0 := 23) (pc' := 28) rfl (hb hby d2_23) rfl (tlt hc).2.2.1 (by decide) (by decide) ?_
    exact b2_28 X hx hZ hw hby hown v0 hret hr
  · rw [show (F2_20 v0) = F2_26 from if_neg hc] at hr
    refine XS.icmpNo X.here hx rfl (hb hby d2_23) rfl (flt hc).2.2.1 ?_
    exact b2_26 X hx hZ hw hby hown v0 hret hr
def F2_14 (v0 : Int32) : Int32 := if v0 < (91 : Int32) then (F2_28 v0) else (F2_20 v0)
theorem b2_14 {p : Program} {l : Launch} {e : Env} {R : Room} {s : State} {m : MethodId} {args : Array Value} {below : List Frame} {meth : Method} {c : Code} {T : State} {locs : List Loc} {cells slots : Nat} {Z : State} {a0 : Array Value} (X : Stand p l e R s m args below meth c T locs cells slots) (hx : p.tables.exec = Jvm.exec) (hZ : Z.Warmed39 s.vm) (hw : ∀ d ∈ tables_1, d.before a0 Z = true) (hby : c.code = method_2_code) (hown : s.vm.findClass "com/example/triplewright/triplewright/rdf/TextScannerIsPnCharsBasePinLaw" = some m.cls) (v0 : Int32) (hret : meth.sig.returnType = some .boolean) {fs : List Frame} (hr : ∀ (f : JFrame) (acts : List Action), f.method = m → f.locked = none → f.entered = [] → (doReturn e (T.setTop f) acts (some (.int (F2_14 v0)))).1 = T.setFrames fs) : Steps p.tables e below (T.setTop (mkF m 14 #[.val (.int v0)] [])) (T.setFrames fs) := by
  show Steps p.tables e below (T.setTop (mkF m 14 #[.val (.int v0)] [])) _
  refine XS.iloadN X.here hx rfl (hb hby d2_14) rfl ?_
  show Steps p.tables e below (T.setTop (mkF m 15 #[.val (.int v0)] [(.int v0)])) _
  refine XS.bipush X.here hx rfl (hb hby d2_15) ?_
  show Steps p.tables e below (T.setTop (mkF m 17 #[.val (.int v0)] [(.int (91 : Int32)), (.int v0)])) _
  by_cases hc : v0 < (91 : Int32)
  · rw [show (F2_14 v0) = (F2_28 v0) from if_pos hc] at hr
    refine XS.icmpYes X.here hx rfl (pc0 := 17) (pc' := 28) rfl (hb hby d2_17) rfl (tlt hc).1 (by decide) (by decide) ?_
    exact b2_28 X hx hZ hw hby hown v0 hret hr
  · rw [show (F2_14 v0) = (F2_20 v0) from if_neg hc] at hr
    refine XS.icmpNo X.here hx rfl (hb hby d2_17) rfl (flt hc).1 ?_
    exact b2_20 X hx hZ hw hby hown v0 hret hr
def F2_6 (v0 : Int32) : Int32 := if (983039 : Int32) < v0 then F2_12 else (F2_14 v0)
theorem b2_6 {p : Program} {l : Launch} {e : Env} {R : Room} {s : State} {m : MethodId} {args : Array Value} {below : List Frame} {meth : Method} {c : Code} {T : State} {locs : List Loc} {cells slots : Nat} {Z : State} {a0 : Array Value} (X : Stand p l e R s m args below meth c T locs cells slots) (hx : p.tables.exec = Jvm.exec) (hZ : Z.Warmed39 s.vm) (hw : ∀ d ∈ tables_1, d.before a0 Z = true) (hby : c.code = method_2_code) (hown : s.vm.findClass "com/example/triplewright/triplewright/rdf/TextScannerIsPnCharsBasePinLaw" = some m.cls) (v0 : Int32) (hret : meth.sig.returnType = some .boolean) {fs : List Frame} (hr : ∀ (f : JFrame) (acts : List Action), f.method = m → f.locked = none → f.entered = [] → (doReturn e (T.setTop f) acts (some (.int (F2_6 v0)))).1 = T.setFrames fs) : Steps p.tables e below (T.setTop (mkF m 6 #[.val (.int v0)] [])) (T.setFrames fs) := by
  show Steps p.tables e below (T.setTop (mkF m 6 #[.val (.int v0)] [])) _
  refine XS.iloadN X.here hx rfl (hb hby d2_6) rfl ?_
  show Steps p.tables e below (T.setTop (mkF m 7 #[.val (.int v0)] [(.int v0)])) _
  refine X.ldcInt hx hown (mvT hZ (hw _ (List.mem_of_getElem? (i := 7) rfl))) (g := (mkF m 7 #[.val (.int v0)] [(.int v0)])) rfl (hb hby d2_7) _ ?_
  show Steps p.tables e below (T.setTop (mkF m 9 #[.val (.int v0)] [(.int (983039 : Int32)), (.int v0)])) _
  by_cases hc : (983039 : Int32) < v0
  · rw [show (F2_6 v0) = F2_12 from if_pos hc] at hr
    refine XS.icmpNo X.here hx rfl (hb hby d2_9) rfl (tlt hc).2.2.2 ?_
    exact b2_12 X hx hZ hw hby hown v0 hret hr
  · rw [show (F2_6 v0) = (F2_14 v0) from if_neg hc] at hr
    refine XS.icmpYes X.here hx rfl (pc0 := 9) (pc' := 14) rfl (hb hby d2_9) rfl (flt hc).2.2.2 (by decide) (by decide) ?_
    exact b2_14 X hx hZ hw hby hown v0 hret hr
def F2_0 (v0 : Int32) : Int32 := if v0 < (65 : Int32) then F2_12 else (F2_6 v0)
theorem b2_0 {p : Program} {l : Launch} {e : Env} {R : Room} {s : State} {m : MethodId} {args : Array Value} {below : List Frame} {meth : Method} {c : Code} {T : State} {locs : List Loc} {cells slots : Nat} {Z : State} {a0 : Array Value} (X : Stand p l e R s m args below meth c T locs cells slots) (hx : p.tables.exec = Jvm.exec) (hZ : Z.Warmed39 s.vm) (hw : ∀ d ∈ tables_1, d.before a0 Z = true) (hby : c.code = method_2_code) (hown : s.vm.findClass "com/example/triplewright/triplewright/rdf/TextScannerIsPnCharsBasePinLaw" = some m.cls) (v0 : Int32) (hret : meth.sig.returnType = some .boolean) {fs : List Frame} (hr : ∀ (f : JFrame) (acts : List Action), f.method = m → f.locked = none → f.entered = [] → (doReturn e (T.setTop f) acts (some (.int (F2_0 v0)))).1 = T.setFrames fs) : Steps p.tables e below (T.setTop (mkF m 0 #[.val (.int v0)] [])) (T.setFrames fs) := by
  show Steps p.tables e below (T.setTop (mkF m 0 #[.val (.int v0)] [])) _
  refine XS.iloadN X.here hx rfl (hb hby d2_0) rfl ?_
  show Steps p.tables e below (T.setTop (mkF m 1 #[.val (.int v0)] [(.int v0)])) _
  refine XS.bipush X.here hx rfl (hb hby d2_1) ?_
  show Steps p.tables e below (T.setTop (mkF m 3 #[.val (.int v0)] [(.int (65 : Int32)), (.int v0)])) _
  by_cases hc : v0 < (65 : Int32)
  · rw [show (F2_0 v0) = F2_12 from if_pos hc] at hr
    refine XS.icmpYes X.here hx rfl (pc0 := 3) (pc' := 12) rfl (hb hby d2_3) rfl (tlt hc).1 (by decide) (by decide) ?_
    exact b2_12 X hx hZ hw hby hown v0 hret hr
  · rw [show (F2_0 v0) = (F2_6 v0) from if_neg hc] at hr
    refine XS.icmpNo X.here hx rfl (hb hby d2_3) rfl (flt hc).1 ?_
    exact b2_6 X hx hZ hw hby hown v0 hret hr
theorem pn_2 : plainName "com/example/triplewright/triplewright/rdf/TextScannerIsPnCharsBasePinLaw" = true := by first | (simp [plainName, overriddenIn]; done) | decide +kernel
theorem ef_2 (m : MethodId) (p0 : Int32) : entryFrame m #[(.int p0)] 1 = mkF m 0 #[.val (.int p0)] [] := by first | (simp [entryFrame, mkF, argsToLocals, Value.category]; done) | rfl
def Q_rm2 (Z : State) (p0 : Int32) (h0 : Heap) (n0 : Nat) (v : Option Value) (h : Heap) (L : List Loc) : Prop := (v = some (.int (F2_0 p0)) ∧ Fr n0 L ∧ h = h0)
set_option maxRecDepth 65536 in
set_option maxHeartbeats 40000000 in
theorem rm2 (l : Launch) (Z : State) (a0 : Array Value) (hw : ∀ d ∈ tables_1, d.before a0 Z = true) (ws : List Jvm.Cond) (p0 : Int32) (h0 : Heap) (n0 : Nat) (Z0 : n0 ≤ h0.size) :
    MetFree l (⟨"com/example/triplewright/triplewright/rdf/TextScannerIsPnCharsBasePinLaw", "ref", "(I)Z"⟩ : MethodName) (head1 (Jvm.Cond.code (⟨"com/example/triplewright/triplewright/rdf/TextScannerIsPnCharsBasePinLaw", "ref", "(I)Z"⟩ : MethodName) method_2_code 1 (some .boolean) :: ws) ({ frames := 0, cells := 0, slots := 0, locals := 0 } : Room)) (fun a U => a = #[(.int p0)] ∧ Z.Warmed39 U.vm ∧ U.heap = h0) (fun _ _ _ _ _ => True) (fun _ U o U' => ∃ v L, o = .returned v ∧ Q_rm2 Z p0 h0 n0 v U'.heap L ∧ FrameEnd U o U' L ({ frames := 0, cells := 0, slots := 0, locals := 0 } : Room).cells ({ frames := 0, cells := 0, slots := 0, locals := 0 } : Room).slots) := by
  refine MetFree.of_bodySF (plainFor_of_name pn_2) hisR ?_
  intro p e s m args below meth c s₁ Bd hml0 hP hK
  obtain ⟨rfl, hZ, hh⟩ := hP
  have hx := Bd.exec
  have hby := Bd.bytes
  have hml : c.maxLocals = 1 := hml0
  have hown : s.vm.findClass "com/example/triplewright/triplewright/rdf/TextScannerIsPnCharsBasePinLaw" = some m.cls := findClass_of_methodNamed Bd.named
  have hnm := (name_of_methodNamed Bd.named Bd.method).1
  have X0 : Stand p l e ({ frames := 0, cells := 0, slots := 0, locals := 0 } : Room) s m #[(.int p0)] below meth c s₁ [] 0 0 := Stand.of_body Bd
  have e0 : s₁.heap = h0 := by rw [← hh, Bd.state]; rfl
  have N0 := Fr.nil n0
  have pre0 : ∀ t, Steps p.tables e below (s₁.setTop (mkF m 0 #[.val (.int p0)] [])) t → Steps p.tables e below (s₁.setTop (entryFrame m #[(.int p0)] 1)) t := fun t k => castTop (ef_2 m p0) k
  obtain ⟨fs, hr, hrun, hended, hW, hsame⟩ := X0.leave (v := some (.int (F2_0 p0))) (fun h => by rw [Bd.returns] at h; cases h)
  refine ⟨_, _, pre0 _ ?_, hrun, hended, _, _, rfl, ⟨rfl, N0, e0⟩, ⟨_, rfl⟩, hW, hsame.mono (by decide) (by decide)⟩
  exact b2_0 X0 hx hZ hw hby hown p0 Bd.returns hr
theorem own_lt {v c : Int32} {z : Int} (hc : c.toInt = z) (h : v.toInt < z) : v < c := by rw [Int32.lt_iff_toInt_lt, hc]; exact h
theorem own_nlt {v c : Int32} {z : Int} (hc : c.toInt = z) (h : z ≤ v.toInt) : ¬ v < c := by rw [Int32.lt_iff_toInt_lt, hc]; omega
theorem own_gt {v c : Int32} {z : Int} (hc : c.toInt = z) (h : z < v.toInt) : c < v := by rw [Int32.lt_iff_toInt_lt, hc]; exact h
theorem own_ngt {v c : Int32} {z : Int} (hc : c.toInt = z) (h : v.toInt ≤ z) : ¬ c < v := by rw [Int32.lt_iff_toInt_lt, hc]; omega
theorem own_eq {v c : Int32} {z : Int} (hc : c.toInt = z) (h : v.toInt = z) : v = c := by rw [← Int32.toInt_inj, hc]; exact h
theorem own_neq {v c : Int32} {z : Int} (hc : c.toInt = z) (h : v.toInt ≠ z) : ¬ v = c := by rw [← Int32.toInt_inj, hc]; exact h
theorem own_same_0 (v : Int32) (h1 : -2147483648 ≤ v.toInt) (h2 : v.toInt ≤ 64) : (F1_0 v) = (0 : Int32) ∧ (F2_0 v) = (0 : Int32) := by
  refine ⟨?_, ?_⟩
  · rw [show (F1_0 v) = (F1_12 v) from if_pos (own_lt (z := 65) rfl (by omega))]
    rw [show (F1_12 v) = (F1_24 v) from if_pos (own_lt (z := 97) rfl (by omega))]
    rw [show (F1_24 v) = (F1_38 v) from if_pos (own_lt (z := 192) rfl (by omega))]
    rw [show (F1_38 v) = (F1_52 v) from if_pos (own_lt (z := 216) rfl (by omega))]
    rw [show (F1_52 v) = (F1_66 v) from if_pos (own_lt (z := 248) rfl (by omega))]
    rw [show (F1_66 v) = (F1_80 v) from if_pos (own_lt (z := 880) rfl (by omega))]
    rw [show (F1_80 v) = (F1_94 v) from if_pos (own_lt (z := 895) rfl (by omega))]
    rw [show (F1_94 v) = (F1_108 v) from if_pos (own_lt (z := 8204) rfl (by omega))]
    rw [show (F1_108 v) = (F1_122 v) from if_pos (own_lt (z := 8304) rfl (by omega))]
    rw [show (F1_122 v) = (F1_136 v) from if_pos (own_lt (z := 11264) rfl (by omega))]
    rw [show (F1_136 v) = (F1_150 v) from if_pos (own_lt (z := 12289) rfl (by omega))]
    rw [show (F1_150 v) = (F1_164 v) from if_pos (own_lt (z := 63744) rfl (by omega))]
    rw [show (F1_164 v) = (F1_178 v) from if_pos (own_lt (z := 65008) rfl (by omega))]
    rw [show (F1_178 v) = F1_196 from if_pos (own_lt (z := 65536) rfl (by omega))]
    rfl
  · rw [show (F2_0 v) = F2_12 from if_pos (own_lt (z := 65) rfl (by omega))]
    rfl
theorem own_same_1 (v : Int32) (h1 : 65 ≤ v.toInt) (h2 : v.toInt ≤ 90) : (F1_0 v) = (1 : Int32) ∧ (F2_0 v) = (1 : Int32) := by
  refine ⟨?_, ?_⟩
  · rw [show (F1_0 v) = (F1_6 v) from if_neg (own_nlt (z := 65) rfl (by omega))]
    rw [show (F1_6 v) = F1_192 from if_neg (own_ngt (z := 90) rfl (by omega))]
    rfl
  · rw [show (F2_0 v) = (F2_6 v) from if_neg (own_nlt (z := 65) rfl (by omega))]
    rw [show (F2_6 v) = (F2_14 v) from if_neg (own_ngt (z := 983039) rfl (by omega))]
    rw [show (F2_14 v) = (F2_28 v) from if_pos (own_lt (z := 91) rfl (by omega))]
    rw [show (F2_28 v) = (F2_43 v) from if_pos (own_lt (z := 123) rfl (by omega))]
    rw [show (F2_43 v) = (F2_50 v) from if_neg (own_neq (z := 215) rfl (by omega))]
    rw [show (F2_50 v) = (F2_59 v) from if_neg (own_neq (z := 247) rfl (by omega))]
    rw [show (F2_59 v) = (F2_75 v) from if_pos (own_lt (z := 768) rfl (by omega))]
    rw [show (F2_75 v) = (F2_84 v) from if_neg (own_neq (z := 894) rfl (by omega))]
    rw [show (F2_84 v) = (F2_100 v) from if_pos (own_lt (z := 8192) rfl (by omega))]
    rw [show (F2_100 v) = (F2_116 v) from if_pos (own_lt (z := 8206) rfl (by omega))]
    rw [show (F2_116 v) = (F2_132 v) from if_pos (own_lt (z := 8592) rfl (by omega))]
    rw [show (F2_132 v) = (F2_148 v) from if_pos (own_lt (z := 12272) rfl (by omega))]
    rw [show (F2_148 v) = (F2_162 v) from if_pos (own_lt (z := 55296) rfl (by omega))]
    rw [show (F2_162 v) = (F2_176 v) from if_pos (own_lt (z := 64976) rfl (by omega))]
    rw [show (F2_176 v) = F2_190 from if_pos (own_lt (z := 65534) rfl (by omega))]
    rfl
theorem own_same_2 (v : Int32) (h1 : 91 ≤ v.toInt) (h2 : v.toInt ≤ 96) : (F1_0 v) = (0 : Int32) ∧ (F2_0 v) = (0 : Int32) := by
  refine ⟨?_, ?_⟩
  · rw [show (F1_0 v) = (F1_6 v) from if_neg (own_nlt (z := 65) rfl (by omega))]
    rw [show (F1_6 v) = (F1_12 v) from if_pos (own_gt (z := 90) rfl (by omega))]
    rw [show (F1_12 v) = (F1_24 v) from if_pos (own_lt (z := 97) rfl (by omega))]
    rw [show (F1_24 v) = (F1_38 v) from if_pos (own_lt (z := 192) rfl (by omega))]
    rw [show (F1_38 v) = (F1_52 v) from if_pos (own_lt (z := 216) rfl (by omega))]
    rw [show (F1_52 v) = (F1_66 v) from if_pos (own_lt (z := 248) rfl (by omega))]
    rw [show (F1_66 v) = (F1_80 v) from if_pos (own_lt (z := 880) rfl (by omega))]
    rw [show (F1_80 v) = (F1_94 v) from if_pos (own_lt (z := 895) rfl (by omega))]
    rw [show (F1_94 v) = (F1_108 v) from if_pos (own_lt (z := 8204) rfl (by omega))]
    rw [show (F1_108 v) = (F1_122 v) from if_pos (own_lt (z := 8304) rfl (by omega))]
    rw [show (F1_122 v) = (F1_136 v) from if_pos (own_lt (z := 11264) rfl (by omega))]
    rw [show (F1_136 v) = (F1_150 v) from if_pos (own_lt (z := 12289) rfl (by omega))]
    rw [show (F1_150 v) = (F1_164 v) from if_pos (own_lt (z := 63744) rfl (by omega))]
    rw [show (F1_164 v) = (F1_178 v) from if_pos (own_lt (z := 65008) rfl (by omega))]
    rw [show (F1_178 v) = F1_196 from if_pos (own_lt (z := 65536) rfl (by omega))]
    rfl
  · rw [show (F2_0 v) = (F2_6 v) from if_neg (own_nlt (z := 65) rfl (by omega))]
    rw [show (F2_6 v) = (F2_14 v) from if_neg (own_ngt (z := 983039) rfl (by omega))]
    rw [show (F2_14 v) = (F2_20 v) from if_neg (own_nlt (z := 91) rfl (by omega))]
    rw [show (F2_20 v) = F2_26 from if_neg (own_ngt (z := 96) rfl (by omega))]
    rfl
theorem own_same_3 (v : Int32) (h1 : 97 ≤ v.toInt) (h2 : v.toInt ≤ 122) : (F1_0 v) = (1 : Int32) ∧ (F2_0 v) = (1 : Int32) := by
  refine ⟨?_, ?_⟩
  · rw [show (F1_0 v) = (F1_6 v) from if_neg (own_nlt (z := 65) rfl (by omega))]
    rw [show (F1_6 v) = (F1_12 v) from if_pos (own_gt (z := 90) rfl (by omega))]
    rw [show (F1_12 v) = (F1_18 v) from if_neg (own_nlt (z := 97) rfl (by omega))]
    rw [show (F1_18 v) = F1_192 from if_neg (own_ngt (z := 122) rfl (by omega))]
    rfl
  · rw [show (F2_0 v) = (F2_6 v) from if_neg (own_nlt (z := 65) rfl (by omega))]
    rw [show (F2_6 v) = (F2_14 v) from if_neg (own_ngt (z := 983039) rfl (by omega))]
    rw [show (F2_14 v) = (F2_20 v) from if_neg (own_nlt (z := 91) rfl (by omega))]
    rw [show (F2_20 v) = (F2_28 v) from if_pos (own_gt (z := 96) rfl (by omega))]
    rw [show (F2_28 v) = (F2_43 v) from if_pos (own_lt (z := 123) rfl (by omega))]
    rw [show (F2_43 v) = (F2_50 v) from if_neg (own_neq (z := 215) rfl (by omega))]
    rw [show (F2_50 v) = (F2_59 v) from if_neg (own_neq (z := 247) rfl (by omega))]
    rw [show (F2_59 v) = (F2_75 v) from if_pos (own_lt (z := 768) rfl (by omega))]
    rw [show (F2_75 v) = (F2_84 v) from if_neg (own_neq (z := 894) rfl (by omega))]
    rw [show (F2_84 v) = (F2_100 v) from if_pos (own_lt (z := 8192) rfl (by omega))]
    rw [show (F2_100 v) = (F2_116 v) from if_pos (own_lt (z := 8206) rfl (by omega))]
    rw [show (F2_116 v) = (F2_132 v) from if_pos (own_lt (z := 8592) rfl (by omega))]
    rw [show (F2_132 v) = (F2_148 v) from if_pos (own_lt (z := 12272) rfl (by omega))]
    rw [show (F2_148 v) = (F2_162 v) from if_pos (own_lt (z := 55296) rfl (by omega))]
    rw [show (F2_162 v) = (F2_176 v) from if_pos (own_lt (z := 64976) rfl (by omega))]
    rw [show (F2_176 v) = F2_190 from if_pos (own_lt (z := 65534) rfl (by omega))]
    rfl
theorem own_same_4 (v : Int32) (h1 : 123 ≤ v.toInt) (h2 : v.toInt ≤ 191) : (F1_0 v) = (0 : Int32) ∧ (F2_0 v) = (0 : Int32) := by
  refine ⟨?_, ?_⟩
  · rw [show (F1_0 v) = (F1_6 v) from if_neg (own_nlt (z := 65) rfl (by omega))]
    rw [show (F1_6 v) = (F1_12 v) from if_pos (own_gt (z := 90) rfl (by omega))]
    rw [show (F1_12 v) = (F1_18 v) from if_neg (own_nlt (z := 97) rfl (by omega))]
    rw [show (F1_18 v) = (F1_24 v) from if_pos (own_gt (z := 122) rfl (by omega))]
    rw [show (F1_24 v) = (F1_38 v) from if_pos (own_lt (z := 192) rfl (by omega))]
    rw [show (F1_38 v) = (F1_52 v) from if_pos (own_lt (z := 216) rfl (by omega))]
    rw [show (F1_52 v) = (F1_66 v) from if_pos (own_lt (z := 248) rfl (by omega))]
    rw [show (F1_66 v) = (F1_80 v) from if_pos (own_lt (z := 880) rfl (by omega))]
    rw [show (F1_80 v) = (F1_94 v) from if_pos (own_lt (z := 895) rfl (by omega))]
    rw [show (F1_94 v) = (F1_108 v) from if_pos (own_lt (z := 8204) rfl (by omega))]
    rw [show (F1_108 v) = (F1_122 v) from if_pos (own_lt (z := 8304) rfl (by omega))]
    rw [show (F1_122 v) = (F1_136 v) from if_pos (own_lt (z := 11264) rfl (by omega))]
    rw [show (F1_136 v) = (F1_150 v) from if_pos (own_lt (z := 12289) rfl (by omega))]
    rw [show (F1_150 v) = (F1_164 v) from if_pos (own_lt (z := 63744) rfl (by omega))]
    rw [show (F1_164 v) = (F1_178 v) from if_pos (own_lt (z := 65008) rfl (by omega))]
    rw [show (F1_178 v) = F1_196 from if_pos (own_lt (z := 65536) rfl (by omega))]
    rfl
  · rw [show (F2_0 v) = (F2_6 v) from if_neg (own_nlt (z := 65) rfl (by omega))]
    rw [show (F2_6 v) = (F2_14 v) from if_neg (own_ngt (z := 983039) rfl (by omega))]
    rw [show (F2_14 v) = (F2_20 v) from if_neg (own_nlt (z := 91) rfl (by omega))]
    rw [show (F2_20 v) = (F2_28 v) from if_pos (own_gt (z := 96) rfl (by omega))]
    rw [show (F2_28 v) = (F2_34 v) from if_neg (own_nlt (z := 123) rfl (by omega))]
    rw [show (F2_34 v) = F2_41 from if_neg (own_ngt (z := 191) rfl (by omega))]
    rfl
theorem own_same_5 (v : Int32) (h1 : 192 ≤ v.toInt) (h2 : v.toInt ≤ 214) : (F1_0 v) = (1 : Int32) ∧ (F2_0 v) = (1 : Int32) := by
  refine ⟨?_, ?_⟩
  · rw [show (F1_0 v) = (F1_6 v) from if_neg (own_nlt (z := 65) rfl (by omega))]
    rw [show (F1_6 v) = (F1_12 v) from if_pos (own_gt (z := 90) rfl (by omega))]
    rw [show (F1_12 v) = (F1_18 v) from if_neg (own_nlt (z := 97) rfl (by omega))]
    rw [show (F1_18 v) = (F1_24 v) from if_pos (own_gt (z := 122) rfl (by omega))]
    rw [show (F1_24 v) = (F1_31 v) from if_neg (own_nlt (z := 192) rfl (by omega))]
    rw [show (F1_31 v) = F1_192 from if_neg (own_ngt (z := 214) rfl (by omega))]
    rfl
  · rw [show (F2_0 v) = (F2_6 v) from if_neg (own_nlt (z := 65) rfl (by omega))]
    rw [show (F2_6 v) = (F2_14 v) from if_neg (own_ngt (z := 983039) rfl (by omega))]
    rw [show (F2_14 v) = (F2_20 v) from if_neg (own_nlt (z := 91) rfl (by omega))]
    rw [show (F2_20 v) = (F2_28 v) from if_pos (own_gt (z := 96) rfl (by omega))]
    rw [show (F2_28 v) = (F2_34 v) from if_neg (own_nlt (z := 123) rfl (by omega))]
    rw [show (F2_34 v) = (F2_43 v) from if_pos (own_gt (z := 191) rfl (by omega))]
    rw [show (F2_43 v) = (F2_50 v) from if_neg (own_neq (z := 215) rfl (by omega))]
    rw [show (F2_50 v) = (F2_59 v) from if_neg (own_neq (z := 247) rfl (by omega))]
    rw [show (F2_59 v) = (F2_75 v) from if_pos (own_lt (z := 768) rfl (by omega))]
    rw [show (F2_75 v) = (F2_84 v) from if_neg (own_neq (z := 894) rfl (by omega))]
    rw [show (F2_84 v) = (F2_100 v) from if_pos (own_lt (z := 8192) rfl (by omega))]
    rw [show (F2_100 v) = (F2_116 v) from if_pos (own_lt (z := 8206) rfl (by omega))]
    rw [show (F2_116 v) = (F2_132 v) from if_pos (own_lt (z := 8592) rfl (by omega))]
    rw [show (F2_132 v) = (F2_148 v) from if_pos (own_lt (z := 12272) rfl (by omega))]
    rw [show (F2_148 v) = (F2_162 v) from if_pos (own_lt (z := 55296) rfl (by omega))]
    rw [show (F2_162 v) = (F2_176 v) from if_pos (own_lt (z := 64976) rfl (by omega))]
    rw [show (F2_176 v) = F2_190 from if_pos (own_lt (z := 65534) rfl (by omega))]
    rfl
theorem own_same_6 (v : Int32) (h1 : 215 ≤ v.toInt) (h2 : v.toInt ≤ 215) : (F1_0 v) = (0 : Int32) ∧ (F2_0 v) = (0 : Int32) := by
  refine ⟨?_, ?_⟩
  · rw [show (F1_0 v) = (F1_6 v) from if_neg (own_nlt (z := 65) rfl (by omega))]
    rw [show (F1_6 v) = (F1_12 v) from if_pos (own_gt (z := 90) rfl (by omega))]
    rw [show (F1_12 v) = (F1_18 v) from if_neg (own_nlt (z := 97) rfl (by omega))]
    rw [show (F1_18 v) = (F1_24 v) from if_pos (own_gt (z := 122) rfl (by omega))]
    rw [show (F1_24 v) = (F1_31 v) from if_neg (own_nlt (z := 192) rfl (by omega))]
    rw [show (F1_31 v) = (F1_38 v) from if_pos (own_gt (z := 214) rfl (by omega))]
    rw [show (F1_38 v) = (F1_52 v) from if_pos (own_lt (z := 216) rfl (by omega))]
    rw [show (F1_52 v) = (F1_66 v) from if_pos (own_lt (z := 248) rfl (by omega))]
    rw [show (F1_66 v) = (F1_80 v) from if_pos (own_lt (z := 880) rfl (by omega))]
    rw [show (F1_80 v) = (F1_94 v) from if_pos (own_lt (z := 895) rfl (by omega))]
    rw [show (F1_94 v) = (F1_108 v) from if_pos (own_lt (z := 8204) rfl (by omega))]
    rw [show (F1_108 v) = (F1_122 v) from if_pos (own_lt (z := 8304) rfl (by omega))]
    rw [show (F1_122 v) = (F1_136 v) from if_pos (own_lt (z := 11264) rfl (by omega))]
    rw [show (F1_136 v) = (F1_150 v) from if_pos (own_lt (z := 12289) rfl (by omega))]
    rw [show (F1_150 v) = (F1_164 v) from if_pos (own_lt (z := 63744) rfl (by omega))]
    rw [show (F1_164 v) = (F1_178 v) from if_pos (own_lt (z := 65008) rfl (by omega))]
    rw [show (F1_178 v) = F1_196 from if_pos (own_lt (z := 65536) rfl (by omega))]
    rfl
  · rw [show (F2_0 v) = (F2_6 v) from if_neg (own_nlt (z := 65) rfl (by omega))]
    rw [show (F2_6 v) = (F2_14 v) from if_neg (own_ngt (z := 983039) rfl (by omega))]
    rw [show (F2_14 v) = (F2_20 v) from if_neg (own_nlt (z := 91) rfl (by omega))]
    rw [show (F2_20 v) = (F2_28 v) from if_pos (own_gt (z := 96) rfl (by omega))]
    rw [show (F2_28 v) = (F2_34 v) from if_neg (own_nlt (z := 123) rfl (by omega))]
    rw [show (F2_34 v) = (F2_43 v) from if_pos (own_gt (z := 191) rfl (by omega))]
    rw [show (F2_43 v) = F2_57 from if_pos (own_eq (z := 215) rfl (by omega))]
    rfl
theorem own_same_7 (v : Int32) (h1 : 216 ≤ v.toInt) (h2 : v.toInt ≤ 246) : (F1_0 v) = (1 : Int32) ∧ (F2_0 v) = (1 : Int32) := by
  refine ⟨?_, ?_⟩
  · rw [show (F1_0 v) = (F1_6 v) from if_neg (own_nlt (z := 65) rfl (by omega))]
    rw [show (F1_6 v) = (F1_12 v) from if_pos (own_gt (z := 90) rfl (by omega))]
    rw [show (F1_12 v) = (F1_18 v) from if_neg (own_nlt (z := 97) rfl (by omega))]
    rw [show (F1_18 v) = (F1_24 v) from if_pos (own_gt (z := 122) rfl (by omega))]
    rw [show (F1_24 v) = (F1_31 v) from if_neg (own_nlt (z := 192) rfl (by omega))]
    rw [show (F1_31 v) = (F1_38 v) from if_pos (own_gt (z := 214) rfl (by omega))]
    rw [show (F1_38 v) = (F1_45 v) from if_neg (own_nlt (z := 216) rfl (by omega))]
    rw [show (F1_45 v) = F1_192 from if_neg (own_ngt (z := 246) rfl (by omega))]
    rfl
  · rw [show (F2_0 v) = (F2_6 v) from if_neg (own_nlt (z := 65) rfl (by omega))]
    rw [show (F2_6 v) = (F2_14 v) from if_neg (own_ngt (z := 983039) rfl (by omega))]
    rw [show (F2_14 v) = (F2_20 v) from if_neg (own_nlt (z := 91) rfl (by omega))]
    rw [show (F2_20 v) = (F2_28 v) from if_pos (own_gt (z := 96) rfl (by omega))]
    rw [show (F2_28 v) = (F2_34 v) from if_neg (own_nlt (z := 123) rfl (by omega))]
    rw [show (F2_34 v) = (F2_43 v) from if_pos (own_gt (z := 191) rfl (by omega))]
    rw [show (F2_43 v) = (F2_50 v) from if_neg (own_neq (z := 215) rfl (by omega))]
    rw [show (F2_50 v) = (F2_59 v) from if_neg (own_neq (z := 247) rfl (by omega))]
    rw [show (F2_59 v) = (F2_75 v) from if_pos (own_lt (z := 768) rfl (by omega))]
    rw [show (F2_75 v) = (F2_84 v) from if_neg (own_neq (z := 894) rfl (by omega))]
    rw [show (F2_84 v) = (F2_100 v) from if_pos (own_lt (z := 8192) rfl (by omega))]
    rw [show (F2_100 v) = (F2_116 v) from if_pos (own_lt (z := 8206) rfl (by omega))]
    rw [show (F2_116 v) = (F2_132 v) from if_pos (own_lt (z := 8592) rfl (by omega))]
    rw [show (F2_132 v) = (F2_148 v) from if_pos (own_lt (z := 12272) rfl (by omega))]
    rw [show (F2_148 v) = (F2_162 v) from if_pos (own_lt (z := 55296) rfl (by omega))]
    rw [show (F2_162 v) = (F2_176 v) from if_pos (own_lt (z := 64976) rfl (by omega))]
    rw [show (F2_176 v) = F2_190 from if_pos (own_lt (z := 65534) rfl (by omega))]
    rfl
theorem own_same_8 (v : Int32) (h1 : 247 ≤ v.toInt) (h2 : v.toInt ≤ 247) : (F1_0 v) = (0 : Int32) ∧ (F2_0 v) = (0 : Int32) := by
  refine ⟨?_, ?_⟩
  · rw [show (F1_0 v) = (F1_6 v) from if_neg (own_nlt (z := 65) rfl (by omega))]
    rw [show (F1_6 v) = (F1_12 v) from if_pos (own_gt (z := 90) rfl (by omega))]
    rw [show (F1_12 v) = (F1_18 v) from if_neg (own_nlt (z := 97) rfl (by omega))]
    rw [show (F1_18 v) = (F1_24 v) from if_pos (own_gt (z := 122) rfl (by omega))]
    rw [show (F1_24 v) = (F1_31 v) from if_neg (own_nlt (z := 192) rfl (by omega))]
    rw [show (F1_31 v) = (F1_38 v) from if_pos (own_gt (z := 214) rfl (by omega))]
    rw [show (F1_38 v) = (F1_45 v) from if_neg (own_nlt (z := 216) rfl (by omega))]
    rw [show (F1_45 v) = (F1_52 v) from if_pos (own_gt (z := 246) rfl (by omega))]
    rw [show (F1_52 v) = (F1_66 v) from if_pos (own_lt (z := 248) rfl (by omega))]
    rw [show (F1_66 v) = (F1_80 v) from if_pos (own_lt (z := 880) rfl (by omega))]
    rw [show (F1_80 v) = (F1_94 v) from if_pos (own_lt (z := 895) rfl (by omega))]
    rw [show (F1_94 v) = (F1_108 v) from if_pos (own_lt (z := 8204) rfl (by omega))]
    rw [show (F1_108 v) = (F1_122 v) from if_pos (own_lt (z := 8304) rfl (by omega))]
    rw [show (F1_122 v) = (F1_136 v) from if_pos (own_lt (z := 11264) rfl (by omega))]
    rw [show (F1_136 v) = (F1_150 v) from if_pos (own_lt (z := 12289) rfl (by omega))]
    rw [show (F1_150 v) = (F1_164 v) from if_pos (own_lt (z := 63744) rfl (by omega))]
    rw [show (F1_164 v) = (F1_178 v) from if_pos (own_lt (z := 65008) rfl (by omega))]
    rw [show (F1_178 v) = F1_196 from if_pos (own_lt (z := 65536) rfl (by omega))]
    rfl
  · rw [show (F2_0 v) = (F2_6 v) from if_neg (own_nlt (z := 65) rfl (by omega))]
    rw [show (F2_6 v) = (F2_14 v) from if_neg (own_ngt (z := 983039) rfl (by omega))]
    rw [show (F2_14 v) = (F2_20 v) from if_neg (own_nlt (z := 91) rfl (by omega))]
    rw [show (F2_20 v) = (F2_28 v) from if_pos (own_gt (z := 96) rfl (by omega))]
    rw [show (F2_28 v) = (F2_34 v) from if_neg (own_nlt (z := 123) rfl (by omega))]
    rw [show (F2_34 v) = (F2_43 v) from if_pos (own_gt (z := 191) rfl (by omega))]
    rw [show (F2_43 v) = (F2_50 v) from if_neg (own_neq (z := 215) rfl (by omega))]
    rw [show (F2_50 v) = F2_57 from if_pos (own_eq (z := 247) rfl (by omega))]
    rfl
theorem own_same_9 (v : Int32) (h1 : 248 ≤ v.toInt) (h2 : v.toInt ≤ 767) : (F1_0 v) = (1 : Int32) ∧ (F2_0 v) = (1 : Int32) := by
  refine ⟨?_, ?_⟩
  · rw [show (F1_0 v) = (F1_6 v) from if_neg (own_nlt (z := 65) rfl (by omega))]
    rw [show (F1_6 v) = (F1_12 v) from if_pos (own_gt (z := 90) rfl (by omega))]
    rw [show (F1_12 v) = (F1_18 v) from if_neg (own_nlt (z := 97) rfl (by omega))]
    rw [show (F1_18 v) = (F1_24 v) from if_pos (own_gt (z := 122) rfl (by omega))]
    rw [show (F1_24 v) = (F1_31 v) from if_neg (own_nlt (z := 192) rfl (by omega))]
    rw [show (F1_31 v) = (F1_38 v) from if_pos (own_gt (z := 214) rfl (by omega))]
    rw [show (F1_38 v) = (F1_45 v) from if_neg (own_nlt (z := 216) rfl (by omega))]
    rw [show (F1_45 v) = (F1_52 v) from if_pos (own_gt (z := 246) rfl (by omega))]
    rw [show (F1_52 v) = (F1_59 v) from if_neg (own_nlt (z := 248) rfl (by omega))]
    rw [show (F1_59 v) = F1_192 from if_neg (own_ngt (z := 767) rfl (by omega))]
    rfl
  · rw [show (F2_0 v) = (F2_6 v) from if_neg (own_nlt (z := 65) rfl (by omega))]
    rw [show (F2_6 v) = (F2_14 v) from if_neg (own_ngt (z := 983039) rfl (by omega))]
    rw [show (F2_14 v) = (F2_20 v) from if_neg (own_nlt (z := 91) rfl (by omega))]
    rw [show (F2_20 v) = (F2_28 v) from if_pos (own_gt (z := 96) rfl (by omega))]
    rw [show (F2_28 v) = (F2_34 v) from if_neg (own_nlt (z := 123) rfl (by omega))]
    rw [show (F2_34 v) = (F2_43 v) from if_pos (own_gt (z := 191) rfl (by omega))]
    rw [show (F2_43 v) = (F2_50 v) from if_neg (own_neq (z := 215) rfl (by omega))]
    rw [show (F2_50 v) = (F2_59 v) from if_neg (own_neq (z := 247) rfl (by omega))]
    rw [show (F2_59 v) = (F2_75 v) from if_pos (own_lt (z := 768) rfl (by omega))]
    rw [show (F2_75 v) = (F2_84 v) from if_neg (own_neq (z := 894) rfl (by omega))]
    rw [show (F2_84 v) = (F2_100 v) from if_pos (own_lt (z := 8192) rfl (by omega))]
    rw [show (F2_100 v) = (F2_116 v) from if_pos (own_lt (z := 8206) rfl (by omega))]
    rw [show (F2_116 v) = (F2_132 v) from if_pos (own_lt (z := 8592) rfl (by omega))]
    rw [show (F2_132 v) = (F2_148 v) from if_pos (own_lt (z := 12272) rfl (by omega))]
    rw [show (F2_148 v) = (F2_162 v) from if_pos (own_lt (z := 55296) rfl (by omega))]
    rw [show (F2_162 v) = (F2_176 v) from if_pos (own_lt (z := 64976) rfl (by omega))]
    rw [show (F2_176 v) = F2_190 from if_pos (own_lt (z := 65534) rfl (by omega))]
    rfl
theorem own_same_10 (v : Int32) (h1 : 768 ≤ v.toInt) (h2 : v.toInt ≤ 879) : (F1_0 v) = (0 : Int32) ∧ (F2_0 v) = (0 : Int32) := by
  refine ⟨?_, ?_⟩
  · rw [show (F1_0 v) = (F1_6 v) from if_neg (own_nlt (z := 65) rfl (by omega))]
    rw [show (F1_6 v) = (F1_12 v) from if_pos (own_gt (z := 90) rfl (by omega))]
    rw [show (F1_12 v) = (F1_18 v) from if_neg (own_nlt (z := 97) rfl (by omega))]
    rw [show (F1_18 v) = (F1_24 v) from if_pos (own_gt (z := 122) rfl (by omega))]
    rw [show (F1_24 v) = (F1_31 v) from if_neg (own_nlt (z := 192) rfl (by omega))]
    rw [show (F1_31 v) = (F1_38 v) from if_pos (own_gt (z := 214) rfl (by omega))]
    rw [show (F1_38 v) = (F1_45 v) from if_neg (own_nlt (z := 216) rfl (by omega))]
    rw [show (F1_45 v) = (F1_52 v) from if_pos (own_gt (z := 246) rfl (by omega))]
    rw [show (F1_52 v) = (F1_59 v) from if_neg (own_nlt (z := 248) rfl (by omega))]
    rw [show (F1_59 v) = (F1_66 v) from if_pos (own_gt (z := 767) rfl (by omega))]
    rw [show (F1_66 v) = (F1_80 v) from if_pos (own_lt (z := 880) rfl (by omega))]
    rw [show (F1_80 v) = (F1_94 v) from if_pos (own_lt (z := 895) rfl (by omega))]
    rw [show (F1_94 v) = (F1_108 v) from if_pos (own_lt (z := 8204) rfl (by omega))]
    rw [show (F1_108 v) = (F1_122 v) from if_pos (own_lt (z := 8304) rfl (by omega))]
    rw [show (F1_122 v) = (F1_136 v) from if_pos (own_lt (z := 11264) rfl (by omega))]
    rw [show (F1_136 v) = (F1_150 v) from if_pos (own_lt (z := 12289) rfl (by omega))]
    rw [show (F1_150 v) = (F1_164 v) from if_pos (own_lt (z := 63744) rfl (by omega))]
    rw [show (F1_164 v) = (F1_178 v) from if_pos (own_lt (z := 65008) rfl (by omega))]
    rw [show (F1_178 v) = F1_196 from if_pos (own_lt (z := 65536) rfl (by omega))]
    rfl
  · rw [show (F2_0 v) = (F2_6 v) from if_neg (own_nlt (z := 65) rfl (by omega))]
    rw [show (F2_6 v) = (F2_14 v) from if_neg (own_ngt (z := 983039) rfl (by omega))]
    rw [show (F2_14 v) = (F2_20 v) from if_neg (own_nlt (z := 91) rfl (by omega))]
    rw [show (F2_20 v) = (F2_28 v) from if_pos (own_gt (z := 96) rfl (by omega))]
    rw [show (F2_28 v) = (F2_34 v) from if_neg (own_nlt (z := 123) rfl (by omega))]
    rw [show (F2_34 v) = (F2_43 v) from if_pos (own_gt (z := 191) rfl (by omega))]
    rw [show (F2_43 v) = (F2_50 v) from if_neg (own_neq (z := 215) rfl (by omega))]
    rw [show (F2_50 v) = (F2_59 v) from if_neg (own_neq (z := 247) rfl (by omega))]
    rw [show (F2_59 v) = (F2_66 v) from if_neg (own_nlt (z := 768) rfl (by omega))]
    rw [show (F2_66 v) = F2_73 from if_neg (own_ngt (z := 879) rfl (by omega))]
    rfl
theorem own_same_11 (v : Int32) (h1 : 880 ≤ v.toInt) (h2 : v.toInt ≤ 893) : (F1_0 v) = (1 : Int32) ∧ (F2_0 v) = (1 : Int32) := by
  refine ⟨?_, ?_⟩
  · rw [show (F1_0 v) = (F1_6 v) from if_neg (own_nlt (z := 65) rfl (by omega))]
    rw [show (F1_6 v) = (F1_12 v) from if_pos (own_gt (z := 90) rfl (by omega))]
    rw [show (F1_12 v) = (F1_18 v) from if_neg (own_nlt (z := 97) rfl (by omega))]
    rw [show (F1_18 v) = (F1_24 v) from if_pos (own_gt (z := 122) rfl (by omega))]
    rw [show (F1_24 v) = (F1_31 v) from if_neg (own_nlt (z := 192) rfl (by omega))]
    rw [show (F1_31 v) = (F1_38 v) from if_pos (own_gt (z := 214) rfl (by omega))]
    rw [show (F1_38 v) = (F1_45 v) from if_neg (own_nlt (z := 216) rfl (by omega))]
    rw [show (F1_45 v) = (F1_52 v) from if_pos (own_gt (z := 246) rfl (by omega))]
    rw [show (F1_52 v) = (F1_59 v) from if_neg (own_nlt (z := 248) rfl (by omega))]
    rw [show (F1_59 v) = (F1_66 v) from if_pos (own_gt (z := 767) rfl (by omega))]
    rw [show (F1_66 v) = (F1_73 v) from if_neg (own_nlt (z := 880) rfl (by omega))]
    rw [show (F1_73 v) = F1_192 from if_neg (own_ngt (z := 893) rfl (by omega))]
    rfl
  · rw [show (F2_0 v) = (F2_6 v) from if_neg (own_nlt (z := 65) rfl (by omega))]
    rw [show (F2_6 v) = (F2_14 v) from if_neg (own_ngt (z := 983039) rfl (by omega))]
    rw [show (F2_14 v) = (F2_20 v) from if_neg (own_nlt (z := 91) rfl (by omega))]
    rw [show (F2_20 v) = (F2_28 v) from if_pos (own_gt (z := 96) rfl (by omega))]
    rw [show (F2_28 v) = (F2_34 v) from if_neg (own_nlt (z := 123) rfl (by omega))]
    rw [show (F2_34 v) = (F2_43 v) from if_pos (own_gt (z := 191) rfl (by omega))]
    rw [show (F2_43 v) = (F2_50 v) from if_neg (own_neq (z := 215) rfl (by omega))]
    rw [show (F2_50 v) = (F2_59 v) from if_neg (own_neq (z := 247) rfl (by omega))]
    rw [show (F2_59 v) = (F2_66 v) from if_neg (own_nlt (z := 768) rfl (by omega))]
    rw [show (F2_66 v) = (F2_75 v) from if_pos (own_gt (z := 879) rfl (by omega))]
    rw [show (F2_75 v) = (F2_84 v) from if_neg (own_neq (z := 894) rfl (by omega))]
    rw [show (F2_84 v) = (F2_100 v) from if_pos (own_lt (z := 8192) rfl (by omega))]
    rw [show (F2_100 v) = (F2_116 v) from if_pos (own_lt (z := 8206) rfl (by omega))]
    rw [show (F2_116 v) = (F2_132 v) from if_pos (own_lt (z := 8592) rfl (by omega))]
    rw [show (F2_132 v) = (F2_148 v) from if_pos (own_lt (z := 12272) rfl (by omega))]
    rw [show (F2_148 v) = (F2_162 v) from if_pos (own_lt (z := 55296) rfl (by omega))]
    rw [show (F2_162 v) = (F2_176 v) from if_pos (own_lt (z := 64976) rfl (by omega))]
    rw [show (F2_176 v) = F2_190 from if_pos (own_lt (z := 65534) rfl (by omega))]
    rfl
theorem own_same_12 (v : Int32) (h1 : 894 ≤ v.toInt) (h2 : v.toInt ≤ 894) : (F1_0 v) = (0 : Int32) ∧ (F2_0 v) = (0 : Int32) := by
  refine ⟨?_, ?_⟩
  · rw [show (F1_0 v) = (F1_6 v) from if_neg (own_nlt (z := 65) rfl (by omega))]
    rw [show (F1_6 v) = (F1_12 v) from if_pos (own_gt (z := 90) rfl (by omega))]
    rw [show (F1_12 v) = (F1_18 v) from if_neg (own_nlt (z := 97) rfl (by omega))]
    rw [show (F1_18 v) = (F1_24 v) from if_pos (own_gt (z := 122) rfl (by omega))]
    rw [show (F1_24 v) = (F1_31 v) from if_neg (own_nlt (z := 192) rfl (by omega))]
    rw [show (F1_31 v) = (F1_38 v) from if_pos (own_gt (z := 214) rfl (by omega))]
    rw [show (F1_38 v) = (F1_45 v) from if_neg (own_nlt (z := 216) rfl (by omega))]
    rw [show (F1_45 v) = (F1_52 v) from if_pos (own_gt (z := 246) rfl (by omega))]
    rw [show (F1_52 v) = (F1_59 v) from if_neg (own_nlt (z := 248) rfl (by omega))]
    rw [show (F1_59 v) = (F1_66 v) from if_pos (own_gt (z := 767) rfl (by omega))]
    rw [show (F1_66 v) = (F1_73 v) from if_neg (own_nlt (z := 880) rfl (by omega))]
    rw [show (F1_73 v) = (F1_80 v) from if_pos (own_gt (z := 893) rfl (by omega))]
    rw [show (F1_80 v) = (F1_94 v) from if_pos (own_lt (z := 895) rfl (by omega))]
    rw [show (F1_94 v) = (F1_108 v) from if_pos (own_lt (z := 8204) rfl (by omega))]
    rw [show (F1_108 v) = (F1_122 v) from if_pos (own_lt (z := 8304) rfl (by omega))]
    rw [show (F1_122 v) = (F1_136 v) from if_pos (own_lt (z := 11264) rfl (by omega))]
    rw [show (F1_136 v) = (F1_150 v) from if_pos (own_lt (z := 12289) rfl (by omega))]
    rw [show (F1_150 v) = (F1_164 v) from if_pos (own_lt (z := 63744) rfl (by omega))]
    rw [show (F1_164 v) = (F1_178 v) from if_pos (own_lt (z := 65008) rfl (by omega))]
    rw [show (F1_178 v) = F1_196 from if_pos (own_lt (z := 65536) rfl (by omega))]
    rfl
  · rw [show (F2_0 v) = (F2_6 v) from if_neg (own_nlt (z := 65) rfl (by omega))]
    rw [show (F2_6 v) = (F2_14 v) from if_neg (own_ngt (z := 983039) rfl (by omega))]
    rw [show (F2_14 v) = (F2_20 v) from if_neg (own_nlt (z := 91) rfl (by omega))]
    rw [show (F2_20 v) = (F2_28 v) from if_pos (own_gt (z := 96) rfl (by omega))]
    rw [show (F2_28 v) = (F2_34 v) from if_neg (own_nlt (z := 123) rfl (by omega))]
    rw [show (F2_34 v) = (F2_43 v) from if_pos (own_gt (z := 191) rfl (by omega))]
    rw [show (F2_43 v) = (F2_50 v) from if_neg (own_neq (z := 215) rfl (by omega))]
    rw [show (F2_50 v) = (F2_59 v) from if_neg (own_neq (z := 247) rfl (by omega))]
    rw [show (F2_59 v) = (F2_66 v) from if_neg (own_nlt (z := 768) rfl (by omega))]
    rw [show (F2_66 v) = (F2_75 v) from if_pos (own_gt (z := 879) rfl (by omega))]
    rw [show (F2_75 v) = F2_82 from if_pos (own_eq (z := 894) rfl (by omega))]
    rfl
theorem own_same_13 (v : Int32) (h1 : 895 ≤ v.toInt) (h2 : v.toInt ≤ 8191) : (F1_0 v) = (1 : Int32) ∧ (F2_0 v) = (1 : Int32) := by
  refine ⟨?_, ?_⟩
  · rw [show (F1_0 v) = (F1_6 v) from if_neg (own_nlt (z := 65) rfl (by omega))]
    rw [show (F1_6 v) = (F1_12 v) from if_pos (own_gt (z := 90) rfl (by omega))]
    rw [show (F1_12 v) = (F1_18 v) from if_neg (own_nlt (z := 97) rfl (by omega))]
    rw [show (F1_18 v) = (F1_24 v) from if_pos (own_gt (z := 122) rfl (by omega))]
    rw [show (F1_24 v) = (F1_31 v) from if_neg (own_nlt (z := 192) rfl (by omega))]
    rw [show (F1_31 v) = (F1_38 v) from if_pos (own_gt (z := 214) rfl (by omega))]
    rw [show (F1_38 v) = (F1_45 v) from if_neg (own_nlt (z := 216) rfl (by omega))]
    rw [show (F1_45 v) = (F1_52 v) from if_pos (own_gt (z := 246) rfl (by omega))]
    rw [show (F1_52 v) = (F1_59 v) from if_neg (own_nlt (z := 248) rfl (by omega))]
    rw [show (F1_59 v) = (F1_66 v) from if_pos (own_gt (z := 767) rfl (by omega))]
    rw [show (F1_66 v) = (F1_73 v) from if_neg (own_nlt (z := 880) rfl (by omega))]
    rw [show (F1_73 v) = (F1_80 v) from if_pos (own_gt (z := 893) rfl (by omega))]
    rw [show (F1_80 v) = (F1_87 v) from if_neg (own_nlt (z := 895) rfl (by omega))]
    rw [show (F1_87 v) = F1_192 from if_neg (own_ngt (z := 8191) rfl (by omega))]
    rfl
  · rw [show (F2_0 v) = (F2_6 v) from if_neg (own_nlt (z := 65) rfl (by omega))]
    rw [show (F2_6 v) = (F2_14 v) from if_neg (own_ngt (z := 983039) rfl (by omega))]
    rw [show (F2_14 v) = (F2_20 v) from if_neg (own_nlt (z := 91) rfl (by omega))]
    rw [show (F2_20 v) = (F2_28 v) from if_pos (own_gt (z := 96) rfl (by omega))]
    rw [show (F2_28 v) = (F2_34 v) from if_neg (own_nlt (z := 123) rfl (by omega))]
    rw [show (F2_34 v) = (F2_43 v) from if_pos (own_gt (z := 191) rfl (by omega))]
    rw [show (F2_43 v) = (F2_50 v) from if_neg (own_neq (z := 215) rfl (by omega))]
    rw [show (F2_50 v) = (F2_59 v) from if_neg (own_neq (z := 247) rfl (by omega))]
    rw [show (F2_59 v) = (F2_66 v) from if_neg (own_nlt (z := 768) rfl (by omega))]
    rw [show (F2_66 v) = (F2_75 v) from if_pos (own_gt (z := 879) rfl (by omega))]
    rw [show (F2_75 v) = (F2_84 v) from if_neg (own_neq (z := 894) rfl (by omega))]
    rw [show (F2_84 v) = (F2_100 v) from if_pos (own_lt (z := 8192) rfl (by omega))]
    rw [show (F2_100 v) = (F2_116 v) from if_pos (own_lt (z := 8206) rfl (by omega))]
    rw [show (F2_116 v) = (F2_132 v) from if_pos (own_lt (z := 8592) rfl (by omega))]
    rw [show (F2_132 v) = (F2_148 v) from if_pos (own_lt (z := 12272) rfl (by omega))]
    rw [show (F2_148 v) = (F2_162 v) from if_pos (own_lt (z := 55296) rfl (by omega))]
    rw [show (F2_162 v) = (F2_176 v) from if_pos (own_lt (z := 64976) rfl (by omega))]
    rw [show (F2_176 v) = F2_190 from if_pos (own_lt (z := 65534) rfl (by omega))]
    rfl
theorem own_same_14 (v : Int32) (h1 : 8192 ≤ v.toInt) (h2 : v.toInt ≤ 8203) : (F1_0 v) = (0 : Int32) ∧ (F2_0 v) = (0 : Int32) := by
  refine ⟨?_, ?_⟩
  · rw [show (F1_0 v) = (F1_6 v) from if_neg (own_nlt (z := 65) rfl (by omega))]
    rw [show (F1_6 v) = (F1_12 v) from if_pos (own_gt (z := 90) rfl (by omega))]
    rw [show (F1_12 v) = (F1_18 v) from if_neg (own_nlt (z := 97) rfl (by omega))]
    rw [show (F1_18 v) = (F1_24 v) from if_pos (own_gt (z := 122) rfl (by omega))]
    rw [show (F1_24 v) = (F1_31 v) from if_neg (own_nlt (z := 192) rfl (by omega))]
    rw [show (F1_31 v) = (F1_38 v) from if_pos (own_gt (z := 214) rfl (by omega))]
    rw [show (F1_38 v) = (F1_45 v) from if_neg (own_nlt (z := 216) rfl (by omega))]
    rw [show (F1_45 v) = (F1_52 v) from if_pos (own_gt (z := 246) rfl (by omega))]
    rw [show (F1_52 v) = (F1_59 v) from if_neg (own_nlt (z := 248) rfl (by omega))]
    rw [show (F1_59 v) = (F1_66 v) from if_pos (own_gt (z := 767) rfl (by omega))]
    rw [show (F1_66 v) = (F1_73 v) from if_neg (own_nlt (z := 880) rfl (by omega))]
    rw [show (F1_73 v) = (F1_80 v) from if_pos (own_gt (z := 893) rfl (by omega))]
    rw [show (F1_80 v) = (F1_87 v) from if_neg (own_nlt (z := 895) rfl (by omega))]
    rw [show (F1_87 v) = (F1_94 v) from if_pos (own_gt (z := 8191) rfl (by omega))]
    rw [show (F1_94 v) = (F1_108 v) from if_pos (own_lt (z := 8204) rfl (by omega))]
    rw [show (F1_108 v) = (F1_122 v) from if_pos (own_lt (z := 8304) rfl (by omega))]
    rw [show (F1_122 v) = (F1_136 v) from if_pos (own_lt (z := 11264) rfl (by omega))]
    rw [show (F1_136 v) = (F1_150 v) from if_pos (own_lt (z := 12289) rfl (by omega))]
    rw [show (F1_150 v) = (F1_164 v) from if_pos (own_lt (z := 63744) rfl (by omega))]
    rw [show (F1_164 v) = (F1_178 v) from if_pos (own_lt (z := 65008) rfl (by omega))]
    rw [show (F1_178 v) = F1_196 from if_pos (own_lt (z := 65536) rfl (by omega))]
    rfl
  · rw [show (F2_0 v) = (F2_6 v) from if_neg (own_nlt (z := 65) rfl (by omega))]
    rw [show (F2_6 v) = (F2_14 v) from if_neg (own_ngt (z := 983039) rfl (by omega))]
    rw [show (F2_14 v) = (F2_20 v) from if_neg (own_nlt (z := 91) rfl (by omega))]
    rw [show (F2_20 v) = (F2_28 v) from if_pos (own_gt (z := 96) rfl (by omega))]
    rw [show (F2_28 v) = (F2_34 v) from if_neg (own_nlt (z := 123) rfl (by omega))]
    rw [show (F2_34 v) = (F2_43 v) from if_pos (own_gt (z := 191) rfl (by omega))]
    rw [show (F2_43 v) = (F2_50 v) from if_neg (own_neq (z := 215) rfl (by omega))]
    rw [show (F2_50 v) = (F2_59 v) from if_neg (own_neq (z := 247) rfl (by omega))]
    rw [show (F2_59 v) = (F2_66 v) from if_neg (own_nlt (z := 768) rfl (by omega))]
    rw [show (F2_66 v) = (F2_75 v) from if_pos (own_gt (z := 879) rfl (by omega))]
    rw [show (F2_75 v) = (F2_84 v) from if_neg (own_neq (z := 894) rfl (by omega))]
    rw [show (F2_84 v) = (F2_91 v) from if_neg (own_nlt (z := 8192) rfl (by omega))]
    rw [show (F2_91 v) = F2_98 from if_neg (own_ngt (z := 8203) rfl (by omega))]
    rfl
theorem own_same_15 (v : Int32) (h1 : 8204 ≤ v.toInt) (h2 : v.toInt ≤ 8205) : (F1_0 v) = (1 : Int32) ∧ (F2_0 v) = (1 : Int32) := by
  refine ⟨?_, ?_⟩
  · rw [show (F1_0 v) = (F1_6 v) from if_neg (own_nlt (z := 65) rfl (by omega))]
    rw [show (F1_6 v) = (F1_12 v) from if_pos (own_gt (z := 90) rfl (by omega))]
    rw [show (F1_12 v) = (F1_18 v) from if_neg (own_nlt (z := 97) rfl (by omega))]
    rw [show (F1_18 v) = (F1_24 v) from if_pos (own_gt (z := 122) rfl (by omega))]
    rw [show (F1_24 v) = (F1_31 v) from if_neg (own_nlt (z := 192) rfl (by omega))]
    rw [show (F1_31 v) = (F1_38 v) from if_pos (own_gt (z := 214) rfl (by omega))]
    rw [show (F1_38 v) = (F1_45 v) from if_neg (own_nlt (z := 216) rfl (by omega))]
    rw [show (F1_45 v) = (F1_52 v) from if_pos (own_gt (z := 246) rfl (by omega))]
    rw [show (F1_52 v) = (F1_59 v) from if_neg (own_nlt (z := 248) rfl (by omega))]
    rw [show (F1_59 v) = (F1_66 v) from if_pos (own_gt (z := 767) rfl (by omega))]
    rw [show (F1_66 v) = (F1_73 v) from if_neg (own_nlt (z := 880) rfl (by omega))]
    rw [show (F1_73 v) = (F1_80 v) from if_pos (own_gt (z := 893) rfl (by omega))]
    rw [show (F1_80 v) = (F1_87 v) from if_neg (own_nlt (z := 895) rfl (by omega))]
    rw [show (F1_87 v) = (F1_94 v) from if_pos (own_gt (z := 8191) rfl (by omega))]
    rw [show (F1_94 v) = (F1_101 v) from if_neg (own_nlt (z := 8204) rfl (by omega))]
    rw [show (F1_101 v) = F1_192 from if_neg (own_ngt (z := 8205) rfl (by omega))]
    rfl
  · rw [show (F2_0 v) = (F2_6 v) from if_neg (own_nlt (z := 65) rfl (by omega))]
    rw [show (F2_6 v) = (F2_14 v) from if_neg (own_ngt (z := 983039) rfl (by omega))]
    rw [show (F2_14 v) = (F2_20 v) from if_neg (own_nlt (z := 91) rfl (by omega))]
    rw [show (F2_20 v) = (F2_28 v) from if_pos (own_gt (z := 96) rfl (by omega))]
    rw [show (F2_28 v) = (F2_34 v) from if_neg (own_nlt (z := 123) rfl (by omega))]
    rw [show (F2_34 v) = (F2_43 v) from if_pos (own_gt (z := 191) rfl (by omega))]
    rw [show (F2_43 v) = (F2_50 v) from if_neg (own_neq (z := 215) rfl (by omega))]
    rw [show (F2_50 v) = (F2_59 v) from if_neg (own_neq (z := 247) rfl (by omega))]
    rw [show (F2_59 v) = (F2_66 v) from if_neg (own_nlt (z := 768) rfl (by omega))]
    rw [show (F2_66 v) = (F2_75 v) from if_pos (own_gt (z := 879) rfl (by omega))]
    rw [show (F2_75 v) = (F2_84 v) from if_neg (own_neq (z := 894) rfl (by omega))]
    rw [show (F2_84 v) = (F2_91 v) from if_neg (own_nlt (z := 8192) rfl (by omega))]
    rw [show (F2_91 v) = (F2_100 v) from if_pos (own_gt (z := 8203) rfl (by omega))]
    rw [show (F2_100 v) = (F2_116 v) from if_pos (own_lt (z := 8206) rfl (by omega))]
    rw [show (F2_116 v) = (F2_132 v) from if_pos (own_lt (z := 8592) rfl (by omega))]
    rw [show (F2_132 v) = (F2_148 v) from if_pos (own_lt (z := 12272) rfl (by omega))]
    rw [show (F2_148 v) = (F2_162 v) from if_pos (own_lt (z := 55296) rfl (by omega))]
    rw [show (F2_162 v) = (F2_176 v) from if_pos (own_lt (z := 64976) rfl (by omega))]
    rw [show (F2_176 v) = F2_190 from if_pos (own_lt (z := 65534) rfl (by omega))]
    rfl
theorem own_same_16 (v : Int32) (h1 : 8206 ≤ v.toInt) (h2 : v.toInt ≤ 8303) : (F1_0 v) = (0 : Int32) ∧ (F2_0 v) = (0 : Int32) := by
  refine ⟨?_, ?_⟩
  · rw [show (F1_0 v) = (F1_6 v) from if_neg (own_nlt (z := 65) rfl (by omega))]
    rw [show (F1_6 v) = (F1_12 v) from if_pos (own_gt (z := 90) rfl (by omega))]
    rw [show (F1_12 v) = (F1_18 v) from if_neg (own_nlt (z := 97) rfl (by omega))]
    rw [show (F1_18 v) = (F1_24 v) from if_pos (own_gt (z := 122) rfl (by omega))]
    rw [show (F1_24 v) = (F1_31 v) from if_neg (own_nlt (z := 192) rfl (by omega))]
    rw [show (F1_31 v) = (F1_38 v) from if_pos (own_gt (z := 214) rfl (by omega))]
    rw [show (F1_38 v) = (F1_45 v) from if_neg (own_nlt (z := 216) rfl (by omega))]
    rw [show (F1_45 v) = (F1_52 v) from if_pos (own_gt (z := 246) rfl (by omega))]
    rw [show (F1_52 v) = (F1_59 v) from if_neg (own_nlt (z := 248) rfl (by omega))]
    rw [show (F1_59 v) = (F1_66 v) from if_pos (own_gt (z := 767) rfl (by omega))]
    rw [show (F1_66 v) = (F1_73 v) from if_neg (own_nlt (z := 880) rfl (by omega))]
    rw [show (F1_73 v) = (F1_80 v) from if_pos (own_gt (z := 893) rfl (by omega))]
    rw [show (F1_80 v) = (F1_87 v) from if_neg (own_nlt (z := 895) rfl (by omega))]
    rw [show (F1_87 v) = (F1_94 v) from if_pos (own_gt (z := 8191) rfl (by omega))]
    rw [show (F1_94 v) = (F1_101 v) from if_neg (own_nlt (z := 8204) rfl (by omega))]
    rw [show (F1_101 v) = (F1_108 v) from if_pos (own_gt (z := 8205) rfl (by omega))]
    rw [show (F1_108 v) = (F1_122 v) from if_pos (own_lt (z := 8304) rfl (by omega))]
    rw [show (F1_122 v) = (F1_136 v) from if_pos (own_lt (z := 11264) rfl (by omega))]
    rw [show (F1_136 v) = (F1_150 v) from if_pos (own_lt (z := 12289) rfl (by omega))]
    rw [show (F1_150 v) = (F1_164 v) from if_pos (own_lt (z := 63744) rfl (by omega))]
    rw [show (F1_164 v) = (F1_178 v) from if_pos (own_lt (z := 65008) rfl (by omega))]
    rw [show (F1_178 v) = F1_196 from if_pos (own_lt (z := 65536) rfl (by omega))]
    rfl
  · rw [show (F2_0 v) = (F2_6 v) from if_neg (own_nlt (z := 65) rfl (by omega))]
    rw [show (F2_6 v) = (F2_14 v) from if_neg (own_ngt (z := 983039) rfl (by omega))]
    rw [show (F2_14 v) = (F2_20 v) from if_neg (own_nlt (z := 91) rfl (by omega))]
    rw [show (F2_20 v) = (F2_28 v) from if_pos (own_gt (z := 96) rfl (by omega))]
    rw [show (F2_28 v) = (F2_34 v) from if_neg (own_nlt (z := 123) rfl (by omega))]
    rw [show (F2_34 v) = (F2_43 v) from if_pos (own_gt (z := 191) rfl (by omega))]
    rw [show (F2_43 v) = (F2_50 v) from if_neg (own_neq (z := 215) rfl (by omega))]
    rw [show (F2_50 v) = (F2_59 v) from if_neg (own_neq (z := 247) rfl (by omega))]
    rw [show (F2_59 v) = (F2_66 v) from if_neg (own_nlt (z := 768) rfl (by omega))]
    rw [show (F2_66 v) = (F2_75 v) from if_pos (own_gt (z := 879) rfl (by omega))]
    rw [show (F2_75 v) = (F2_84 v) from if_neg (own_neq (z := 894) rfl (by omega))]
    rw [show (F2_84 v) = (F2_91 v) from if_neg (own_nlt (z := 8192) rfl (by omega))]
    rw [show (F2_91 v) = (F2_100 v) from if_pos (own_gt (z := 8203) rfl (by omega))]
    rw [show (F2_100 v) = (F2_107 v) from if_neg (own_nlt (z := 8206) rfl (by omega))]
    rw [show (F2_107 v) = F2_114 from if_neg (own_ngt (z := 8303) rfl (by omega))]
    rfl
theorem own_same_17 (v : Int32) (h1 : 8304 ≤ v.toInt) (h2 : v.toInt ≤ 8591) : (F1_0 v) = (1 : Int32) ∧ (F2_0 v) = (1 : Int32) := by
  refine ⟨?_, ?_⟩
  · rw [show (F1_0 v) = (F1_6 v) from if_neg (own_nlt (z := 65) rfl (by omega))]
    rw [show (F1_6 v) = (F1_12 v) from if_pos (own_gt (z := 90) rfl (by omega))]
    rw [show (F1_12 v) = (F1_18 v) from if_neg (own_nlt (z := 97) rfl (by omega))]
    rw [show (F1_18 v) = (F1_24 v) from if_pos (own_gt (z := 122) rfl (by omega))]
    rw [show (F1_24 v) = (F1_31 v) from if_neg (own_nlt (z := 192) rfl (by omega))]
    rw [show (F1_31 v) = (F1_38 v) from if_pos (own_gt (z := 214) rfl (by omega))]
    rw [show (F1_38 v) = (F1_45 v) from if_neg (own_nlt (z := 216) rfl (by omega))]
    rw [show (F1_45 v) = (F1_52 v) from if_pos (own_gt (z := 246) rfl (by omega))]
    rw [show (F1_52 v) = (F1_59 v) from if_neg (own_nlt (z := 248) rfl (by omega))]
    rw [show (F1_59 v) = (F1_66 v) from if_pos (own_gt (z := 767) rfl (by omega))]
    rw [show (F1_66 v) = (F1_73 v) from if_neg (own_nlt (z := 880) rfl (by omega))]
    rw [show (F1_73 v) = (F1_80 v) from if_pos (own_gt (z := 893) rfl (by omega))]
    rw [show (F1_80 v) = (F1_87 v) from if_neg (own_nlt (z := 895) rfl (by omega))]
    rw [show (F1_87 v) = (F1_94 v) from if_pos (own_gt (z := 8191) rfl (by omega))]
    rw [show (F1_94 v) = (F1_101 v) from if_neg (own_nlt (z := 8204) rfl (by omega))]
    rw [show (F1_101 v) = (F1_108 v) from if_pos (own_gt (z := 8205) rfl (by omega))]
    rw [show (F1_108 v) = (F1_115 v) from if_neg (own_nlt (z := 8304) rfl (by omega))]
    rw [show (F1_115 v) = F1_192 from if_neg (own_ngt (z := 8591) rfl (by omega))]
    rfl
  · rw [show (F2_0 v) = (F2_6 v) from if_neg (own_nlt (z := 65) rfl (by omega))]
    rw [show (F2_6 v) = (F2_14 v) from if_neg (own_ngt (z := 983039) rfl (by omega))]
    rw [show (F2_14 v) = (F2_20 v) from if_neg (own_nlt (z := 91) rfl (by omega))]
    rw [show (F2_20 v) = (F2_28 v) from if_pos (own_gt (z := 96) rfl (by omega))]
    rw [show (F2_28 v) = (F2_34 v) from if_neg (own_nlt (z := 123) rfl (by omega))]
    rw [show (F2_34 v) = (F2_43 v) from if_pos (own_gt (z := 191) rfl (by omega))]
    rw [show (F2_43 v) = (F2_50 v) from if_neg (own_neq (z := 215) rfl (by omega))]
    rw [show (F2_50 v) = (F2_59 v) from if_neg (own_neq (z := 247) rfl (by omega))]
    rw [show (F2_59 v) = (F2_66 v) from if_neg (own_nlt (z := 768) rfl (by omega))]
    rw [show (F2_66 v) = (F2_75 v) from if_pos (own_gt (z := 879) rfl (by omega))]
    rw [show (F2_75 v) = (F2_84 v) from if_neg (own_neq (z := 894) rfl (by omega))]
    rw [show (F2_84 v) = (F2_91 v) from if_neg (own_nlt (z := 8192) rfl (by omega))]
    rw [show (F2_91 v) = (F2_100 v) from if_pos (own_gt (z := 8203) rfl (by omega))]
    rw [show (F2_100 v) = (F2_107 v) from if_neg (own_nlt (z := 8206) rfl (by omega))]
    rw [show (F2_107 v) = (F2_116 v) from if_pos (own_gt (z := 8303) rfl (by omega))]
    rw [show (F2_116 v) = (F2_132 v) from if_pos (own_lt (z := 8592) rfl (by omega))]
    rw [show (F2_132 v) = (F2_148 v) from if_pos (own_lt (z := 12272) rfl (by omega))]
    rw [show (F2_148 v) = (F2_162 v) from if_pos (own_lt (z := 55296) rfl (by omega))]
    rw [show (F2_162 v) = (F2_176 v) from if_pos (own_lt (z := 64976) rfl (by omega))]
    rw [show (F2_176 v) = F2_190 from if_pos (own_lt (z := 65534) rfl (by omega))]
    rfl
theorem own_same_18 (v : Int32) (h1 : 8592 ≤ v.toInt) (h2 : v.toInt ≤ 11263) : (F1_0 v) = (0 : Int32) ∧ (F2_0 v) = (0 : Int32) := by
  refine ⟨?_, ?_⟩
  · rw [show (F1_0 v) = (F1_6 v) from if_neg (own_nlt (z := 65) rfl (by omega))]
    rw [show (F1_6 v) = (F1_12 v) from if_pos (own_gt (z := 90) rfl (by omega))]
    rw [show (F1_12 v) = (F1_18 v) from if_neg (own_nlt (z := 97) rfl (by omega))]
    rw [show (F1_18 v) = (F1_24 v) from if_pos (own_gt (z := 122) rfl (by omega))]
    rw [show (F1_24 v) = (F1_31 v) from if_neg (own_nlt (z := 192) rfl (by omega))]
    rw [show (F1_31 v) = (F1_38 v) from if_pos (own_gt (z := 214) rfl (by omega))]
    rw [show (F1_38 v) = (F1_45 v) from if_neg (own_nlt (z := 216) rfl (by omega))]
    rw [show (F1_45 v) = (F1_52 v) from if_pos (own_gt (z := 246) rfl (by omega))]
    rw [show (F1_52 v) = (F1_59 v) from if_neg (own_nlt (z := 248) rfl (by omega))]
    rw [show (F1_59 v) = (F1_66 v) from if_pos (own_gt (z := 767) rfl (by omega))]
    rw [show (F1_66 v) = (F1_73 v) from if_neg (own_nlt (z := 880) rfl (by omega))]
    rw [show (F1_73 v) = (F1_80 v) from if_pos (own_gt (z := 893) rfl (by omega))]
    rw [show (F1_80 v) = (F1_87 v) from if_neg (own_nlt (z := 895) rfl (by omega))]
    rw [show (F1_87 v) = (F1_94 v) from if_pos (own_gt (z := 8191) rfl (by omega))]
    rw [show (F1_94 v) = (F1_101 v) from if_neg (own_nlt (z := 8204) rfl (by omega))]
    rw [show (F1_101 v) = (F1_108 v) from if_pos (own_gt (z := 8205) rfl (by omega))]
    rw [show (F1_108 v) = (F1_115 v) from if_neg (own_nlt (z := 8304) rfl (by omega))]
    rw [show (F1_115 v) = (F1_122 v) from if_pos (own_gt (z := 8591) rfl (by omega))]
    rw [show (F1_122 v) = (F1_136 v) from if_pos (own_lt (z := 11264) rfl (by omega))]
    rw [show (F1_136 v) = (F1_150 v) from if_pos (own_lt (z := 12289) rfl (by omega))]
    rw [show (F1_150 v) = (F1_164 v) from if_pos (own_lt (z := 63744) rfl (by omega))]
    rw [show (F1_164 v) = (F1_178 v) from if_pos (own_lt (z := 65008) rfl (by omega))]
    rw [show (F1_178 v) = F1_196 from if_pos (own_lt (z := 65536) rfl (by omega))]
    rfl
  · rw [show (F2_0 v) = (F2_6 v) from if_neg (own_nlt (z := 65) rfl (by omega))]
    rw [show (F2_6 v) = (F2_14 v) from if_neg (own_ngt (z := 983039) rfl (by omega))]
    rw [show (F2_14 v) = (F2_20 v) from if_neg (own_nlt (z := 91) rfl (by omega))]
    rw [show (F2_20 v) = (F2_28 v) from if_pos (own_gt (z := 96) rfl (by omega))]
    rw [show (F2_28 v) = (F2_34 v) from if_neg (own_nlt (z := 123) rfl (by omega))]
    rw [show (F2_34 v) = (F2_43 v) from if_pos (own_gt (z := 191) rfl (by omega))]
    rw [show (F2_43 v) = (F2_50 v) from if_neg (own_neq (z := 215) rfl (by omega))]
    rw [show (F2_50 v) = (F2_59 v) from if_neg (own_neq (z := 247) rfl (by omega))]
    rw [show (F2_59 v) = (F2_66 v) from if_neg (own_nlt (z := 768) rfl (by omega))]
    rw [show (F2_66 v) = (F2_75 v) from if_pos (own_gt (z := 879) rfl (by omega))]
    rw [show (F2_75 v) = (F2_84 v) from if_neg (own_neq (z := 894) rfl (by omega))]
    rw [show (F2_84 v) = (F2_91 v) from if_neg (own_nlt (z := 8192) rfl (by omega))]
    rw [show (F2_91 v) = (F2_100 v) from if_pos (own_gt (z := 8203) rfl (by omega))]
    rw [show (F2_100 v) = (F2_107 v) from if_neg (own_nlt (z := 8206) rfl (by omega))]
    rw [show (F2_107 v) = (F2_116 v) from if_pos (own_gt (z := 8303) rfl (by omega))]
    rw [show (F2_116 v) = (F2_123 v) from if_neg (own_nlt (z := 8592) rfl (by omega))]
    rw [show (F2_123 v) = F2_130 from if_neg (own_ngt (z := 11263) rfl (by omega))]
    rfl
theorem own_same_19 (v : Int32) (h1 : 11264 ≤ v.toInt) (h2 : v.toInt ≤ 12271) : (F1_0 v) = (1 : Int32) ∧ (F2_0 v) = (1 : Int32) := by
  refine ⟨?_, ?_⟩
  · rw [show (F1_0 v) = (F1_6 v) from if_neg (own_nlt (z := 65) rfl (by omega))]
    rw [show (F1_6 v) = (F1_12 v) from if_pos (own_gt (z := 90) rfl (by omega))]
    rw [show (F1_12 v) = (F1_18 v) from if_neg (own_nlt (z := 97) rfl (by omega))]
    rw [show (F1_18 v) = (F1_24 v) from if_pos (own_gt (z := 122) rfl (by omega))]
    rw [show (F1_24 v) = (F1_31 v) from if_neg (own_nlt (z := 192) rfl (by omega))]
    rw [show (F1_31 v) = (F1_38 v) from if_pos (own_gt (z := 214) rfl (by omega))]
    rw [show (F1_38 v) = (F1_45 v) from if_neg (own_nlt (z := 216) rfl (by omega))]
    rw [show (F1_45 v) = (F1_52 v) from if_pos (own_gt (z := 246) rfl (by omega))]
    rw [show (F1_52 v) = (F1_59 v) from if_neg (own_nlt (z := 248) rfl (by omega))]
    rw [show (F1_59 v) = (F1_66 v) from if_pos (own_gt (z := 767) rfl (by omega))]
    rw [show (F1_66 v) = (F1_73 v) from if_neg (own_nlt (z := 880) rfl (by omega))]
    rw [show (F1_73 v) = (F1_80 v) from if_pos (own_gt (z := 893) rfl (by omega))]
    rw [show (F1_80 v) = (F1_87 v) from if_neg (own_nlt (z := 895) rfl (by omega))]
    rw [show (F1_87 v) = (F1_94 v) from if_pos (own_gt (z := 8191) rfl (by omega))]
    rw [show (F1_94 v) = (F1_101 v) from if_neg (own_nlt (z := 8204) rfl (by omega))]
    rw [show (F1_101 v) = (F1_108 v) from if_pos (own_gt (z := 8205) rfl (by omega))]
    rw [show (F1_108 v) = (F1_115 v) from if_neg (own_nlt (z := 8304) rfl (by omega))]
    rw [show (F1_115 v) = (F1_122 v) from if_pos (own_gt (z := 8591) rfl (by omega))]
    rw [show (F1_122 v) = (F1_129 v) from if_neg (own_nlt (z := 11264) rfl (by omega))]
    rw [show (F1_129 v) = F1_192 from if_neg (own_ngt (z := 12271) rfl (by omega))]
    rfl
  · rw [show (F2_0 v) = (F2_6 v) from if_neg (own_nlt (z := 65) rfl (by omega))]
    rw [show (F2_6 v) = (F2_14 v) from if_neg (own_ngt (z := 983039) rfl (by omega))]
    rw [show (F2_14 v) = (F2_20 v) from if_neg (own_nlt (z := 91) rfl (by omega))]
    rw [show (F2_20 v) = (F2_28 v) from if_pos (own_gt (z := 96) rfl (by omega))]
    rw [show (F2_28 v) = (F2_34 v) from if_neg (own_nlt (z := 123) rfl (by omega))]
    rw [show (F2_34 v) = (F2_43 v) from if_pos (own_gt (z := 191) rfl (by omega))]
    rw [show (F2_43 v) = (F2_50 v) from if_neg (own_neq (z := 215) rfl (by omega))]
    rw [show (F2_50 v) = (F2_59 v) from if_neg (own_neq (z := 247) rfl (by omega))]
    rw [show (F2_59 v) = (F2_66 v) from if_neg (own_nlt (z := 768) rfl (by omega))]
    rw [show (F2_66 v) = (F2_75 v) from if_pos (own_gt (z := 879) rfl (by omega))]
    rw [show (F2_75 v) = (F2_84 v) from if_neg (own_neq (z := 894) rfl (by omega))]
    rw [show (F2_84 v) = (F2_91 v) from if_neg (own_nlt (z := 8192) rfl (by omega))]
    rw [show (F2_91 v) = (F2_100 v) from if_pos (own_gt (z := 8203) rfl (by omega))]
    rw [show (F2_100 v) = (F2_107 v) from if_neg (own_nlt (z := 8206) rfl (by omega))]
    rw [show (F2_107 v) = (F2_116 v) from if_pos (own_gt (z := 8303) rfl (by omega))]
    rw [show (F2_116 v) = (F2_123 v) from if_neg (own_nlt (z := 8592) rfl (by omega))]
    rw [show (F2_123 v) = (F2_132 v) from if_pos (own_gt (z := 11263) rfl (by omega))]
    rw [show (F2_132 v) = (F2_148 v) from if_pos (own_lt (z := 12272) rfl (by omega))]
    rw [show (F2_148 v) = (F2_162 v) from if_pos (own_lt (z := 55296) rfl (by omega))]
    rw [show (F2_162 v) = (F2_176 v) from if_pos (own_lt (z := 64976) rfl (by omega))]
    rw [show (F2_176 v) = F2_190 from if_pos (own_lt (z := 65534) rfl (by omega))]
    rfl
theorem own_same_20 (v : Int32) (h1 : 12272 ≤ v.toInt) (h2 : v.toInt ≤ 12288) : (F1_0 v) = (0 : Int32) ∧ (F2_0 v) = (0 : Int32) := by
  refine ⟨?_, ?_⟩
  · rw [show (F1_0 v) = (F1_6 v) from if_neg (own_nlt (z := 65) rfl (by omega))]
    rw [show (F1_6 v) = (F1_12 v) from if_pos (own_gt (z := 90) rfl (by omega))]
    rw [show (F1_12 v) = (F1_18 v) from if_neg (own_nlt (z := 97) rfl (by omega))]
    rw [show (F1_18 v) = (F1_24 v) from if_pos (own_gt (z := 122) rfl (by omega))]
    rw [show (F1_24 v) = (F1_31 v) from if_neg (own_nlt (z := 192) rfl (by omega))]
    rw [show (F1_31 v) = (F1_38 v) from if_pos (own_gt (z := 214) rfl (by omega))]
    rw [show (F1_38 v) = (F1_45 v) from if_neg (own_nlt (z := 216) rfl (by omega))]
    rw [show (F1_45 v) = (F1_52 v) from if_pos (own_gt (z := 246) rfl (by omega))]
    rw [show (F1_52 v) = (F1_59 v) from if_neg (own_nlt (z := 248) rfl (by omega))]
    rw [show (F1_59 v) = (F1_66 v) from if_pos (own_gt (z := 767) rfl (by omega))]
    rw [show (F1_66 v) = (F1_73 v) from if_neg (own_nlt (z := 880) rfl (by omega))]
    rw [show (F1_73 v) = (F1_80 v) from if_pos (own_gt (z := 893) rfl (by omega))]
    rw [show (F1_80 v) = (F1_87 v) from if_neg (own_nlt (z := 895) rfl (by omega))]
    rw [show (F1_87 v) = (F1_94 v) from if_pos (own_gt (z := 8191) rfl (by omega))]
    rw [show (F1_94 v) = (F1_101 v) from if_neg (own_nlt (z := 8204) rfl (by omega))]
    rw [show (F1_101 v) = (F1_108 v) from if_pos (own_gt (z := 8205) rfl (by omega))]
    rw [show (F1_108 v) = (F1_115 v) from if_neg (own_nlt (z := 8304) rfl (by omega))]
    rw [show (F1_115 v) = (F1_122 v) from if_pos (own_gt (z := 8591) rfl (by omega))]
    rw [show (F1_122 v) = (F1_129 v) from if_neg (own_nlt (z := 11264) rfl (by omega))]
    rw [show (F1_129 v) = (F1_136 v) from if_pos (own_gt (z := 12271) rfl (by omega))]
    rw [show (F1_136 v) = (F1_150 v) from if_pos (own_lt (z := 12289) rfl (by omega))]
    rw [show (F1_150 v) = (F1_164 v) from if_pos (own_lt (z := 63744) rfl (by omega))]
    rw [show (F1_164 v) = (F1_178 v) from if_pos (own_lt (z := 65008) rfl (by omega))]
    rw [show (F1_178 v) = F1_196 from if_pos (own_lt (z := 65536) rfl (by omega))]
    rfl
  · rw [show (F2_0 v) = (F2_6 v) from if_neg (own_nlt (z := 65) rfl (by omega))]
    rw [show (F2_6 v) = (F2_14 v) from if_neg (own_ngt (z := 983039) rfl (by omega))]
    rw [show (F2_14 v) = (F2_20 v) from if_neg (own_nlt (z := 91) rfl (by omega))]
    rw [show (F2_20 v) = (F2_28 v) from if_pos (own_gt (z := 96) rfl (by omega))]
    rw [show (F2_28 v) = (F2_34 v) from if_neg (own_nlt (z := 123) rfl (by omega))]
    rw [show (F2_34 v) = (F2_43 v) from if_pos (own_gt (z := 191) rfl (by omega))]
    rw [show (F2_43 v) = (F2_50 v) from if_neg (own_neq (z := 215) rfl (by omega))]
    rw [show (F2_50 v) = (F2_59 v) from if_neg (own_neq (z := 247) rfl (by omega))]
    rw [show (F2_59 v) = (F2_66 v) from if_neg (own_nlt (z := 768) rfl (by omega))]
    rw [show (F2_66 v) = (F2_75 v) from if_pos (own_gt (z := 879) rfl (by omega))]
    rw [show (F2_75 v) = (F2_84 v) from if_neg (own_neq (z := 894) rfl (by omega))]
    rw [show (F2_84 v) = (F2_91 v) from if_neg (own_nlt (z := 8192) rfl (by omega))]
    rw [show (F2_91 v) = (F2_100 v) from if_pos (own_gt (z := 8203) rfl (by omega))]
    rw [show (F2_100 v) = (F2_107 v) from if_neg (own_nlt (z := 8206) rfl (by omega))]
    rw [show (F2_107 v) = (F2_116 v) from if_pos (own_gt (z := 8303) rfl (by omega))]
    rw [show (F2_116 v) = (F2_123 v) from if_neg (own_nlt (z := 8592) rfl (by omega))]
    rw [show (F2_123 v) = (F2_132 v) from if_pos (own_gt (z := 11263) rfl (by omega))]
    rw [show (F2_132 v) = (F2_139 v) from if_neg (own_nlt (z := 12272) rfl (by omega))]
    rw [show (F2_139 v) = F2_146 from if_neg (own_ngt (z := 12288) rfl (by omega))]
    rfl
theorem own_same_21 (v : Int32) (h1 : 12289 ≤ v.toInt) (h2 : v.toInt ≤ 55295) : (F1_0 v) = (1 : Int32) ∧ (F2_0 v) = (1 : Int32) := by
  refine ⟨?_, ?_⟩
  · rw [show (F1_0 v) = (F1_6 v) from if_neg (own_nlt (z := 65) rfl (by omega))]
    rw [show (F1_6 v) = (F1_12 v) from if_pos (own_gt (z := 90) rfl (by omega))]
    rw [show (F1_12 v) = (F1_18 v) from if_neg (own_nlt (z := 97) rfl (by omega))]
    rw [show (F1_18 v) = (F1_24 v) from if_pos (own_gt (z := 122) rfl (by omega))]
    rw [show (F1_24 v) = (F1_31 v) from if_neg (own_nlt (z := 192) rfl (by omega))]
    rw [show (F1_31 v) = (F1_38 v) from if_pos (own_gt (z := 214) rfl (by omega))]
    rw [show (F1_38 v) = (F1_45 v) from if_neg (own_nlt (z := 216) rfl (by omega))]
    rw [show (F1_45 v) = (F1_52 v) from if_pos (own_gt (z := 246) rfl (by omega))]
    rw [show (F1_52 v) = (F1_59 v) from if_neg (own_nlt (z := 248) rfl (by omega))]
    rw [show (F1_59 v) = (F1_66 v) from if_pos (own_gt (z := 767) rfl (by omega))]
    rw [show (F1_66 v) = (F1_73 v) from if_neg (own_nlt (z := 880) rfl (by omega))]
    rw [show (F1_73 v) = (F1_80 v) from if_pos (own_gt (z := 893) rfl (by omega))]
    rw [show (F1_80 v) = (F1_87 v) from if_neg (own_nlt (z := 895) rfl (by omega))]
    rw [show (F1_87 v) = (F1_94 v) from if_pos (own_gt (z := 8191) rfl (by omega))]
    rw [show (F1_94 v) = (F1_101 v) from if_neg (own_nlt (z := 8204) rfl (by omega))]
    rw [show (F1_101 v) = (F1_108 v) from if_pos (own_gt (z := 8205) rfl (by omega))]
    rw [show (F1_108 v) = (F1_115 v) from if_neg (own_nlt (z := 8304) rfl (by omega))]
    rw [show (F1_115 v) = (F1_122 v) from if_pos (own_gt (z := 8591) rfl (by omega))]
    rw [show (F1_122 v) = (F1_129 v) from if_neg (own_nlt (z := 11264) rfl (by omega))]
    rw [show (F1_129 v) = (F1_136 v) from if_pos (own_gt (z := 12271) rfl (by omega))]
    rw [show (F1_136 v) = (F1_143 v) from if_neg (own_nlt (z := 12289) rfl (by omega))]
    rw [show (F1_143 v) = F1_192 from if_neg (own_ngt (z := 55295) rfl (by omega))]
    rfl
  · rw [show (F2_0 v) = (F2_6 v) from if_neg (own_nlt (z := 65) rfl (by omega))]
    rw [show (F2_6 v) = (F2_14 v) from if_neg (own_ngt (z := 983039) rfl (by omega))]
    rw [show (F2_14 v) = (F2_20 v) from if_neg (own_nlt (z := 91) rfl (by omega))]
    rw [show (F2_20 v) = (F2_28 v) from if_pos (own_gt (z := 96) rfl (by omega))]
    rw [show (F2_28 v) = (F2_34 v) from if_neg (own_nlt (z := 123) rfl (by omega))]
    rw [show (F2_34 v) = (F2_43 v) from if_pos (own_gt (z := 191) rfl (by omega))]
    rw [show (F2_43 v) = (F2_50 v) from if_neg (own_neq (z := 215) rfl (by omega))]
    rw [show (F2_50 v) = (F2_59 v) from if_neg (own_neq (z := 247) rfl (by omega))]
    rw [show (F2_59 v) = (F2_66 v) from if_neg (own_nlt (z := 768) rfl (by omega))]
    rw [show (F2_66 v) = (F2_75 v) from if_pos (own_gt (z := 879) rfl (by omega))]
    rw [show (F2_75 v) = (F2_84 v) from if_neg (own_neq (z := 894) rfl (by omega))]
    rw [show (F2_84 v) = (F2_91 v) from if_neg (own_nlt (z := 8192) rfl (by omega))]
    rw [show (F2_91 v) = (F2_100 v) from if_pos (own_gt (z := 8203) rfl (by omega))]
    rw [show (F2_100 v) = (F2_107 v) from if_neg (own_nlt (z := 8206) rfl (by omega))]
    rw [show (F2_107 v) = (F2_116 v) from if_pos (own_gt (z := 8303) rfl (by omega))]
    rw [show (F2_116 v) = (F2_123 v) from if_neg (own_nlt (z := 8592) rfl (by omega))]
    rw [show (F2_123 v) = (F2_132 v) from if_pos (own_gt (z := 11263) rfl (by omega))]
    rw [show (F2_132 v) = (F2_139 v) from if_neg (own_nlt (z := 12272) rfl (by omega))]
    rw [show (F2_139 v) = (F2_148 v) from if_pos (own_gt (z := 12288) rfl (by omega))]
    rw [show (F2_148 v) = (F2_162 v) from if_pos (own_lt (z := 55296) rfl (by omega))]
    rw [show (F2_162 v) = (F2_176 v) from if_pos (own_lt (z := 64976) rfl (by omega))]
    rw [show (F2_176 v) = F2_190 from if_pos (own_lt (z := 65534) rfl (by omega))]
    rfl
theorem own_same_22 (v : Int32) (h1 : 55296 ≤ v.toInt) (h2 : v.toInt ≤ 63743) : (F1_0 v) = (0 : Int32) ∧ (F2_0 v) = (0 : Int32) := by
  refine ⟨?_, ?_⟩
  · rw [show (F1_0 v) = (F1_6 v) from if_neg (own_nlt (z := 65) rfl (by omega))]
    rw [show (F1_6 v) = (F1_12 v) from if_pos (own_gt (z := 90) rfl (by omega))]
    rw [show (F1_12 v) = (F1_18 v) from if_neg (own_nlt (z := 97) rfl (by omega))]
    rw [show (F1_18 v) = (F1_24 v) from if_pos (own_gt (z := 122) rfl (by omega))]
    rw [show (F1_24 v) = (F1_31 v) from if_neg (own_nlt (z := 192) rfl (by omega))]
    rw [show (F1_31 v) = (F1_38 v) from if_pos (own_gt (z := 214) rfl (by omega))]
    rw [show (F1_38 v) = (F1_45 v) from if_neg (own_nlt (z := 216) rfl (by omega))]
    rw [show (F1_45 v) = (F1_52 v) from if_pos (own_gt (z := 246) rfl (by omega))]
    rw [show (F1_52 v) = (F1_59 v) from if_neg (own_nlt (z := 248) rfl (by omega))]
    rw [show (F1_59 v) = (F1_66 v) from if_pos (own_gt (z := 767) rfl (by omega))]
    rw [show (F1_66 v) = (F1_73 v) from if_neg (own_nlt (z := 880) rfl (by omega))]
    rw [show (F1_73 v) = (F1_80 v) from if_pos (own_gt (z := 893) rfl (by omega))]
    rw [show (F1_80 v) = (F1_87 v) from if_neg (own_nlt (z := 895) rfl (by omega))]
    rw [show (F1_87 v) = (F1_94 v) from if_pos (own_gt (z := 8191) rfl (by omega))]
    rw [show (F1_94 v) = (F1_101 v) from if_neg (own_nlt (z := 8204) rfl (by omega))]
    rw [show (F1_101 v) = (F1_108 v) from if_pos (own_gt (z := 8205) rfl (by omega))]
    rw [show (F1_108 v) = (F1_115 v) from if_neg (own_nlt (z := 8304) rfl (by omega))]
    rw [show (F1_115 v) = (F1_122 v) from if_pos (own_gt (z := 8591) rfl (by omega))]
    rw [show (F1_122 v) = (F1_129 v) from if_neg (own_nlt (z := 11264) rfl (by omega))]
    rw [show (F1_129 v) = (F1_136 v) from if_pos (own_gt (z := 12271) rfl (by omega))]
    rw [show (F1_136 v) = (F1_143 v) from if_neg (own_nlt (z := 12289) rfl (by omega))]
    rw [show (F1_143 v) = (F1_150 v) from if_pos (own_gt (z := 55295) rfl (by omega))]
    rw [show (F1_150 v) = (F1_164 v) from if_pos (own_lt (z := 63744) rfl (by omega))]
    rw [show (F1_164 v) = (F1_178 v) from if_pos (own_lt (z := 65008) rfl (by omega))]
    rw [show (F1_178 v) = F1_196 from if_pos (own_lt (z := 65536) rfl (by omega))]
    rfl
  · rw [show (F2_0 v) = (F2_6 v) from if_neg (own_nlt (z := 65) rfl (by omega))]
    rw [show (F2_6 v) = (F2_14 v) from if_neg (own_ngt (z := 983039) rfl (by omega))]
    rw [show (F2_14 v) = (F2_20 v) from if_neg (own_nlt (z := 91) rfl (by omega))]
    rw [show (F2_20 v) = (F2_28 v) from if_pos (own_gt (z := 96) rfl (by omega))]
    rw [show (F2_28 v) = (F2_34 v) from if_neg (own_nlt (z := 123) rfl (by omega))]
    rw [show (F2_34 v) = (F2_43 v) from if_pos (own_gt (z := 191) rfl (by omega))]
    rw [show (F2_43 v) = (F2_50 v) from if_neg (own_neq (z := 215) rfl (by omega))]
    rw [show (F2_50 v) = (F2_59 v) from if_neg (own_neq (z := 247) rfl (by omega))]
    rw [show (F2_59 v) = (F2_66 v) from if_neg (own_nlt (z := 768) rfl (by omega))]
    rw [show (F2_66 v) = (F2_75 v) from if_pos (own_gt (z := 879) rfl (by omega))]
    rw [show (F2_75 v) = (F2_84 v) from if_neg (own_neq (z := 894) rfl (by omega))]
    rw [show (F2_84 v) = (F2_91 v) from if_neg (own_nlt (z := 8192) rfl (by omega))]
    rw [show (F2_91 v) = (F2_100 v) from if_pos (own_gt (z := 8203) rfl (by omega))]
    rw [show (F2_100 v) = (F2_107 v) from if_neg (own_nlt (z := 8206) rfl (by omega))]
    rw [show (F2_107 v) = (F2_116 v) from if_pos (own_gt (z := 8303) rfl (by omega))]
    rw [show (F2_116 v) = (F2_123 v) from if_neg (own_nlt (z := 8592) rfl (by omega))]
    rw [show (F2_123 v) = (F2_132 v) from if_pos (own_gt (z := 11263) rfl (by omega))]
    rw [show (F2_132 v) = (F2_139 v) from if_neg (own_nlt (z := 12272) rfl (by omega))]
    rw [show (F2_139 v) = (F2_148 v) from if_pos (own_gt (z := 12288) rfl (by omega))]
    rw [show (F2_148 v) = (F2_154 v) from if_neg (own_nlt (z := 55296) rfl (by omega))]
    rw [show (F2_154 v) = F2_160 from if_neg (own_ngt (z := 63743) rfl (by omega))]
    rfl
theorem own_same_23 (v : Int32) (h1 : 63744 ≤ v.toInt) (h2 : v.toInt ≤ 64975) : (F1_0 v) = (1 : Int32) ∧ (F2_0 v) = (1 : Int32) := by
  refine ⟨?_, ?_⟩
  · rw [show (F1_0 v) = (F1_6 v) from if_neg (own_nlt (z := 65) rfl (by omega))]
    rw [show (F1_6 v) = (F1_12 v) from if_pos (own_gt (z := 90) rfl (by omega))]
    rw [show (F1_12 v) = (F1_18 v) from if_neg (own_nlt (z := 97) rfl (by omega))]
    rw [show (F1_18 v) = (F1_24 v) from if_pos (own_gt (z := 122) rfl (by omega))]
    rw [show (F1_24 v) = (F1_31 v) from if_neg (own_nlt (z := 192) rfl (by omega))]
    rw [show (F1_31 v) = (F1_38 v) from if_pos (own_gt (z := 214) rfl (by omega))]
    rw [show (F1_38 v) = (F1_45 v) from if_neg (own_nlt (z := 216) rfl (by omega))]
    rw [show (F1_45 v) = (F1_52 v) from if_pos (own_gt (z := 246) rfl (by omega))]
    rw [show (F1_52 v) = (F1_59 v) from if_neg (own_nlt (z := 248) rfl (by omega))]
    rw [show (F1_59 v) = (F1_66 v) from if_pos (own_gt (z := 767) rfl (by omega))]
    rw [show (F1_66 v) = (F1_73 v) from if_neg (own_nlt (z := 880) rfl (by omega))]
    rw [show (F1_73 v) = (F1_80 v) from if_pos (own_gt (z := 893) rfl (by omega))]
    rw [show (F1_80 v) = (F1_87 v) from if_neg (own_nlt (z := 895) rfl (by omega))]
    rw [show (F1_87 v) = (F1_94 v) from if_pos (own_gt (z := 8191) rfl (by omega))]
    rw [show (F1_94 v) = (F1_101 v) from if_neg (own_nlt (z := 8204) rfl (by omega))]
    rw [show (F1_101 v) = (F1_108 v) from if_pos (own_gt (z := 8205) rfl (by omega))]
    rw [show (F1_108 v) = (F1_115 v) from if_neg (own_nlt (z := 8304) rfl (by omega))]
    rw [show (F1_115 v) = (F1_122 v) from if_pos (own_gt (z := 8591) rfl (by omega))]
    rw [show (F1_122 v) = (F1_129 v) from if_neg (own_nlt (z := 11264) rfl (by omega))]
    rw [show (F1_129 v) = (F1_136 v) from if_pos (own_gt (z := 12271) rfl (by omega))]
    rw [show (F1_136 v) = (F1_143 v) from if_neg (own_nlt (z := 12289) rfl (by omega))]
    rw [show (F1_143 v) = (F1_150 v) from if_pos (own_gt (z := 55295) rfl (by omega))]
    rw [show (F1_150 v) = (F1_157 v) from if_neg (own_nlt (z := 63744) rfl (by omega))]
    rw [show (F1_157 v) = F1_192 from if_neg (own_ngt (z := 64975) rfl (by omega))]
    rfl
  · rw [show (F2_0 v) = (F2_6 v) from if_neg (own_nlt (z := 65) rfl (by omega))]
    rw [show (F2_6 v) = (F2_14 v) from if_neg (own_ngt (z := 983039) rfl (by omega))]
    rw [show (F2_14 v) = (F2_20 v) from if_neg (own_nlt (z := 91) rfl (by omega))]
    rw [show (F2_20 v) = (F2_28 v) from if_pos (own_gt (z := 96) rfl (by omega))]
    rw [show (F2_28 v) = (F2_34 v) from if_neg (own_nlt (z := 123) rfl (by omega))]
    rw [show (F2_34 v) = (F2_43 v) from if_pos (own_gt (z := 191) rfl (by omega))]
    rw [show (F2_43 v) = (F2_50 v) from if_neg (own_neq (z := 215) rfl (by omega))]
    rw [show (F2_50 v) = (F2_59 v) from if_neg (own_neq (z := 247) rfl (by omega))]
    rw [show (F2_59 v) = (F2_66 v) from if_neg (own_nlt (z := 768) rfl (by omega))]
    rw [show (F2_66 v) = (F2_75 v) from if_pos (own_gt (z := 879) rfl (by omega))]
    rw [show (F2_75 v) = (F2_84 v) from if_neg (own_neq (z := 894) rfl (by omega))]
    rw [show (F2_84 v) = (F2_91 v) from if_neg (own_nlt (z := 8192) rfl (by omega))]
    rw [show (F2_91 v) = (F2_100 v) from if_pos (own_gt (z := 8203) rfl (by omega))]
    rw [show (F2_100 v) = (F2_107 v) from if_neg (own_nlt (z := 8206) rfl (by omega))]
    rw [show (F2_107 v) = (F2_116 v) from if_pos (own_gt (z := 8303) rfl (by omega))]
    rw [show (F2_116 v) = (F2_123 v) from if_neg (own_nlt (z := 8592) rfl (by omega))]
    rw [show (F2_123 v) = (F2_132 v) from if_pos (own_gt (z := 11263) rfl (by omega))]
    rw [show (F2_132 v) = (F2_139 v) from if_neg (own_nlt (z := 12272) rfl (by omega))]
    rw [show (F2_139 v) = (F2_148 v) from if_pos (own_gt (z := 12288) rfl (by omega))]
    rw [show (F2_148 v) = (F2_154 v) from if_neg (own_nlt (z := 55296) rfl (by omega))]
    rw [show (F2_154 v) = (F2_162 v) from if_pos (own_gt (z := 63743) rfl (by omega))]
    rw [show (F2_162 v) = (F2_176 v) from if_pos (own_lt (z := 64976) rfl (by omega))]
    rw [show (F2_176 v) = F2_190 from if_pos (own_lt (z := 65534) rfl (by omega))]
    rfl
theorem own_same_24 (v : Int32) (h1 : 64976 ≤ v.toInt) (h2 : v.toInt ≤ 65007) : (F1_0 v) = (0 : Int32) ∧ (F2_0 v) = (0 : Int32) := by
  refine ⟨?_, ?_⟩
  · rw [show (F1_0 v) = (F1_6 v) from if_neg (own_nlt (z := 65) rfl (by omega))]
    rw [show (F1_6 v) = (F1_12 v) from if_pos (own_gt (z := 90) rfl (by omega))]
    rw [show (F1_12 v) = (F1_18 v) from if_neg (own_nlt (z := 97) rfl (by omega))]
    rw [show (F1_18 v) = (F1_24 v) from if_pos (own_gt (z := 122) rfl (by omega))]
    rw [show (F1_24 v) = (F1_31 v) from if_neg (own_nlt (z := 192) rfl (by omega))]
    rw [show (F1_31 v) = (F1_38 v) from if_pos (own_gt (z := 214) rfl (by omega))]
    rw [show (F1_38 v) = (F1_45 v) from if_neg (own_nlt (z := 216) rfl (by omega))]
    rw [show (F1_45 v) = (F1_52 v) from if_pos (own_gt (z := 246) rfl (by omega))]
    rw [show (F1_52 v) = (F1_59 v) from if_neg (own_nlt (z := 248) rfl (by omega))]
    rw [show (F1_59 v) = (F1_66 v) from if_pos (own_gt (z := 767) rfl (by omega))]
    rw [show (F1_66 v) = (F1_73 v) from if_neg (own_nlt (z := 880) rfl (by omega))]
    rw [show (F1_73 v) = (F1_80 v) from if_pos (own_gt (z := 893) rfl (by omega))]
    rw [show (F1_80 v) = (F1_87 v) from if_neg (own_nlt (z := 895) rfl (by omega))]
    rw [show (F1_87 v) = (F1_94 v) from if_pos (own_gt (z := 8191) rfl (by omega))]
    rw [show (F1_94 v) = (F1_101 v) from if_neg (own_nlt (z := 8204) rfl (by omega))]
    rw [show (F1_101 v) = (F1_108 v) from if_pos (own_gt (z := 8205) rfl (by omega))]
    rw [show (F1_108 v) = (F1_115 v) from if_neg (own_nlt (z := 8304) rfl (by omega))]
    rw [show (F1_115 v) = (F1_122 v) from if_pos (own_gt (z := 8591) rfl (by omega))]
    rw [show (F1_122 v) = (F1_129 v) from if_neg (own_nlt (z := 11264) rfl (by omega))]
    rw [show (F1_129 v) = (F1_136 v) from if_pos (own_gt (z := 12271) rfl (by omega))]
    rw [show (F1_136 v) = (F1_143 v) from if_neg (own_nlt (z := 12289) rfl (by omega))]
    rw [show (F1_143 v) = (F1_150 v) from if_pos (own_gt (z := 55295) rfl (by omega))]
    rw [show (F1_150 v) = (F1_157 v) from if_neg (own_nlt (z := 63744) rfl (by omega))]
    rw [show (F1_157 v) = (F1_164 v) from if_pos (own_gt (z := 64975) rfl (by omega))]
    rw [show (F1_164 v) = (F1_178 v) from if_pos (own_lt (z := 65008) rfl (by omega))]
    rw [show (F1_178 v) = F1_196 from if_pos (own_lt (z := 65536) rfl (by omega))]
    rfl
  · rw [show (F2_0 v) = (F2_6 v) from if_neg (own_nlt (z := 65) rfl (by omega))]
    rw [show (F2_6 v) = (F2_14 v) from if_neg (own_ngt (z := 983039) rfl (by omega))]
    rw [show (F2_14 v) = (F2_20 v) from if_neg (own_nlt (z := 91) rfl (by omega))]
    rw [show (F2_20 v) = (F2_28 v) from if_pos (own_gt (z := 96) rfl (by omega))]
    rw [show (F2_28 v) = (F2_34 v) from if_neg (own_nlt (z := 123) rfl (by omega))]
    rw [show (F2_34 v) = (F2_43 v) from if_pos (own_gt (z := 191) rfl (by omega))]
    rw [show (F2_43 v) = (F2_50 v) from if_neg (own_neq (z := 215) rfl (by omega))]
    rw [show (F2_50 v) = (F2_59 v) from if_neg (own_neq (z := 247) rfl (by omega))]
    rw [show (F2_59 v) = (F2_66 v) from if_neg (own_nlt (z := 768) rfl (by omega))]
    rw [show (F2_66 v) = (F2_75 v) from if_pos (own_gt (z := 879) rfl (by omega))]
    rw [show (F2_75 v) = (F2_84 v) from if_neg (own_neq (z := 894) rfl (by omega))]
    rw [show (F2_84 v) = (F2_91 v) from if_neg (own_nlt (z := 8192) rfl (by omega))]
    rw [show (F2_91 v) = (F2_100 v) from if_pos (own_gt (z := 8203) rfl (by omega))]
    rw [show (F2_100 v) = (F2_107 v) from if_neg (own_nlt (z := 8206) rfl (by omega))]
    rw [show (F2_107 v) = (F2_116 v) from if_pos (own_gt (z := 8303) rfl (by omega))]
    rw [show (F2_116 v) = (F2_123 v) from if_neg (own_nlt (z := 8592) rfl (by omega))]
    rw [show (F2_123 v) = (F2_132 v) from if_pos (own_gt (z := 11263) rfl (by omega))]
    rw [show (F2_132 v) = (F2_139 v) from if_neg (own_nlt (z := 12272) rfl (by omega))]
    rw [show (F2_139 v) = (F2_148 v) from if_pos (own_gt (z := 12288) rfl (by omega))]
    rw [show (F2_148 v) = (F2_154 v) from if_neg (own_nlt (z := 55296) rfl (by omega))]
    rw [show (F2_154 v) = (F2_162 v) from if_pos (own_gt (z := 63743) rfl (by omega))]
    rw [show (F2_162 v) = (F2_168 v) from if_neg (own_nlt (z := 64976) rfl (by omega))]
    rw [show (F2_168 v) = F2_174 from if_neg (own_ngt (z := 65007) rfl (by omega))]
    rfl
theorem own_same_25 (v : Int32) (h1 : 65008 ≤ v.toInt) (h2 : v.toInt ≤ 65533) : (F1_0 v) = (1 : Int32) ∧ (F2_0 v) = (1 : Int32) := by
  refine ⟨?_, ?_⟩
  · rw [show (F1_0 v) = (F1_6 v) from if_neg (own_nlt (z := 65) rfl (by omega))]
    rw [show (F1_6 v) = (F1_12 v) from if_pos (own_gt (z := 90) rfl (by omega))]
    rw [show (F1_12 v) = (F1_18 v) from if_neg (own_nlt (z := 97) rfl (by omega))]
    rw [show (F1_18 v) = (F1_24 v) from if_pos (own_gt (z := 122) rfl (by omega))]
    rw [show (F1_24 v) = (F1_31 v) from if_neg (own_nlt (z := 192) rfl (by omega))]
    rw [show (F1_31 v) = (F1_38 v) from if_pos (own_gt (z := 214) rfl (by omega))]
    rw [show (F1_38 v) = (F1_45 v) from if_neg (own_nlt (z := 216) rfl (by omega))]
    rw [show (F1_45 v) = (F1_52 v) from if_pos (own_gt (z := 246) rfl (by omega))]
    rw [show (F1_52 v) = (F1_59 v) from if_neg (own_nlt (z := 248) rfl (by omega))]
    rw [show (F1_59 v) = (F1_66 v) from if_pos (own_gt (z := 767) rfl (by omega))]
    rw [show (F1_66 v) = (F1_73 v) from if_neg (own_nlt (z := 880) rfl (by omega))]
    rw [show (F1_73 v) = (F1_80 v) from if_pos (own_gt (z := 893) rfl (by omega))]
    rw [show (F1_80 v) = (F1_87 v) from if_neg (own_nlt (z := 895) rfl (by omega))]
    rw [show (F1_87 v) = (F1_94 v) from if_pos (own_gt (z := 8191) rfl (by omega))]
    rw [show (F1_94 v) = (F1_101 v) from if_neg (own_nlt (z := 8204) rfl (by omega))]
    rw [show (F1_101 v) = (F1_108 v) from if_pos (own_gt (z := 8205) rfl (by omega))]
    rw [show (F1_108 v) = (F1_115 v) from if_neg (own_nlt (z := 8304) rfl (by omega))]
    rw [show (F1_115 v) = (F1_122 v) from if_pos (own_gt (z := 8591) rfl (by omega))]
    rw [show (F1_122 v) = (F1_129 v) from if_neg (own_nlt (z := 11264) rfl (by omega))]
    rw [show (F1_129 v) = (F1_136 v) from if_pos (own_gt (z := 12271) rfl (by omega))]
    rw [show (F1_136 v) = (F1_143 v) from if_neg (own_nlt (z := 12289) rfl (by omega))]
    rw [show (F1_143 v) = (F1_150 v) from if_pos (own_gt (z := 55295) rfl (by omega))]
    rw [show (F1_150 v) = (F1_157 v) from if_neg (own_nlt (z := 63744) rfl (by omega))]
    rw [show (F1_157 v) = (F1_164 v) from if_pos (own_gt (z := 64975) rfl (by omega))]
    rw [show (F1_164 v) = (F1_171 v) from if_neg (own_nlt (z := 65008) rfl (by omega))]
    rw [show (F1_171 v) = F1_192 from if_neg (own_ngt (z := 65533) rfl (by omega))]
    rfl
  · rw [show (F2_0 v) = (F2_6 v) from if_neg (own_nlt (z := 65) rfl (by omega))]
    rw [show (F2_6 v) = (F2_14 v) from if_neg (own_ngt (z := 983039) rfl (by omega))]
    rw [show (F2_14 v) = (F2_20 v) from if_neg (own_nlt (z := 91) rfl (by omega))]
    rw [show (F2_20 v) = (F2_28 v) from if_pos (own_gt (z := 96) rfl (by omega))]
    rw [show (F2_28 v) = (F2_34 v) from if_neg (own_nlt (z := 123) rfl (by omega))]
    rw [show (F2_34 v) = (F2_43 v) from if_pos (own_gt (z := 191) rfl (by omega))]
    rw [show (F2_43 v) = (F2_50 v) from if_neg (own_neq (z := 215) rfl (by omega))]
    rw [show (F2_50 v) = (F2_59 v) from if_neg (own_neq (z := 247) rfl (by omega))]
    rw [show (F2_59 v) = (F2_66 v) from if_neg (own_nlt (z := 768) rfl (by omega))]
    rw [show (F2_66 v) = (F2_75 v) from if_pos (own_gt (z := 879) rfl (by omega))]
    rw [show (F2_75 v) = (F2_84 v) from if_neg (own_neq (z := 894) rfl (by omega))]
    rw [show (F2_84 v) = (F2_91 v) from if_neg (own_nlt (z := 8192) rfl (by omega))]
    rw [show (F2_91 v) = (F2_100 v) from if_pos (own_gt (z := 8203) rfl (by omega))]
    rw [show (F2_100 v) = (F2_107 v) from if_neg (own_nlt (z := 8206) rfl (by omega))]
    rw [show (F2_107 v) = (F2_116 v) from if_pos (own_gt (z := 8303) rfl (by omega))]
    rw [show (F2_116 v) = (F2_123 v) from if_neg (own_nlt (z := 8592) rfl (by omega))]
    rw [show (F2_123 v) = (F2_132 v) from if_pos (own_gt (z := 11263) rfl (by omega))]
    rw [show (F2_132 v) = (F2_139 v) from if_neg (own_nlt (z := 12272) rfl (by omega))]
    rw [show (F2_139 v) = (F2_148 v) from if_pos (own_gt (z := 12288) rfl (by omega))]
    rw [show (F2_148 v) = (F2_154 v) from if_neg (own_nlt (z := 55296) rfl (by omega))]
    rw [show (F2_154 v) = (F2_162 v) from if_pos (own_gt (z := 63743) rfl (by omega))]
    rw [show (F2_162 v) = (F2_168 v) from if_neg (own_nlt (z := 64976) rfl (by omega))]
    rw [show (F2_168 v) = (F2_176 v) from if_pos (own_gt (z := 65007) rfl (by omega))]
    rw [show (F2_176 v) = F2_190 from if_pos (own_lt (z := 65534) rfl (by omega))]
    rfl
theorem own_same_26 (v : Int32) (h1 : 65534 ≤ v.toInt) (h2 : v.toInt ≤ 65535) : (F1_0 v) = (0 : Int32) ∧ (F2_0 v) = (0 : Int32) := by
  refine ⟨?_, ?_⟩
  · rw [show (F1_0 v) = (F1_6 v) from if_neg (own_nlt (z := 65) rfl (by omega))]
    rw [show (F1_6 v) = (F1_12 v) from if_pos (own_gt (z := 90) rfl (by omega))]
    rw [show (F1_12 v) = (F1_18 v) from if_neg (own_nlt (z := 97) rfl (by omega))]
    rw [show (F1_18 v) = (F1_24 v) from if_pos (own_gt (z := 122) rfl (by omega))]
    rw [show (F1_24 v) = (F1_31 v) from if_neg (own_nlt (z := 192) rfl (by omega))]
    rw [show (F1_31 v) = (F1_38 v) from if_pos (own_gt (z := 214) rfl (by omega))]
    rw [show (F1_38 v) = (F1_45 v) from if_neg (own_nlt (z := 216) rfl (by omega))]
    rw [show (F1_45 v) = (F1_52 v) from if_pos (own_gt (z := 246) rfl (by omega))]
    rw [show (F1_52 v) = (F1_59 v) from if_neg (own_nlt (z := 248) rfl (by omega))]
    rw [show (F1_59 v) = (F1_66 v) from if_pos (own_gt (z := 767) rfl (by omega))]
    rw [show (F1_66 v) = (F1_73 v) from if_neg (own_nlt (z := 880) rfl (by omega))]
    rw [show (F1_73 v) = (F1_80 v) from if_pos (own_gt (z := 893) rfl (by omega))]
    rw [show (F1_80 v) = (F1_87 v) from if_neg (own_nlt (z := 895) rfl (by omega))]
    rw [show (F1_87 v) = (F1_94 v) from if_pos (own_gt (z := 8191) rfl (by omega))]
    rw [show (F1_94 v) = (F1_101 v) from if_neg (own_nlt (z := 8204) rfl (by omega))]
    rw [show (F1_101 v) = (F1_108 v) from if_pos (own_gt (z := 8205) rfl (by omega))]
    rw [show (F1_108 v) = (F1_115 v) from if_neg (own_nlt (z := 8304) rfl (by omega))]
    rw [show (F1_115 v) = (F1_122 v) from if_pos (own_gt (z := 8591) rfl (by omega))]
    rw [show (F1_122 v) = (F1_129 v) from if_neg (own_nlt (z := 11264) rfl (by omega))]
    rw [show (F1_129 v) = (F1_136 v) from if_pos (own_gt (z := 12271) rfl (by omega))]
    rw [show (F1_136 v) = (F1_143 v) from if_neg (own_nlt (z := 12289) rfl (by omega))]
    rw [show (F1_143 v) = (F1_150 v) from if_pos (own_gt (z := 55295) rfl (by omega))]
    rw [show (F1_150 v) = (F1_157 v) from if_neg (own_nlt (z := 63744) rfl (by omega))]
    rw [show (F1_157 v) = (F1_164 v) from if_pos (own_gt (z := 64975) rfl (by omega))]
    rw [show (F1_164 v) = (F1_171 v) from if_neg (own_nlt (z := 65008) rfl (by omega))]
    rw [show (F1_171 v) = (F1_178 v) from if_pos (own_gt (z := 65533) rfl (by omega))]
    rw [show (F1_178 v) = F1_196 from if_pos (own_lt (z := 65536) rfl (by omega))]
    rfl
  · rw [show (F2_0 v) = (F2_6 v) from if_neg (own_nlt (z := 65) rfl (by omega))]
    rw [show (F2_6 v) = (F2_14 v) from if_neg (own_ngt (z := 983039) rfl (by omega))]
    rw [show (F2_14 v) = (F2_20 v) from if_neg (own_nlt (z := 91) rfl (by omega))]
    rw [show (F2_20 v) = (F2_28 v) from if_pos (own_gt (z := 96) rfl (by omega))]
    rw [show (F2_28 v) = (F2_34 v) from if_neg (own_nlt (z := 123) rfl (by omega))]
    rw [show (F2_34 v) = (F2_43 v) from if_pos (own_gt (z := 191) rfl (by omega))]
    rw [show (F2_43 v) = (F2_50 v) from if_neg (own_neq (z := 215) rfl (by omega))]
    rw [show (F2_50 v) = (F2_59 v) from if_neg (own_neq (z := 247) rfl (by omega))]
    rw [show (F2_59 v) = (F2_66 v) from if_neg (own_nlt (z := 768) rfl (by omega))]
    rw [show (F2_66 v) = (F2_75 v) from if_pos (own_gt (z := 879) rfl (by omega))]
    rw [show (F2_75 v) = (F2_84 v) from if_neg (own_neq (z := 894) rfl (by omega))]
    rw [show (F2_84 v) = (F2_91 v) from if_neg (own_nlt (z := 8192) rfl (by omega))]
    rw [show (F2_91 v) = (F2_100 v) from if_pos (own_gt (z := 8203) rfl (by omega))]
    rw [show (F2_100 v) = (F2_107 v) from if_neg (own_nlt (z := 8206) rfl (by omega))]
    rw [show (F2_107 v) = (F2_116 v) from if_pos (own_gt (z := 8303) rfl (by omega))]
    rw [show (F2_116 v) = (F2_123 v) from if_neg (own_nlt (z := 8592) rfl (by omega))]
    rw [show (F2_123 v) = (F2_132 v) from if_pos (own_gt (z := 11263) rfl (by omega))]
    rw [show (F2_132 v) = (F2_139 v) from if_neg (own_nlt (z := 12272) rfl (by omega))]
    rw [show (F2_139 v) = (F2_148 v) from if_pos (own_gt (z := 12288) rfl (by omega))]
    rw [show (F2_148 v) = (F2_154 v) from if_neg (own_nlt (z := 55296) rfl (by omega))]
    rw [show (F2_154 v) = (F2_162 v) from if_pos (own_gt (z := 63743) rfl (by omega))]
    rw [show (F2_162 v) = (F2_168 v) from if_neg (own_nlt (z := 64976) rfl (by omega))]
    rw [show (F2_168 v) = (F2_176 v) from if_pos (own_gt (z := 65007) rfl (by omega))]
    rw [show (F2_176 v) = (F2_182 v) from if_neg (own_nlt (z := 65534) rfl (by omega))]
    rw [show (F2_182 v) = F2_188 from if_neg (own_ngt (z := 65535) rfl (by omega))]
    rfl
theorem own_same_27 (v : Int32) (h1 : 65536 ≤ v.toInt) (h2 : v.toInt ≤ 983039) : (F1_0 v) = (1 : Int32) ∧ (F2_0 v) = (1 : Int32) := by
  refine ⟨?_, ?_⟩
  · rw [show (F1_0 v) = (F1_6 v) from if_neg (own_nlt (z := 65) rfl (by omega))]
    rw [show (F1_6 v) = (F1_12 v) from if_pos (own_gt (z := 90) rfl (by omega))]
    rw [show (F1_12 v) = (F1_18 v) from if_neg (own_nlt (z := 97) rfl (by omega))]
    rw [show (F1_18 v) = (F1_24 v) from if_pos (own_gt (z := 122) rfl (by omega))]
    rw [show (F1_24 v) = (F1_31 v) from if_neg (own_nlt (z := 192) rfl (by omega))]
    rw [show (F1_31 v) = (F1_38 v) from if_pos (own_gt (z := 214) rfl (by omega))]
    rw [show (F1_38 v) = (F1_45 v) from if_neg (own_nlt (z := 216) rfl (by omega))]
    rw [show (F1_45 v) = (F1_52 v) from if_pos (own_gt (z := 246) rfl (by omega))]
    rw [show (F1_52 v) = (F1_59 v) from if_neg (own_nlt (z := 248) rfl (by omega))]
    rw [show (F1_59 v) = (F1_66 v) from if_pos (own_gt (z := 767) rfl (by omega))]
    rw [show (F1_66 v) = (F1_73 v) from if_neg (own_nlt (z := 880) rfl (by omega))]
    rw [show (F1_73 v) = (F1_80 v) from if_pos (own_gt (z := 893) rfl (by omega))]
    rw [show (F1_80 v) = (F1_87 v) from if_neg (own_nlt (z := 895) rfl (by omega))]
    rw [show (F1_87 v) = (F1_94 v) from if_pos (own_gt (z := 8191) rfl (by omega))]
    rw [show (F1_94 v) = (F1_101 v) from if_neg (own_nlt (z := 8204) rfl (by omega))]
    rw [show (F1_101 v) = (F1_108 v) from if_pos (own_gt (z := 8205) rfl (by omega))]
    rw [show (F1_108 v) = (F1_115 v) from if_neg (own_nlt (z := 8304) rfl (by omega))]
    rw [show (F1_115 v) = (F1_122 v) from if_pos (own_gt (z := 8591) rfl (by omega))]
    rw [show (F1_122 v) = (F1_129 v) from if_neg (own_nlt (z := 11264) rfl (by omega))]
    rw [show (F1_129 v) = (F1_136 v) from if_pos (own_gt (z := 12271) rfl (by omega))]
    rw [show (F1_136 v) = (F1_143 v) from if_neg (own_nlt (z := 12289) rfl (by omega))]
    rw [show (F1_143 v) = (F1_150 v) from if_pos (own_gt (z := 55295) rfl (by omega))]
    rw [show (F1_150 v) = (F1_157 v) from if_neg (own_nlt (z := 63744) rfl (by omega))]
    rw [show (F1_157 v) = (F1_164 v) from if_pos (own_gt (z := 64975) rfl (by omega))]
    rw [show (F1_164 v) = (F1_171 v) from if_neg (own_nlt (z := 65008) rfl (by omega))]
    rw [show (F1_171 v) = (F1_178 v) from if_pos (own_gt (z := 65533) rfl (by omega))]
    rw [show (F1_178 v) = (F1_185 v) from if_neg (own_nlt (z := 65536) rfl (by omega))]
    rw [show (F1_185 v) = F1_192 from if_neg (own_ngt (z := 983039) rfl (by omega))]
    rfl
  · rw [show (F2_0 v) = (F2_6 v) from if_neg (own_nlt (z := 65) rfl (by omega))]
    rw [show (F2_6 v) = (F2_14 v) from if_neg (own_ngt (z := 983039) rfl (by omega))]
    rw [show (F2_14 v) = (F2_20 v) from if_neg (own_nlt (z := 91) rfl (by omega))]
    rw [show (F2_20 v) = (F2_28 v) from if_pos (own_gt (z := 96) rfl (by omega))]
    rw [show (F2_28 v) = (F2_34 v) from if_neg (own_nlt (z := 123) rfl (by omega))]
    rw [show (F2_34 v) = (F2_43 v) from if_pos (own_gt (z := 191) rfl (by omega))]
    rw [show (F2_43 v) = (F2_50 v) from if_neg (own_neq (z := 215) rfl (by omega))]
    rw [show (F2_50 v) = (F2_59 v) from if_neg (own_neq (z := 247) rfl (by omega))]
    rw [show (F2_59 v) = (F2_66 v) from if_neg (own_nlt (z := 768) rfl (by omega))]
    rw [show (F2_66 v) = (F2_75 v) from if_pos (own_gt (z := 879) rfl (by omega))]
    rw [show (F2_75 v) = (F2_84 v) from if_neg (own_neq (z := 894) rfl (by omega))]
    rw [show (F2_84 v) = (F2_91 v) from if_neg (own_nlt (z := 8192) rfl (by omega))]
    rw [show (F2_91 v) = (F2_100 v) from if_pos (own_gt (z := 8203) rfl (by omega))]
    rw [show (F2_100 v) = (F2_107 v) from if_neg (own_nlt (z := 8206) rfl (by omega))]
    rw [show (F2_107 v) = (F2_116 v) from if_pos (own_gt (z := 8303) rfl (by omega))]
    rw [show (F2_116 v) = (F2_123 v) from if_neg (own_nlt (z := 8592) rfl (by omega))]
    rw [show (F2_123 v) = (F2_132 v) from if_pos (own_gt (z := 11263) rfl (by omega))]
    rw [show (F2_132 v) = (F2_139 v) from if_neg (own_nlt (z := 12272) rfl (by omega))]
    rw [show (F2_139 v) = (F2_148 v) from if_pos (own_gt (z := 12288) rfl (by omega))]
    rw [show (F2_148 v) = (F2_154 v) from if_neg (own_nlt (z := 55296) rfl (by omega))]
    rw [show (F2_154 v) = (F2_162 v) from if_pos (own_gt (z := 63743) rfl (by omega))]
    rw [show (F2_162 v) = (F2_168 v) from if_neg (own_nlt (z := 64976) rfl (by omega))]
    rw [show (F2_168 v) = (F2_176 v) from if_pos (own_gt (z := 65007) rfl (by omega))]
    rw [show (F2_176 v) = (F2_182 v) from if_neg (own_nlt (z := 65534) rfl (by omega))]
    rw [show (F2_182 v) = F2_190 from if_pos (own_gt (z := 65535) rfl (by omega))]
    rfl
theorem own_same_28 (v : Int32) (h1 : 983040 ≤ v.toInt) (h2 : v.toInt ≤ 2147483647) : (F1_0 v) = (0 : Int32) ∧ (F2_0 v) = (0 : Int32) := by
  refine ⟨?_, ?_⟩
  · rw [show (F1_0 v) = (F1_6 v) from if_neg (own_nlt (z := 65) rfl (by omega))]
    rw [show (F1_6 v) = (F1_12 v) from if_pos (own_gt (z := 90) rfl (by omega))]
    rw [show (F1_12 v) = (F1_18 v) from if_neg (own_nlt (z := 97) rfl (by omega))]
    rw [show (F1_18 v) = (F1_24 v) from if_pos (own_gt (z := 122) rfl (by omega))]
    rw [show (F1_24 v) = (F1_31 v) from if_neg (own_nlt (z := 192) rfl (by omega))]
    rw [show (F1_31 v) = (F1_38 v) from if_pos (own_gt (z := 214) rfl (by omega))]
    rw [show (F1_38 v) = (F1_45 v) from if_neg (own_nlt (z := 216) rfl (by omega))]
    rw [show (F1_45 v) = (F1_52 v) from if_pos (own_gt (z := 246) rfl (by omega))]
    rw [show (F1_52 v) = (F1_59 v) from if_neg (own_nlt (z := 248) rfl (by omega))]
    rw [show (F1_59 v) = (F1_66 v) from if_pos (own_gt (z := 767) rfl (by omega))]
    rw [show (F1_66 v) = (F1_73 v) from if_neg (own_nlt (z := 880) rfl (by omega))]
    rw [show (F1_73 v) = (F1_80 v) from if_pos (own_gt (z := 893) rfl (by omega))]
    rw [show (F1_80 v) = (F1_87 v) from if_neg (own_nlt (z := 895) rfl (by omega))]
    rw [show (F1_87 v) = (F1_94 v) from if_pos (own_gt (z := 8191) rfl (by omega))]
    rw [show (F1_94 v) = (F1_101 v) from if_neg (own_nlt (z := 8204) rfl (by omega))]
    rw [show (F1_101 v) = (F1_108 v) from if_pos (own_gt (z := 8205) rfl (by omega))]
    rw [show (F1_108 v) = (F1_115 v) from if_neg (own_nlt (z := 8304) rfl (by omega))]
    rw [show (F1_115 v) = (F1_122 v) from if_pos (own_gt (z := 8591) rfl (by omega))]
    rw [show (F1_122 v) = (F1_129 v) from if_neg (own_nlt (z := 11264) rfl (by omega))]
    rw [show (F1_129 v) = (F1_136 v) from if_pos (own_gt (z := 12271) rfl (by omega))]
    rw [show (F1_136 v) = (F1_143 v) from if_neg (own_nlt (z := 12289) rfl (by omega))]
    rw [show (F1_143 v) = (F1_150 v) from if_pos (own_gt (z := 55295) rfl (by omega))]
    rw [show (F1_150 v) = (F1_157 v) from if_neg (own_nlt (z := 63744) rfl (by omega))]
    rw [show (F1_157 v) = (F1_164 v) from if_pos (own_gt (z := 64975) rfl (by omega))]
    rw [show (F1_164 v) = (F1_171 v) from if_neg (own_nlt (z := 65008) rfl (by omega))]
    rw [show (F1_171 v) = (F1_178 v) from if_pos (own_gt (z := 65533) rfl (by omega))]
    rw [show (F1_178 v) = (F1_185 v) from if_neg (own_nlt (z := 65536) rfl (by omega))]
    rw [show (F1_185 v) = F1_196 from if_pos (own_gt (z := 983039) rfl (by omega))]
    rfl
  · rw [show (F2_0 v) = (F2_6 v) from if_neg (own_nlt (z := 65) rfl (by omega))]
    rw [show (F2_6 v) = F2_12 from if_pos (own_gt (z := 983039) rfl (by omega))]
    rfl
theorem own_same (v : Int32) : F1_0 v = F2_0 v := by
  have hr := rng32 v
  by_cases c0 : v.toInt < 65
  · exact (own_same_0 v (by omega) (by omega)).1.trans (own_same_0 v (by omega) (by omega)).2.symm
  by_cases c1 : v.toInt < 91
  · exact (own_same_1 v (by omega) (by omega)).1.trans (own_same_1 v (by omega) (by omega)).2.symm
  by_cases c2 : v.toInt < 97
  · exact (own_same_2 v (by omega) (by omega)).1.trans (own_same_2 v (by omega) (by omega)).2.symm
  by_cases c3 : v.toInt < 123
  · exact (own_same_3 v (by omega) (by omega)).1.trans (own_same_3 v (by omega) (by omega)).2.symm
  by_cases c4 : v.toInt < 192
  · exact (own_same_4 v (by omega) (by omega)).1.trans (own_same_4 v (by omega) (by omega)).2.symm
  by_cases c5 : v.toInt < 215
  · exact (own_same_5 v (by omega) (by omega)).1.trans (own_same_5 v (by omega) (by omega)).2.symm
  by_cases c6 : v.toInt < 216
  · exact (own_same_6 v (by omega) (by omega)).1.trans (own_same_6 v (by omega) (by omega)).2.symm
  by_cases c7 : v.toInt < 247
  · exact (own_same_7 v (by omega) (by omega)).1.trans (own_same_7 v (by omega) (by omega)).2.symm
  by_cases c8 : v.toInt < 248
  · exact (own_same_8 v (by omega) (by omega)).1.trans (own_same_8 v (by omega) (by omega)).2.symm
  by_cases c9 : v.toInt < 768
  · exact (own_same_9 v (by omega) (by omega)).1.trans (own_same_9 v (by omega) (by omega)).2.symm
  by_cases c10 : v.toInt < 880
  · exact (own_same_10 v (by omega) (by omega)).1.trans (own_same_10 v (by omega) (by omega)).2.symm
  by_cases c11 : v.toInt < 894
  · exact (own_same_11 v (by omega) (by omega)).1.trans (own_same_11 v (by omega) (by omega)).2.symm
  by_cases c12 : v.toInt < 895
  · exact (own_same_12 v (by omega) (by omega)).1.trans (own_same_12 v (by omega) (by omega)).2.symm
  by_cases c13 : v.toInt < 8192
  · exact (own_same_13 v (by omega) (by omega)).1.trans (own_same_13 v (by omega) (by omega)).2.symm
  by_cases c14 : v.toInt < 8204
  · exact (own_same_14 v (by omega) (by omega)).1.trans (own_same_14 v (by omega) (by omega)).2.symm
  by_cases c15 : v.toInt < 8206
  · exact (own_same_15 v (by omega) (by omega)).1.trans (own_same_15 v (by omega) (by omega)).2.symm
  by_cases c16 : v.toInt < 8304
  · exact (own_same_16 v (by omega) (by omega)).1.trans (own_same_16 v (by omega) (by omega)).2.symm
  by_cases c17 : v.toInt < 8592
  · exact (own_same_17 v (by omega) (by omega)).1.trans (own_same_17 v (by omega) (by omega)).2.symm
  by_cases c18 : v.toInt < 11264
  · exact (own_same_18 v (by omega) (by omega)).1.trans (own_same_18 v (by omega) (by omega)).2.symm
  by_cases c19 : v.toInt < 12272
  · exact (own_same_19 v (by omega) (by omega)).1.trans (own_same_19 v (by omega) (by omega)).2.symm
  by_cases c20 : v.toInt < 12289
  · exact (own_same_20 v (by omega) (by omega)).1.trans (own_same_20 v (by omega) (by omega)).2.symm
  by_cases c21 : v.toInt < 55296
  · exact (own_same_21 v (by omega) (by omega)).1.trans (own_same_21 v (by omega) (by omega)).2.symm
  by_cases c22 : v.toInt < 63744
  · exact (own_same_22 v (by omega) (by omega)).1.trans (own_same_22 v (by omega) (by omega)).2.symm
  by_cases c23 : v.toInt < 64976
  · exact (own_same_23 v (by omega) (by omega)).1.trans (own_same_23 v (by omega) (by omega)).2.symm
  by_cases c24 : v.toInt < 65008
  · exact (own_same_24 v (by omega) (by omega)).1.trans (own_same_24 v (by omega) (by omega)).2.symm
  by_cases c25 : v.toInt < 65534
  · exact (own_same_25 v (by omega) (by omega)).1.trans (own_same_25 v (by omega) (by omega)).2.symm
  by_cases c26 : v.toInt < 65536
  · exact (own_same_26 v (by omega) (by omega)).1.trans (own_same_26 v (by omega) (by omega)).2.symm
  by_cases c27 : v.toInt < 983040
  · exact (own_same_27 v (by omega) (by omega)).1.trans (own_same_27 v (by omega) (by omega)).2.symm
  exact (own_same_28 v (by omega) (by omega)).1.trans (own_same_28 v (by omega) (by omega)).2.symm
theorem own_m31 (x : Int32) : 0 ≤ (x &&& (2147483647 : Int32)).toInt := by
  rw [c_mask x 2147483647 31 (by decide) (by decide)]; exact Int.emod_nonneg _ (by decide)
theorem own_idx (x y : Int32) (d : Nat) (hy : y.toInt = (d : Int)) (hd : 0 < d) : ¬ ((x &&& (2147483647 : Int32)) - ((x &&& (2147483647 : Int32)) / y) * y) < 0 ∧ ((x &&& (2147483647 : Int32)) - ((x &&& (2147483647 : Int32)) / y) * y).toNatClampNeg < d := by
  have e : ((x &&& (2147483647 : Int32)) - ((x &&& (2147483647 : Int32)) / y) * y).toInt = (x &&& (2147483647 : Int32)).toInt % (d : Int) := by
    rw [irem_eq_mod, (c_irem _ y d hy).1 (own_m31 x)]
  have q0 := Int.emod_nonneg (x &&& (2147483647 : Int32)).toInt (b := (d : Int)) (by omega)
  have q1 := Int.emod_lt_of_pos (x &&& (2147483647 : Int32)).toInt (b := (d : Int)) (by omega)
  generalize ((x &&& (2147483647 : Int32)) - ((x &&& (2147483647 : Int32)) / y) * y) = w at *
  have e0 : (0 : Int32).toInt = 0 := rfl
  refine ⟨by rw [Int32.lt_iff_toInt_lt]; omega, ?_⟩
  show w.toInt.toNat < d
  omega

theorem pn_0 : plainName "com/example/triplewright/triplewright/rdf/TextScannerIsPnCharsBasePinLaw" = true := by first | (simp [plainName, overriddenIn]; done) | decide +kernel
theorem ef_0 (m : MethodId) (p0 : Int32) (p1 : Int32) (p2 : Int32) : entryFrame m #[(.int p0), (.int p1), (.int p2)] maxLocals = mkF m 0 #[.val (.int p0), .val (.int p1), .val (.int p2), .unset, .unset, .unset, .unset, .unset, .unset, .unset] [] := by first | (simp [entryFrame, mkF, argsToLocals, Value.category, maxLocals]; done) | rfl
def Q_rm0 (Z : State) (p0 : Int32) (p1 : Int32) (p2 : Int32) (h0 : Heap) (n0 : Nat) (v : Option Value) (h : Heap) (L : List Loc) : Prop := (v = some (.int (1 : Int32)) ∧ Fr n0 L)
set_option maxRecDepth 65536 in
set_option maxHeartbeats 40000000 in
theorem rm0 (l : Launch) (Z : State) (a0 : Array Value) (hw : ∀ d ∈ tables_1, d.before a0 Z = true) (ws : List Jvm.Cond) (p0 : Int32) (p1 : Int32) (p2 : Int32) (h0 : Heap) (n0 : Nat) (Z0 : n0 ≤ h0.size) :
    MetFree l x (head1 (Jvm.Cond.code x code maxLocals ret :: ws) room_1) (fun a U => a = #[(.int p0), (.int p1), (.int p2)] ∧ Z.Warmed39 U.vm ∧ U.heap = h0) (fun _ _ _ _ _ => True) (fun _ U o U' => ∃ v L, o = .returned v ∧ Q_rm0 Z p0 p1 p2 h0 n0 v U'.heap L ∧ FrameEnd U o U' L room_1.cells room_1.slots) := by
  refine MetFree.of_bodySF (plainFor_of_name pn_0) hisR ?_
  intro p e s m args below meth c s₁ Bd hml0 hP hK
  obtain ⟨rfl, hZ, hh⟩ := hP
  have hx := Bd.exec
  have hby := Bd.bytes
  have hml : c.maxLocals = 10 := hml0
  have hown : s.vm.findClass "com/example/triplewright/triplewright/rdf/TextScannerIsPnCharsBasePinLaw" = some m.cls := findClass_of_methodNamed Bd.named
  have hnm := (name_of_methodNamed Bd.named Bd.method).1
  have X0 : Stand p l e room_1 s m #[(.int p0), (.int p1), (.int p2)] below meth c s₁ [] 0 0 := Stand.of_body Bd
  have e0 : s₁.heap = h0 := by rw [← hh, Bd.state]; rfl
  have N0 := Fr.nil n0
  have pre0 : ∀ t, Steps p.tables e below (s₁.setTop (mkF m 0 #[.val (.int p0), .val (.int p1), .val (.int p2), .unset, .unset, .unset, .unset, .unset, .unset, .unset] [])) t → Steps p.tables e below (s₁.setTop (entryFrame m #[(.int p0), (.int p1), (.int p2)] maxLocals)) t := fun t k => castTop (ef_0 m p0 p1 p2) k
  obtain ⟨T1, h1, k1, X1, e1, E1, A1, st1⟩ := newP X0 hx hZ (hw _ (List.mem_of_getElem? (i := 0) rfl)) e0 (g := (mkF m 2 #[.val (.int p0), .val (.int p1), .val (.int p2), .unset, .unset, .unset, .unset, .unset, .unset, .unset] [(.int (28 : Int32))])) rfl (hb hby at_2) rfl (by decide) (cap := 28) (by decide) (by decide) (by decide) (by decide)
  obtain ⟨b1, g1⟩ : ∃ z, z = Array.size h0 := ⟨_, rfl⟩
  rw [← g1] at A1 st1
  have G1 : n0 ≤ b1 := Nat.le_trans Z0 (Nat.le_of_eq g1.symm)
  have V1 : IntArr Z T1.heap b1 28 := own_arr_new (by rw [e1]; exact Arv.new A1 (by decide)) (by decide)
  obtain ⟨T2, L2, X2, N2, V2, st2⟩ := own_arr_st X1 hx hZ V1 G1 N0 (g := (mkF m 8 #[.val (.int p0), .val (.int p1), .val (.int p2), .unset, .unset, .unset, .unset, .unset, .unset, .unset] [(.int (65 : Int32)), (.int (0 : Int32)), (.ref b1), (.ref b1)])) (by decide) (by decide) rfl rfl (hb hby at_8)
  obtain ⟨T3, L3, X3, N3, V3, st3⟩ := own_arr_st X2 hx hZ V2 G1 N2 (g := (mkF m 13 #[.val (.int p0), .val (.int p1), .val (.int p2), .unset, .unset, .unset, .unset, .unset, .unset, .unset] [(.int (90 : Int32)), (.int (1 : Int32)), (.ref b1), (.ref b1)])) (by decide) (by decide) rfl rfl (hb hby at_13)
  obtain ⟨T4, L4, X4, N4, V4, st4⟩ := own_arr_st X3 hx hZ V3 G1 N3 (g := (mkF m 18 #[.val (.int p0), .val (.int p1), .val (.int p2), .unset, .unset, .unset, .unset, .unset, .unset, .unset] [(.int (97 : Int32)), (.int (2 : Int32)), (.ref b1), (.ref b1)])) (by decide) (by decide) rfl rfl (hb hby at_18)
  obtain ⟨T5, L5, X5, N5, V5, st5⟩ := own_arr_st X4 hx hZ V4 G1 N4 (g := (mkF m 23 #[.val (.int p0), .val (.int p1), .val (.int p2), .unset, .unset, .unset, .unset, .unset, .unset, .unset] [(.int (122 : Int32)), (.int (3 : Int32)), (.ref b1), (.ref b1)])) (by decide) (by decide) rfl rfl (hb hby at_23)
  obtain ⟨T6, L6, X6, N6, V6, st6⟩ := own_arr_st X5 hx hZ V5 G1 N5 (g := (mkF m 29 #[.val (.int p0), .val (.int p1), .val (.int p2), .unset, .unset, .unset, .unset, .unset, .unset, .unset] [(.int (192 : Int32)), (.int (4 : Int32)), (.ref b1), (.ref b1)])) (by decide) (by decide) rfl rfl (hb hby at_29)
  obtain ⟨T7, L7, X7, N7, V7, st7⟩ := own_arr_st X6 hx hZ V6 G1 N6 (g := (mkF m 35 #[.val (.int p0), .val (.int p1), .val (.int p2), .unset, .unset, .unset, .unset, .unset, .unset, .unset] [(.int (214 : Int32)), (.int (5 : Int32)), (.ref b1), (.ref b1)])) (by decide) (by decide) rfl rfl (hb hby at_35)
  obtain ⟨T8, L8, X8, N8, V8, st8⟩ := own_arr_st X7 hx hZ V7 G1 N7 (g := (mkF m 42 #[.val (.int p0), .val (.int p1), .val (.int p2), .unset, .unset, .unset, .unset, .unset, .unset, .unset] [(.int (216 : Int32)), (.int (6 : Int32)), (.ref b1), (.ref b1)])) (by decide) (by decide) rfl rfl (hb hby at_42)
  obtain ⟨T9, L9, X9, N9, V9, st9⟩ := own_arr_st X8 hx hZ V8 G1 N8 (g := (mkF m 49 #[.val (.int p0), .val (.int p1), .val (.int p2), .unset, .unset, .unset, .unset, .unset, .unset, .unset] [(.int (246 : Int32)), (.int (7 : Int32)), (.ref b1), (.ref b1)])) (by decide) (by decide) rfl rfl (hb hby at_49)
  obtain ⟨T10, L10, X10, N10, V10, st10⟩ := own_arr_st X9 hx hZ V9 G1 N9 (g := (mkF m 56 #[.val (.int p0), .val (.int p1), .val (.int p2), .unset, .unset, .unset, .unset, .unset, .unset, .unset] [(.int (248 : Int32)), (.int (8 : Int32)), (.ref b1), (.ref b1)])) (by decide) (by decide) rfl rfl (hb hby at_56)
  obtain ⟨T11, L11, X11, N11, V11, st11⟩ := own_arr_st X10 hx hZ V10 G1 N10 (g := (mkF m 63 #[.val (.int p0), .val (.int p1), .val (.int p2), .unset, .unset, .unset, .unset, .unset, .unset, .unset] [(.int (767 : Int32)), (.int (9 : Int32)), (.ref b1), (.ref b1)])) (by decide) (by decide) rfl rfl (hb hby at_63)
  obtain ⟨T12, L12, X12, N12, V12, st12⟩ := own_arr_st X11 hx hZ V11 G1 N11 (g := (mkF m 70 #[.val (.int p0), .val (.int p1), .val (.int p2), .unset, .unset, .unset, .unset, .unset, .unset, .unset] [(.int (880 : Int32)), (.int (10 : Int32)), (.ref b1), (.ref b1)])) (by decide) (by decide) rfl rfl (hb hby at_70)
  obtain ⟨T13, L13, X13, N13, V13, st13⟩ := own_arr_st X12 hx hZ V12 G1 N12 (g := (mkF m 77 #[.val (.int p0), .val (.int p1), .val (.int p2), .unset, .unset, .unset, .unset, .unset, .unset, .unset] [(.int (893 : Int32)), (.int (11 : Int32)), (.ref b1), (.ref b1)])) (by decide) (by decide) rfl rfl (hb hby at_77)
  obtain ⟨T14, L14, X14, N14, V14, st14⟩ := own_arr_st X13 hx hZ V13 G1 N13 (g := (mkF m 84 #[.val (.int p0), .val (.int p1), .val (.int p2), .unset, .unset, .unset, .unset, .unset, .unset, .unset] [(.int (895 : Int32)), (.int (12 : Int32)), (.ref b1), (.ref b1)])) (by decide) (by decide) rfl rfl (hb hby at_84)
  obtain ⟨T15, L15, X15, N15, V15, st15⟩ := own_arr_st X14 hx hZ V14 G1 N14 (g := (mkF m 91 #[.val (.int p0), .val (.int p1), .val (.int p2), .unset, .unset, .unset, .unset, .unset, .unset, .unset] [(.int (8191 : Int32)), (.int (13 : Int32)), (.ref b1), (.ref b1)])) (by decide) (by decide) rfl rfl (hb hby at_91)
  obtain ⟨T16, L16, X16, N16, V16, st16⟩ := own_arr_st X15 hx hZ V15 G1 N15 (g := (mkF m 98 #[.val (.int p0), .val (.int p1), .val (.int p2), .unset, .unset, .unset, .unset, .unset, .unset, .unset] [(.int (8204 : Int32)), (.int (14 : Int32)), (.ref b1), (.ref b1)])) (by decide) (by decide) rfl rfl (hb hby at_98)
  obtain ⟨T17, L17, X17, N17, V17, st17⟩ := own_arr_st X16 hx hZ V16 G1 N16 (g := (mkF m 105 #[.val (.int p0), .val (.int p1), .val (.int p2), .unset, .unset, .unset, .unset, .unset, .unset, .unset] [(.int (8205 : Int32)), (.int (15 : Int32)), (.ref b1), (.ref b1)])) (by decide) (by decide) rfl rfl (hb hby at_105)
  obtain ⟨T18, L18, X18, N18, V18, st18⟩ := own_arr_st X17 hx hZ V17 G1 N17 (g := (mkF m 112 #[.val (.int p0), .val (.int p1), .val (.int p2), .unset, .unset, .unset, .unset, .unset, .unset, .unset] [(.int (8304 : Int32)), (.int (16 : Int32)), (.ref b1), (.ref b1)])) (by decide) (by decide) rfl rfl (hb hby at_112)
  obtain ⟨T19, L19, X19, N19, V19, st19⟩ := own_arr_st X18 hx hZ V18 G1 N18 (g := (mkF m 119 #[.val (.int p0), .val (.int p1), .val (.int p2), .unset, .unset, .unset, .unset, .unset, .unset, .unset] [(.int (8591 : Int32)), (.int (17 : Int32)), (.ref b1), (.ref b1)])) (by decide) (by decide) rfl rfl (hb hby at_119)
  obtain ⟨T20, L20, X20, N20, V20, st20⟩ := own_arr_st X19 hx hZ V19 G1 N19 (g := (mkF m 126 #[.val (.int p0), .val (.int p1), .val (.int p2), .unset, .unset, .unset, .unset, .unset, .unset, .unset] [(.int (11264 : Int32)), (.int (18 : Int32)), (.ref b1), (.ref b1)])) (by decide) (by decide) rfl rfl (hb hby at_126)
  obtain ⟨T21, L21, X21, N21, V21, st21⟩ := own_arr_st X20 hx hZ V20 G1 N20 (g := (mkF m 133 #[.val (.int p0), .val (.int p1), .val (.int p2), .unset, .unset, .unset, .unset, .unset, .unset, .unset] [(.int (12271 : Int32)), (.int (19 : Int32)), (.ref b1), (.ref b1)])) (by decide) (by decide) rfl rfl (hb hby at_133)
  obtain ⟨T22, L22, X22, N22, V22, st22⟩ := own_arr_st X21 hx hZ V21 G1 N21 (g := (mkF m 140 #[.val (.int p0), .val (.int p1), .val (.int p2), .unset, .unset, .unset, .unset, .unset, .unset, .unset] [(.int (12289 : Int32)), (.int (20 : Int32)), (.ref b1), (.ref b1)])) (by decide) (by decide) rfl rfl (hb hby at_140)
  obtain ⟨T23, L23, X23, N23, V23, st23⟩ := own_arr_st X22 hx hZ V22 G1 N22 (g := (mkF m 146 #[.val (.int p0), .val (.int p1), .val (.int p2), .unset, .unset, .unset, .unset, .unset, .unset, .unset] [(.int (55295 : Int32)), (.int (21 : Int32)), (.ref b1), (.ref b1)])) (by decide) (by decide) rfl rfl (hb hby at_146)
  obtain ⟨T24, L24, X24, N24, V24, st24⟩ := own_arr_st X23 hx hZ V23 G1 N23 (g := (mkF m 152 #[.val (.int p0), .val (.int p1), .val (.int p2), .unset, .unset, .unset, .unset, .unset, .unset, .unset] [(.int (63744 : Int32)), (.int (22 : Int32)), (.ref b1), (.ref b1)])) (by decide) (by decide) rfl rfl (hb hby at_152)
  obtain ⟨T25, L25, X25, N25, V25, st25⟩ := own_arr_st X24 hx hZ V24 G1 N24 (g := (mkF m 158 #[.val (.int p0), .val (.int p1), .val (.int p2), .unset, .unset, .unset, .unset, .unset, .unset, .unset] [(.int (64975 : Int32)), (.int (23 : Int32)), (.ref b1), (.ref b1)])) (by decide) (by decide) rfl rfl (hb hby at_158)
  obtain ⟨T26, L26, X26, N26, V26, st26⟩ := own_arr_st X25 hx hZ V25 G1 N25 (g := (mkF m 164 #[.val (.int p0), .val (.int p1), .val (.int p2), .unset, .unset, .unset, .unset, .unset, .unset, .unset] [(.int (65008 : Int32)), (.int (24 : Int32)), (.ref b1), (.ref b1)])) (by decide) (by decide) rfl rfl (hb hby at_164)
  obtain ⟨T27, L27, X27, N27, V27, st27⟩ := own_arr_st X26 hx hZ V26 G1 N26 (g := (mkF m 170 #[.val (.int p0), .val (.int p1), .val (.int p2), .unset, .unset, .unset, .unset, .unset, .unset, .unset] [(.int (65533 : Int32)), (.int (25 : Int32)), (.ref b1), (.ref b1)])) (by decide) (by decide) rfl rfl (hb hby at_170)
  obtain ⟨T28, L28, X28, N28, V28, st28⟩ := own_arr_st X27 hx hZ V27 G1 N27 (g := (mkF m 176 #[.val (.int p0), .val (.int p1), .val (.int p2), .unset, .unset, .unset, .unset, .unset, .unset, .unset] [(.int (65536 : Int32)), (.int (26 : Int32)), (.ref b1), (.ref b1)])) (by decide) (by decide) rfl rfl (hb hby at_176)
  obtain ⟨T29, L29, X29, N29, V29, st29⟩ := own_arr_st X28 hx hZ V28 G1 N28 (g := (mkF m 182 #[.val (.int p0), .val (.int p1), .val (.int p2), .unset, .unset, .unset, .unset, .unset, .unset, .unset] [(.int (983039 : Int32)), (.int (27 : Int32)), (.ref b1), (.ref b1)])) (by decide) (by decide) rfl rfl (hb hby at_182)
  obtain ⟨z30, st30⟩ := own_arr_ld X29 hx hZ V29 (g := (mkF m 201 #[.val (.int p0), .val (.int p1), .val (.int p2), .val (.ref b1), .val (.int p0), .val (.int (p0 &&& (2097151 : Int32))), .unset, .unset, .unset, .unset] [(.int ((p1 &&& (2147483647 : Int32)) - ((p1 &&& (2147483647 : Int32)) / (28 : Int32)) * (28 : Int32))), (.ref b1)])) (own_idx p1 (28 : Int32) 28 rfl (by decide)) rfl rfl (hb hby at_201)
  obtain ⟨_, _, ⟨T31, L31, k31, n31⟩, -, X31, ⟨Lc31, hQ31, l31, y31, z31⟩, st31⟩ := Jvm.LawKit.callS X29 hx (y := (⟨"com/example/triplewright/triplewright/rdf/TextScanner", "isPnCharsBase", "(I)Z"⟩ : MethodName)) hown (mvT hZ (hw _ (List.mem_of_getElem? (i := 10) rfl))) (mvT hZ (hw _ (List.mem_of_getElem? (i := 11) rfl))) (mvT hZ (hw _ (List.mem_of_getElem? (i := 12) rfl))) (mvT hZ (hw _ (List.mem_of_getElem? (i := 13) rfl))) (by decide) (backOf (W := 0) (rm1 l Z a0 hw [] p0 T29.heap n0 (own_arr_sz G1 V29)) hZ (hw _ (List.mem_of_getElem? (i := 13) rfl)) (hw _ (List.mem_of_getElem? (i := 12) rfl)) (by decide) (by decide)) (g := (mkF m 215 #[.val (.int p0), .val (.int p1), .val (.int p2), .val (.ref b1), .val (.int p0), .val (.int (p0 &&& (2097151 : Int32))), .val (.int ((z30 + ((p2 &&& (2147483647 : Int32)) - ((p2 &&& (2147483647 : Int32)) / (3 : Int32)) * (3 : Int32))) - (1 : Int32))), .unset, .unset, .unset] [(.int p0)])) rfl (by rw [hml]; rfl) (argsL := [(.int p0)]) (rest := []) (lenOf pd0 rfl) rfl (by show 2 * 0 + _ ≤ _; exact Nat.le_of_eq rfl) (hb hby at_215) (fun _ _ => ⟨rfl, rfl, (by decide : 1 + 0 ≤ _), (by decide : 28 + 0 ≤ _)⟩)
  dsimp only [Pt.U, Pt.locs, Pt.cells, Pt.slots] at X31 l31 y31 z31 st31 hQ31
  subst l31 y31 z31
  obtain ⟨rfl, N31q, e31⟩ := hQ31
  have N31 := Fr.app N29 N31q
  obtain ⟨_, _, ⟨T32, L32, k32, n32⟩, -, X32, ⟨Lc32, hQ32, l32, y32, z32⟩, st32⟩ := Jvm.LawKit.callS X31 hx (y := (⟨"com/example/triplewright/triplewright/rdf/TextScannerIsPnCharsBasePinLaw", "ref", "(I)Z"⟩ : MethodName)) hown (mvT hZ (hw _ (List.mem_of_getElem? (i := 17) rfl))) (mvT hZ (hw _ (List.mem_of_getElem? (i := 18) rfl))) (mvT hZ (hw _ (List.mem_of_getElem? (i := 19) rfl))) (mvT hZ (hw _ (List.mem_of_getElem? (i := 20) rfl))) (by decide) (backOf (W := 1) (rm2 l Z a0 hw [] p0 T29.heap n0 (own_arr_sz G1 V29)) hZ (hw _ (List.mem_of_getElem? (i := 20) rfl)) (hw _ (List.mem_of_getElem? (i := 19) rfl)) (by decide) (by decide)) (g := (mkF m 220 #[.val (.int p0), .val (.int p1), .val (.int p2), .val (.ref b1), .val (.int p0), .val (.int (p0 &&& (2097151 : Int32))), .val (.int ((z30 + ((p2 &&& (2147483647 : Int32)) - ((p2 &&& (2147483647 : Int32)) / (3 : Int32)) * (3 : Int32))) - (1 : Int32))), .unset, .unset, .unset] [(.int p0), (.int (F1_0 p0))])) rfl (by rw [hml]; rfl) (argsL := [(.int p0)]) (rest := [(.int (F1_0 p0))]) (lenOf pd0 rfl) rfl (by show 2 * 0 + _ ≤ _; exact Nat.le_of_eq rfl) (hb hby at_220) (fun _ _ => ⟨rfl, e31, (by decide : 1 + 0 ≤ _), (by decide : 28 + 0 ≤ _)⟩)
  dsimp only [Pt.U, Pt.locs, Pt.cells, Pt.slots] at X32 l32 y32 z32 st32 hQ32
  subst l32 y32 z32
  obtain ⟨rfl, N32q, e32⟩ := hQ32
  have N32 := Fr.app N31 N32q
  obtain ⟨_, _, ⟨T33, L33, k33, n33⟩, -, X33, ⟨Lc33, hQ33, l33, y33, z33⟩, st33⟩ := Jvm.LawKit.callS X32 hx (y := (⟨"com/example/triplewright/triplewright/rdf/TextScanner", "isPnCharsBase", "(I)Z"⟩ : MethodName)) hown (mvT hZ (hw _ (List.mem_of_getElem? (i := 10) rfl))) (mvT hZ (hw _ (List.mem_of_getElem? (i := 11) rfl))) (mvT hZ (hw _ (List.mem_of_getElem? (i := 12) rfl))) (mvT hZ (hw _ (List.mem_of_getElem? (i := 13) rfl))) (by decide) (backOf (W := 0) (rm1 l Z a0 hw [] (p0 &&& (2097151 : Int32)) T29.heap n0 (own_arr_sz G1 V29)) hZ (hw _ (List.mem_of_getElem? (i := 13) rfl)) (hw _ (List.mem_of_getElem? (i := 12) rfl)) (by decide) (by decide)) (g := (mkF m 235 #[.val (.int p0), .val (.int p1), .val (.int p2), .val (.ref b1), .val (.int p0), .val (.int (p0 &&& (2097151 : Int32))), .val (.int ((z30 + ((p2 &&& (2147483647 : Int32)) - ((p2 &&& (2147483647 : Int32)) / (3 : Int32)) * (3 : Int32))) - (1 : Int32))), .val (.int (1 : Int32)), .unset, .unset] [(.int (p0 &&& (2097151 : Int32)))])) rfl (by rw [hml]; rfl) (argsL := [(.int (p0 &&& (2097151 : Int32)))]) (rest := []) (lenOf pd0 rfl) rfl (by show 2 * 0 + _ ≤ _; exact Nat.le_of_eq rfl) (hb hby at_235) (fun _ _ => ⟨rfl, e32, (by decide : 1 + 0 ≤ _), (by decide : 28 + 0 ≤ _)⟩)
  dsimp only [Pt.U, Pt.locs, Pt.cells, Pt.slots] at X33 l33 y33 z33 st33 hQ33
  subst l33 y33 z33
  obtain ⟨rfl, N33q, e33⟩ := hQ33
  have N33 := Fr.app N32 N33q
  obtain ⟨_, _, ⟨T34, L34, k34, n34⟩, -, X34, ⟨Lc34, hQ34, l34, y34, z34⟩, st34⟩ := Jvm.LawKit.callS X33 hx (y := (⟨"com/example/triplewright/triplewright/rdf/TextScannerIsPnCharsBasePinLaw", "ref", "(I)Z"⟩ : MethodName)) hown (mvT hZ (hw _ (List.mem_of_getElem? (i := 17) rfl))) (mvT hZ (hw _ (List.mem_of_getElem? (i := 18) rfl))) (mvT hZ (hw _ (List.mem_of_getElem? (i := 19) rfl))) (mvT hZ (hw _ (List.mem_of_getElem? (i := 20) rfl))) (by decide) (backOf (W := 1) (rm2 l Z a0 hw [] (p0 &&& (2097151 : Int32)) T29.heap n0 (own_arr_sz G1 V29)) hZ (hw _ (List.mem_of_getElem? (i := 20) rfl)) (hw _ (List.mem_of_getElem? (i := 19) rfl)) (by decide) (by decide)) (g := (mkF m 240 #[.val (.int p0), .val (.int p1), .val (.int p2), .val (.ref b1), .val (.int p0), .val (.int (p0 &&& (2097151 : Int32))), .val (.int ((z30 + ((p2 &&& (2147483647 : Int32)) - ((p2 &&& (2147483647 : Int32)) / (3 : Int32)) * (3 : Int32))) - (1 : Int32))), .val (.int (1 : Int32)), .unset, .unset] [(.int (p0 &&& (2097151 : Int32))), (.int (F1_0 (p0 &&& (2097151 : Int32))))])) rfl (by rw [hml]; rfl) (argsL := [(.int (p0 &&& (2097151 : Int32)))]) (rest := [(.int (F1_0 (p0 &&& (2097151 : Int32))))]) (lenOf pd0 rfl) rfl (by show 2 * 0 + _ ≤ _; exact Nat.le_of_eq rfl) (hb hby at_240) (fun _ _ => ⟨rfl, e33, (by decide : 1 + 0 ≤ _), (by decide : 28 + 0 ≤ _)⟩)
  dsimp only [Pt.U, Pt.locs, Pt.cells, Pt.slots] at X34 l34 y34 z34 st34 hQ34
  subst l34 y34 z34
  obtain ⟨rfl, N34q, e34⟩ := hQ34
  have N34 := Fr.app N33 N34q
  obtain ⟨_, _, ⟨T35, L35, k35, n35⟩, -, X35, ⟨Lc35, hQ35, l35, y35, z35⟩, st35⟩ := Jvm.LawKit.callS X34 hx (y := (⟨"com/example/triplewright/triplewright/rdf/TextScanner", "isPnCharsBase", "(I)Z"⟩ : MethodName)) hown (mvT hZ (hw _ (List.mem_of_getElem? (i := 10) rfl))) (mvT hZ (hw _ (List.mem_of_getElem? (i := 11) rfl))) (mvT hZ (hw _ (List.mem_of_getElem? (i := 12) rfl))) (mvT hZ (hw _ (List.mem_of_getElem? (i := 13) rfl))) (by decide) (backOf (W := 0) (rm1 l Z a0 hw [] ((z30 + ((p2 &&& (2147483647 : Int32)) - ((p2 &&& (2147483647 : Int32)) / (3 : Int32)) * (3 : Int32))) - (1 : Int32)) T29.heap n0 (own_arr_sz G1 V29)) hZ (hw _ (List.mem_of_getElem? (i := 13) rfl)) (hw _ (List.mem_of_getElem? (i := 12) rfl)) (by decide) (by decide)) (g := (mkF m 255 #[.val (.int p0), .val (.int p1), .val (.int p2), .val (.ref b1), .val (.int p0), .val (.int (p0 &&& (2097151 : Int32))), .val (.int ((z30 + ((p2 &&& (2147483647 : Int32)) - ((p2 &&& (2147483647 : Int32)) / (3 : Int32)) * (3 : Int32))) - (1 : Int32))), .val (.int (1 : Int32)), .val (.int (1 : Int32)), .unset] [(.int ((z30 + ((p2 &&& (2147483647 : Int32)) - ((p2 &&& (2147483647 : Int32)) / (3 : Int32)) * (3 : Int32))) - (1 : Int32)))])) rfl (by rw [hml]; rfl) (argsL := [(.int ((z30 + ((p2 &&& (2147483647 : Int32)) - ((p2 &&& (2147483647 : Int32)) / (3 : Int32)) * (3 : Int32))) - (1 : Int32)))]) (rest := []) (lenOf pd0 rfl) rfl (by show 2 * 0 + _ ≤ _; exact Nat.le_of_eq rfl) (hb hby at_255) (fun _ _ => ⟨rfl, e34, (by decide : 1 + 0 ≤ _), (by decide : 28 + 0 ≤ _)⟩)
  dsimp only [Pt.U, Pt.locs, Pt.cells, Pt.slots] at X35 l35 y35 z35 st35 hQ35
  subst l35 y35 z35
  obtain ⟨rfl, N35q, e35⟩ := hQ35
  have N35 := Fr.app N34 N35q
  obtain ⟨_, _, ⟨T36, L36, k36, n36⟩, -, X36, ⟨Lc36, hQ36, l36, y36, z36⟩, st36⟩ := Jvm.LawKit.callS X35 hx (y := (⟨"com/example/triplewright/triplewright/rdf/TextScannerIsPnCharsBasePinLaw", "ref", "(I)Z"⟩ : MethodName)) hown (mvT hZ (hw _ (List.mem_of_getElem? (i := 17) rfl))) (mvT hZ (hw _ (List.mem_of_getElem? (i := 18) rfl))) (mvT hZ (hw _ (List.mem_of_getElem? (i := 19) rfl))) (mvT hZ (hw _ (List.mem_of_getElem? (i := 20) rfl))) (by decide) (backOf (W := 1) (rm2 l Z a0 hw [] ((z30 + ((p2 &&& (2147483647 : Int32)) - ((p2 &&& (2147483647 : Int32)) / (3 : Int32)) * (3 : Int32))) - (1 : Int32)) T29.heap n0 (own_arr_sz G1 V29)) hZ (hw _ (List.mem_of_getElem? (i := 20) rfl)) (hw _ (List.mem_of_getElem? (i := 19) rfl)) (by decide) (by decide)) (g := (mkF m 260 #[.val (.int p0), .val (.int p1), .val (.int p2), .val (.ref b1), .val (.int p0), .val (.int (p0 &&& (2097151 : Int32))), .val (.int ((z30 + ((p2 &&& (2147483647 : Int32)) - ((p2 &&& (2147483647 : Int32)) / (3 : Int32)) * (3 : Int32))) - (1 : Int32))), .val (.int (1 : Int32)), .val (.int (1 : Int32)), .unset] [(.int ((z30 + ((p2 &&& (2147483647 : Int32)) - ((p2 &&& (2147483647 : Int32)) / (3 : Int32)) * (3 : Int32))) - (1 : Int32))), (.int (F1_0 ((z30 + ((p2 &&& (2147483647 : Int32)) - ((p2 &&& (2147483647 : Int32)) / (3 : Int32)) * (3 : Int32))) - (1 : Int32))))])) rfl (by rw [hml]; rfl) (argsL := [(.int ((z30 + ((p2 &&& (2147483647 : Int32)) - ((p2 &&& (2147483647 : Int32)) / (3 : Int32)) * (3 : Int32))) - (1 : Int32)))]) (rest := [(.int (F1_0 ((z30 + ((p2 &&& (2147483647 : Int32)) - ((p2 &&& (2147483647 : Int32)) / (3 : Int32)) * (3 : Int32))) - (1 : Int32))))]) (lenOf pd0 rfl) rfl (by show 2 * 0 + _ ≤ _; exact Nat.le_of_eq rfl) (hb hby at_260) (fun _ _ => ⟨rfl, e35, (by decide : 1 + 0 ≤ _), (by decide : 28 + 0 ≤ _)⟩)
  dsimp only [Pt.U, Pt.locs, Pt.cells, Pt.slots] at X36 l36 y36 z36 st36 hQ36
  subst l36 y36 z36
  obtain ⟨rfl, N36q, e36⟩ := hQ36
  have N36 := Fr.app N35 N36q
  obtain ⟨fs, hr, hrun, hended, hW, hsame⟩ := X36.leave (v := some (.int (1 : Int32))) (fun h => by rw [Bd.returns] at h; cases h)
  refine ⟨_, _, pre0 _ ?_, hrun, hended, _, _, rfl, ⟨rfl, N36⟩, ⟨_, rfl⟩, hW, hsame.mono (by decide) (by decide)⟩
  show Steps p.tables e below (s₁.setTop (mkF m 0 #[.val (.int p0), .val (.int p1), .val (.int p2), .unset, .unset, .unset, .unset, .unset, .unset, .unset] [])) _
  refine XS.bipush X0.here hx rfl (hb hby at_0) ?_
  show Steps p.tables e below (s₁.setTop (mkF m 2 #[.val (.int p0), .val (.int p1), .val (.int p2), .unset, .unset, .unset, .unset, .unset, .unset, .unset] [(.int (28 : Int32))])) _
  refine st1 _ ?_
  show Steps p.tables e below (T1.setTop (mkF m 4 #[.val (.int p0), .val (.int p1), .val (.int p2), .unset, .unset, .unset, .unset, .unset, .unset, .unset] [(.ref b1)])) _
  refine XS.dup X1.here hx rfl (hb hby at_4) rfl rfl ?_
  show Steps p.tables e below (T1.setTop (mkF m 5 #[.val (.int p0), .val (.int p1), .val (.int p2), .unset, .unset, .unset, .unset, .unset, .unset, .unset] [(.ref b1), (.ref b1)])) _
  refine XS.iconst X1.here hx rfl (hb hby at_5) ?_
  show Steps p.tables e below (T1.setTop (mkF m 6 #[.val (.int p0), .val (.int p1), .val (.int p2), .unset, .unset, .unset, .unset, .unset, .unset, .unset] [(.int (0 : Int32)), (.ref b1), (.ref b1)])) _
  refine XS.bipush X1.here hx rfl (hb hby at_6) ?_
  show Steps p.tables e below (T1.setTop (mkF m 8 #[.val (.int p0), .val (.int p1), .val (.int p2), .unset, .unset, .unset, .unset, .unset, .unset, .unset] [(.int (65 : Int32)), (.int (0 : Int32)), (.ref b1), (.ref b1)])) _
  refine st2 _ ?_
  show Steps p.tables e below (T2.setTop (mkF m 9 #[.val (.int p0), .val (.int p1), .val (.int p2), .unset, .unset, .unset, .unset, .unset, .unset, .unset] [(.ref b1)])) _
  refine XS.dup X2.here hx rfl (hb hby at_9) rfl rfl ?_
  show Steps p.tables e below (T2.setTop (mkF m 10 #[.val (.int p0), .val (.int p1), .val (.int p2), .unset, .unset, .unset, .unset, .unset, .unset, .unset] [(.ref b1), (.ref b1)])) _
  refine XS.iconst X2.here hx rfl (hb hby at_10) ?_
  show Steps p.tables e below (T2.setTop (mkF m 11 #[.val (.int p0), .val (.int p1), .val (.int p2), .unset, .unset, .unset, .unset, .unset, .unset, .unset] [(.int (1 : Int32)), (.ref b1), (.ref b1)])) _
  refine XS.bipush X2.here hx rfl (hb hby at_11) ?_
  show Steps p.tables e below (T2.setTop (mkF m 13 #[.val (.int p0), .val (.int p1), .val (.int p2), .unset, .unset, .unset, .unset, .unset, .unset, .unset] [(.int (90 : Int32)), (.int (1 : Int32)), (.ref b1), (.ref b1)])) _
  refine st3 _ ?_
  show Steps p.tables e below (T3.setTop (mkF m 14 #[.val (.int p0), .val (.int p1), .val (.int p2), .unset, .unset, .unset, .unset, .unset, .unset, .unset] [(.ref b1)])) _
  refine XS.dup X3.here hx rfl (hb hby at_14) rfl rfl ?_
  show Steps p.tables e below (T3.setTop (mkF m 15 #[.val (.int p0), .val (.int p1), .val (.int p2), .unset, .unset, .unset, .unset, .unset, .unset, .unset] [(.ref b1), (.ref b1)])) _
  refine XS.iconst X3.here hx rfl (hb hby at_15) ?_
  show Steps p.tables e below (T3.setTop (mkF m 16 #[.val (.int p0), .val (.int p1), .val (.int p2), .unset, .unset, .unset, .unset, .unset, .unset, .unset] [(.int (2 : Int32)), (.ref b1), (.ref b1)])) _
  refine XS.bipush X3.here hx rfl (hb hby at_16) ?_
  show Steps p.tables e below (T3.setTop (mkF m 18 #[.val (.int p0), .val (.int p1), .val (.int p2), .unset, .unset, .unset, .unset, .unset, .unset, .unset] [(.int (97 : Int32)), (.int (2 : Int32)), (.ref b1), (.ref b1)])) _
  refine st4 _ ?_
  show Steps p.tables e below (T4.setTop (mkF m 19 #[.val (.int p0), .val (.int p1), .val (.int p2), .unset, .unset, .unset, .unset, .unset, .unset, .unset] [(.ref b1)])) _
  refine XS.dup X4.here hx rfl (hb hby at_19) rfl rfl ?_
  show Steps p.tables e below (T4.setTop (mkF m 20 #[.val (.int p0), .val (.int p1), .val (.int p2), .unset, .unset, .unset, .unset, .unset, .unset, .unset] [(.ref b1), (.ref b1)])) _
  refine XS.iconst X4.here hx rfl (hb hby at_20) ?_
  show Steps p.tables e below (T4.setTop (mkF m 21 #[.val (.int p0), .val (.int p1), .val (.int p2), .unset, .unset, .unset, .unset, .unset, .unset, .unset] [(.int (3 : Int32)), (.ref b1), (.ref b1)])) _
  refine XS.bipush X4.here hx rfl (hb hby at_21) ?_
  show Steps p.tables e below (T4.setTop (mkF m 23 #[.val (.int p0), .val (.int p1), .val (.int p2), .unset, .unset, .unset, .unset, .unset, .unset, .unset] [(.int (122 : Int32)), (.int (3 : Int32)), (.ref b1), (.ref b1)])) _
  refine st5 _ ?_
  show Steps p.tables e below (T5.setTop (mkF m 24 #[.val (.int p0), .val (.int p1), .val (.int p2), .unset, .unset, .unset, .unset, .unset, .unset, .unset] [(.ref b1)])) _
  refine XS.dup X5.here hx rfl (hb hby at_24) rfl rfl ?_
  show Steps p.tables e below (T5.setTop (mkF m 25 #[.val (.int p0), .val (.int p1), .val (.int p2), .unset, .unset, .unset, .unset, .unset, .unset, .unset] [(.ref b1), (.ref b1)])) _
  refine XS.iconst X5.here hx rfl (hb hby at_25) ?_
  show Steps p.tables e below (T5.setTop (mkF m 26 #[.val (.int p0), .val (.int p1), .val (.int p2), .unset, .unset, .unset, .unset, .unset, .unset, .unset] [(.int (4 : Int32)), (.ref b1), (.ref b1)])) _
  refine XS.sipush X5.here hx rfl (hb hby at_26) ?_
  show Steps p.tables e below (T5.setTop (mkF m 29 #[.val (.int p0), .val (.int p1), .val (.int p2), .unset, .unset, .unset, .unset, .unset, .unset, .unset] [(.int (192 : Int32)), (.int (4 : Int32)), (.ref b1), (.ref b1)])) _
  refine st6 _ ?_
  show Steps p.tables e below (T6.setTop (mkF m 30 #[.val (.int p0), .val (.int p1), .val (.int p2), .unset, .unset, .unset, .unset, .unset, .unset, .unset] [(.ref b1)])) _
  refine XS.dup X6.here hx rfl (hb hby at_30) rfl rfl ?_
  show Steps p.tables e below (T6.setTop (mkF m 31 #[.val (.int p0), .val (.int p1), .val (.int p2), .unset, .unset, .unset, .unset, .unset, .unset, .unset] [(.ref b1), (.ref b1)])) _
  refine XS.iconst X6.here hx rfl (hb hby at_31) ?_
  show Steps p.tables e below (T6.setTop (mkF m 32 #[.val (.int p0), .val (.int p1), .val (.int p2), .unset, .unset, .unset, .unset, .unset, .unset, .unset] [(.int (5 : Int32)), (.ref b1), (.ref b1)])) _
  refine XS.sipush X6.here hx rfl (hb hby at_32) ?_
  show Steps p.tables e below (T6.setTop (mkF m 35 #[.val (.int p0), .val (.int p1), .val (.int p2), .unset, .unset, .unset, .unset, .unset, .unset, .unset] [(.int (214 : Int32)), (.int (5 : Int32)), (.ref b1), (.ref b1)])) _
  refine st7 _ ?_
  show Steps p.tables e below (T7.setTop (mkF m 36 #[.val (.int p0), .val (.int p1), .val (.int p2), .unset, .unset, .unset, .unset, .unset, .unset, .unset] [(.ref b1)])) _
  refine XS.dup X7.here hx rfl (hb hby at_36) rfl rfl ?_
  show Steps p.tables e below (T7.setTop (mkF m 37 #[.val (.int p0), .val (.int p1), .val (.int p2), .unset, .unset, .unset, .unset, .unset, .unset, .unset] [(.ref b1), (.ref b1)])) _
  refine XS.bipush X7.here hx rfl (hb hby at_37) ?_
  show Steps p.tables e below (T7.setTop (mkF m 39 #[.val (.int p0), .val (.int p1), .val (.int p2), .unset, .unset, .unset, .unset, .unset, .unset, .unset] [(.int (6 : Int32)), (.ref b1), (.ref b1)])) _
  refine XS.sipush X7.here hx rfl (hb hby at_39) ?_
  show Steps p.tables e below (T7.setTop (mkF m 42 #[.val (.int p0), .val (.int p1), .val (.int p2), .unset, .unset, .unset, .unset, .unset, .unset, .unset] [(.int (216 : Int32)), (.int (6 : Int32)), (.ref b1), (.ref b1)])) _
  refine st8 _ ?_
  show Steps p.tables e below (T8.setTop (mkF m 43 #[.val (.int p0), .val (.int p1), .val (.int p2), .unset, .unset, .unset, .unset, .unset, .unset, .unset] [(.ref b1)])) _
  refine XS.dup X8.here hx rfl (hb hby at_43) rfl rfl ?_
  show Steps p.tables e below (T8.setTop (mkF m 44 #[.val (.int p0), .val (.int p1), .val (.int p2), .unset, .unset, .unset, .unset, .unset, .unset, .unset] [(.ref b1), (.ref b1)])) _
  refine XS.bipush X8.here hx rfl (hb hby at_44) ?_
  show Steps p.tables e below (T8.setTop (mkF m 46 #[.val (.int p0), .val (.int p1), .val (.int p2), .unset, .unset, .unset, .unset, .unset, .unset, .unset] [(.int (7 : Int32)), (.ref b1), (.ref b1)])) _
  refine XS.sipush X8.here hx rfl (hb hby at_46) ?_
  show Steps p.tables e below (T8.setTop (mkF m 49 #[.val (.int p0), .val (.int p1), .val (.int p2), .unset, .unset, .unset, .unset, .unset, .unset, .unset] [(.int (246 : Int32)), (.int (7 : Int32)), (.ref b1), (.ref b1)])) _
  refine st9 _ ?_
  show Steps p.tables e below (T9.setTop (mkF m 50 #[.val (.int p0), .val (.int p1), .val (.int p2), .unset, .unset, .unset, .unset, .unset, .unset, .unset] [(.ref b1)])) _
  refine XS.dup X9.here hx rfl (hb hby at_50) rfl rfl ?_
  show Steps p.tables e below (T9.setTop (mkF m 51 #[.val (.int p0), .val (.int p1), .val (.int p2), .unset, .unset, .unset, .unset, .unset, .unset, .unset] [(.ref b1), (.ref b1)])) _
  refine XS.bipush X9.here hx rfl (hb hby at_51) ?_
  show Steps p.tables e below (T9.setTop (mkF m 53 #[.val (.int p0), .val (.int p1), .val (.int p2), .unset, .unset, .unset, .unset, .unset, .unset, .unset] [(.int (8 : Int32)), (.ref b1), (.ref b1)])) _
  refine XS.sipush X9.here hx rfl (hb hby at_53) ?_
  show Steps p.tables e below (T9.setTop (mkF m 56 #[.val (.int p0), .val (.int p1), .val (.int p2), .unset, .unset, .unset, .unset, .unset, .unset, .unset] [(.int (248 : Int32)), (.int (8 : Int32)), (.ref b1), (.ref b1)])) _
  refine st10 _ ?_
  show Steps p.tables e below (T10.setTop (mkF m 57 #[.val (.int p0), .val (.int p1), .val (.int p2), .unset, .unset, .unset, .unset, .unset, .unset, .unset] [(.ref b1)])) _
  refine XS.dup X10.here hx rfl (hb hby at_57) rfl rfl ?_
  show Steps p.tables e below (T10.setTop (mkF m 58 #[.val (.int p0), .val (.int p1), .val (.int p2), .unset, .unset, .unset, .unset, .unset, .unset, .unset] [(.ref b1), (.ref b1)])) _
  refine XS.bipush X10.here hx rfl (hb hby at_58) ?_
  show Steps p.tables e below (T10.setTop (mkF m 60 #[.val (.int p0), .val (.int p1), .val (.int p2), .unset, .unset, .unset, .unset, .unset, .unset, .unset] [(.int (9 : Int32)), (.ref b1), (.ref b1)])) _
  refine XS.sipush X10.here hx rfl (hb hby at_60) ?_
  show Steps p.tables e below (T10.setTop (mkF m 63 #[.val (.int p0), .val (.int p1), .val (.int p2), .unset, .unset, .unset, .unset, .unset, .unset, .unset] [(.int (767 : Int32)), (.int (9 : Int32)), (.ref b1), (.ref b1)])) _
  refine st11 _ ?_
  show Steps p.tables e below (T11.setTop (mkF m 64 #[.val (.int p0), .val (.int p1), .val (.int p2), .unset, .unset, .unset, .unset, .unset, .unset, .unset] [(.ref b1)])) _
  refine XS.dup X11.here hx rfl (hb hby at_64) rfl rfl ?_
  show Steps p.tables e below (T11.setTop (mkF m 65 #[.val (.int p0), .val (.int p1), .val (.int p2), .unset, .unset, .unset, .unset, .unset, .unset, .unset] [(.ref b1), (.ref b1)])) _
  refine XS.bipush X11.here hx rfl (hb hby at_65) ?_
  show Steps p.tables e below (T11.setTop (mkF m 67 #[.val (.int p0), .val (.int p1), .val (.int p2), .unset, .unset, .unset, .unset, .unset, .unset, .unset] [(.int (10 : Int32)), (.ref b1), (.ref b1)])) _
  refine XS.sipush X11.here hx rfl (hb hby at_67) ?_
  show Steps p.tables e below (T11.setTop (mkF m 70 #[.val (.int p0), .val (.int p1), .val (.int p2), .unset, .unset, .unset, .unset, .unset, .unset, .unset] [(.int (880 : Int32)), (.int (10 : Int32)), (.ref b1), (.ref b1)])) _
  refine st12 _ ?_
  show Steps p.tables e below (T12.setTop (mkF m 71 #[.val (.int p0), .val (.int p1), .val (.int p2), .unset, .unset, .unset, .unset, .unset, .unset, .unset] [(.ref b1)])) _
  refine XS.dup X12.here hx rfl (hb hby at_71) rfl rfl ?_
  show Steps p.tables e below (T12.setTop (mkF m 72 #[.val (.int p0), .val (.int p1), .val (.int p2), .unset, .unset, .unset, .unset, .unset, .unset, .unset] [(.ref b1), (.ref b1)])) _
  refine XS.bipush X12.here hx rfl (hb hby at_72) ?_
  show Steps p.tables e below (T12.setTop (mkF m 74 #[.val (.int p0), .val (.int p1), .val (.int p2), .unset, .unset, .unset, .unset, .unset, .unset, .unset] [(.int (11 : Int32)), (.ref b1), (.ref b1)])) _
  refine XS.sipush X12.here hx rfl (hb hby at_74) ?_
  show Steps p.tables e below (T12.setTop (mkF m 77 #[.val (.int p0), .val (.int p1), .val (.int p2), .unset, .unset, .unset, .unset, .unset, .unset, .unset] [(.int (893 : Int32)), (.int (11 : Int32)), (.ref b1), (.ref b1)])) _
  refine st13 _ ?_
  show Steps p.tables e below (T13.setTop (mkF m 78 #[.val (.int p0), .val (.int p1), .val (.int p2), .unset, .unset, .unset, .unset, .unset, .unset, .unset] [(.ref b1)])) _
  refine XS.dup X13.here hx rfl (hb hby at_78) rfl rfl ?_
  show Steps p.tables e below (T13.setTop (mkF m 79 #[.val (.int p0), .val (.int p1), .val (.int p2), .unset, .unset, .unset, .unset, .unset, .unset, .unset] [(.ref b1), (.ref b1)])) _
  refine XS.bipush X13.here hx rfl (hb hby at_79) ?_
  show Steps p.tables e below (T13.setTop (mkF m 81 #[.val (.int p0), .val (.int p1), .val (.int p2), .unset, .unset, .unset, .unset, .unset, .unset, .unset] [(.int (12 : Int32)), (.ref b1), (.ref b1)])) _
  refine XS.sipush X13.here hx rfl (hb hby at_81) ?_
  show Steps p.tables e below (T13.setTop (mkF m 84 #[.val (.int p0), .val (.int p1), .val (.int p2), .unset, .unset, .unset, .unset, .unset, .unset, .unset] [(.int (895 : Int32)), (.int (12 : Int32)), (.ref b1), (.ref b1)])) _
  refine st14 _ ?_
  show Steps p.tables e below (T14.setTop (mkF m 85 #[.val (.int p0), .val (.int p1), .val (.int p2), .unset, .unset, .unset, .unset, .unset, .unset, .unset] [(.ref b1)])) _
  refine XS.dup X14.here hx rfl (hb hby at_85) rfl rfl ?_
  show Steps p.tables e below (T14.setTop (mkF m 86 #[.val (.int p0), .val (.int p1), .val (.int p2), .unset, .unset, .unset, .unset, .unset, .unset, .unset] [(.ref b1), (.ref b1)])) _
  refine XS.bipush X14.here hx rfl (hb hby at_86) ?_
  show Steps p.tables e below (T14.setTop (mkF m 88 #[.val (.int p0), .val (.int p1), .val (.int p2), .unset, .unset, .unset, .unset, .unset, .unset, .unset] [(.int (13 : Int32)), (.ref b1), (.ref b1)])) _
  refine XS.sipush X14.here hx rfl (hb hby at_88) ?_
  show Steps p.tables e below (T14.setTop (mkF m 91 #[.val (.int p0), .val (.int p1), .val (.int p2), .unset, .unset, .unset, .unset, .unset, .unset, .unset] [(.int (8191 : Int32)), (.int (13 : Int32)), (.ref b1), (.ref b1)])) _
  refine st15 _ ?_
  show Steps p.tables e below (T15.setTop (mkF m 92 #[.val (.int p0), .val (.int p1), .val (.int p2), .unset, .unset, .unset, .unset, .unset, .unset, .unset] [(.ref b1)])) _
  refine XS.dup X15.here hx rfl (hb hby at_92) rfl rfl ?_
  show Steps p.tables e below (T15.setTop (mkF m 93 #[.val (.int p0), .val (.int p1), .val (.int p2), .unset, .unset, .unset, .unset, .unset, .unset, .unset] [(.ref b1), (.ref b1)])) _
  refine XS.bipush X15.here hx rfl (hb hby at_93) ?_
  show Steps p.tables e below (T15.setTop (mkF m 95 #[.val (.int p0), .val (.int p1), .val (.int p2), .unset, .unset, .unset, .unset, .unset, .unset, .unset] [(.int (14 : Int32)), (.ref b1), (.ref b1)])) _
  refine XS.sipush X15.here hx rfl (hb hby at_95) ?_
  show Steps p.tables e below (T15.setTop (mkF m 98 #[.val (.int p0), .val (.int p1), .val (.int p2), .unset, .unset, .unset, .unset, .unset, .unset, .unset] [(.int (8204 : Int32)), (.int (14 : Int32)), (.ref b1), (.ref b1)])) _
  refine st16 _ ?_
  show Steps p.tables e below (T16.setTop (mkF m 99 #[.val (.int p0), .val (.int p1), .val (.int p2), .unset, .unset, .unset, .unset, .unset, .unset, .unset] [(.ref b1)])) _
  refine XS.dup X16.here hx rfl (hb hby at_99) rfl rfl ?_
  show Steps p.tables e below (T16.setTop (mkF m 100 #[.val (.int p0), .val (.int p1), .val (.int p2), .unset, .unset, .unset, .unset, .unset, .unset, .unset] [(.ref b1), (.ref b1)])) _
  refine XS.bipush X16.here hx rfl (hb hby at_100) ?_
  show Steps p.tables e below (T16.setTop (mkF m 102 #[.val (.int p0), .val (.int p1), .val (.int p2), .unset, .unset, .unset, .unset, .unset, .unset, .unset] [(.int (15 : Int32)), (.ref b1), (.ref b1)])) _
  refine XS.sipush X16.here hx rfl (hb hby at_102) ?_
  show Steps p.tables e below (T16.setTop (mkF m 105 #[.val (.int p0), .val (.int p1), .val (.int p2), .unset, .unset, .unset, .unset, .unset, .unset, .unset] [(.int (8205 : Int32)), (.int (15 : Int32)), (.ref b1), (.ref b1)])) _
  refine st17 _ ?_
  show Steps p.tables e below (T17.setTop (mkF m 106 #[.val (.int p0), .val (.int p1), .val (.int p2), .unset, .unset, .unset, .unset, .unset, .unset, .unset] [(.ref b1)])) _
  refine XS.dup X17.here hx rfl (hb hby at_106) rfl rfl ?_
  show Steps p.tables e below (T17.setTop (mkF m 107 #[.val (.int p0), .val (.int p1), .val (.int p2), .unset, .unset, .unset, .unset, .unset, .unset, .unset] [(.ref b1), (.ref b1)])) _
  refine XS.bipush X17.here hx rfl (hb hby at_107) ?_
  show Steps p.tables e below (T17.setTop (mkF m 109 #[.val (.int p0), .val (.int p1), .val (.int p2), .unset, .unset, .unset, .unset, .unset, .unset, .unset] [(.int (16 : Int32)), (.ref b1), (.ref b1)])) _
  refine XS.sipush X17.here hx rfl (hb hby at_109) ?_
  show Steps p.tables e below (T17.setTop (mkF m 112 #[.val (.int p0), .val (.int p1), .val (.int p2), .unset, .unset, .unset, .unset, .unset, .unset, .unset] [(.int (8304 : Int32)), (.int (16 : Int32)), (.ref b1), (.ref b1)])) _
  refine st18 _ ?_
  show Steps p.tables e below (T18.setTop (mkF m 113 #[.val (.int p0), .val (.int p1), .val (.int p2), .unset, .unset, .unset, .unset, .unset, .unset, .unset] [(.ref b1)])) _
  refine XS.dup X18.here hx rfl (hb hby at_113) rfl rfl ?_
  show Steps p.tables e below (T18.setTop (mkF m 114 #[.val (.int p0), .val (.int p1), .val (.int p2), .unset, .unset, .unset, .unset, .unset, .unset, .unset] [(.ref b1), (.ref b1)])) _
  refine XS.bipush X18.here hx rfl (hb hby at_114) ?_
  show Steps p.tables e below (T18.setTop (mkF m 116 #[.val (.int p0), .val (.int p1), .val (.int p2), .unset, .unset, .unset, .unset, .unset, .unset, .unset] [(.int (17 : Int32)), (.ref b1), (.ref b1)])) _
  refine XS.sipush X18.here hx rfl (hb hby at_116) ?_
  show Steps p.tables e below (T18.setTop (mkF m 119 #[.val (.int p0), .val (.int p1), .val (.int p2), .unset, .unset, .unset, .unset, .unset, .unset, .unset] [(.int (8591 : Int32)), (.int (17 : Int32)), (.ref b1), (.ref b1)])) _
  refine st19 _ ?_
  show Steps p.tables e below (T19.setTop (mkF m 120 #[.val (.int p0), .val (.int p1), .val (.int p2), .unset, .unset, .unset, .unset, .unset, .unset, .unset] [(.ref b1)])) _
  refine XS.dup X19.here hx rfl (hb hby at_120) rfl rfl ?_
  show Steps p.tables e below (T19.setTop (mkF m 121 #[.val (.int p0), .val (.int p1), .val (.int p2), .unset, .unset, .unset, .unset, .unset, .unset, .unset] [(.ref b1), (.ref b1)])) _
  refine XS.bipush X19.here hx rfl (hb hby at_121) ?_
  show Steps p.tables e below (T19.setTop (mkF m 123 #[.val (.int p0), .val (.int p1), .val (.int p2), .unset, .unset, .unset, .unset, .unset, .unset, .unset] [(.int (18 : Int32)), (.ref b1), (.ref b1)])) _
  refine XS.sipush X19.here hx rfl (hb hby at_123) ?_
  show Steps p.tables e below (T19.setTop (mkF m 126 #[.val (.int p0), .val (.int p1), .val (.int p2), .unset, .unset, .unset, .unset, .unset, .unset, .unset] [(.int (11264 : Int32)), (.int (18 : Int32)), (.ref b1), (.ref b1)])) _
  refine st20 _ ?_
  show Steps p.tables e below (T20.setTop (mkF m 127 #[.val (.int p0), .val (.int p1), .val (.int p2), .unset, .unset, .unset, .unset, .unset, .unset, .unset] [(.ref b1)])) _
  refine XS.dup X20.here hx rfl (hb hby at_127) rfl rfl ?_
  show Steps p.tables e below (T20.setTop (mkF m 128 #[.val (.int p0), .val (.int p1), .val (.int p2), .unset, .unset, .unset, .unset, .unset, .unset, .unset] [(.ref b1), (.ref b1)])) _
  refine XS.bipush X20.here hx rfl (hb hby at_128) ?_
  show Steps p.tables e below (T20.setTop (mkF m 130 #[.val (.int p0), .val (.int p1), .val (.int p2), .unset, .unset, .unset, .unset, .unset, .unset, .unset] [(.int (19 : Int32)), (.ref b1), (.ref b1)])) _
  refine XS.sipush X20.here hx rfl (hb hby at_130) ?_
  show Steps p.tables e below (T20.setTop (mkF m 133 #[.val (.int p0), .val (.int p1), .val (.int p2), .unset, .unset, .unset, .unset, .unset, .unset, .unset] [(.int (12271 : Int32)), (.int (19 : Int32)), (.ref b1), (.ref b1)])) _
  refine st21 _ ?_
  show Steps p.tables e below (T21.setTop (mkF m 134 #[.val (.int p0), .val (.int p1), .val (.int p2), .unset, .unset, .unset, .unset, .unset, .unset, .unset] [(.ref b1)])) _
  refine XS.dup X21.here hx rfl (hb hby at_134) rfl rfl ?_
  show Steps p.tables e below (T21.setTop (mkF m 135 #[.val (.int p0), .val (.int p1), .val (.int p2), .unset, .unset, .unset, .unset, .unset, .unset, .unset] [(.ref b1), (.ref b1)])) _
  refine XS.bipush X21.here hx rfl (hb hby at_135) ?_
  show Steps p.tables e below (T21.setTop (mkF m 137 #[.val (.int p0), .val (.int p1), .val (.int p2), .unset, .unset, .unset, .unset, .unset, .unset, .unset] [(.int (20 : Int32)), (.ref b1), (.ref b1)])) _
  refine XS.sipush X21.here hx rfl (hb hby at_137) ?_
  show Steps p.tables e below (T21.setTop (mkF m 140 #[.val (.int p0), .val (.int p1), .val (.int p2), .unset, .unset, .unset, .unset, .unset, .unset, .unset] [(.int (12289 : Int32)), (.int (20 : Int32)), (.ref b1), (.ref b1)])) _
  refine st22 _ ?_
  show Steps p.tables e below (T22.setTop (mkF m 141 #[.val (.int p0), .val (.int p1), .val (.int p2), .unset, .unset, .unset, .unset, .unset, .unset, .unset] [(.ref b1)])) _
  refine XS.dup X22.here hx rfl (hb hby at_141) rfl rfl ?_
  show Steps p.tables e below (T22.setTop (mkF m 142 #[.val (.int p0), .val (.int p1), .val (.int p2), .unset, .unset, .unset, .unset, .unset, .unset, .unset] [(.ref b1), (.ref b1)])) _
  refine XS.bipush X22.here hx rfl (hb hby at_142) ?_
  show Steps p.tables e below (T22.setTop (mkF m 144 #[.val (.int p0), .val (.int p1), .val (.int p2), .unset, .unset, .unset, .unset, .unset, .unset, .unset] [(.int (21 : Int32)), (.ref b1), (.ref b1)])) _
  refine X22.ldcInt hx hown (mvT hZ (hw _ (List.mem_of_getElem? (i := 1) rfl))) (g := (mkF m 144 #[.val (.int p0), .val (.int p1), .val (.int p2), .unset, .unset, .unset, .unset, .unset, .unset, .unset] [(.int (21 : Int32)), (.ref b1), (.ref b1)])) rfl (hb hby at_144) _ ?_
  show Steps p.tables e below (T22.setTop (mkF m 146 #[.val (.int p0), .val (.int p1), .val (.int p2), .unset, .unset, .unset, .unset, .unset, .unset, .unset] [(.int (55295 : Int32)), (.int (21 : Int32)), (.ref b1), (.ref b1)])) _
  refine st23 _ ?_
  show Steps p.tables e below (T23.setTop (mkF m 147 #[.val (.int p0), .val (.int p1), .val (.int p2), .unset, .unset, .unset, .unset, .unset, .unset, .unset] [(.ref b1)])) _
  refine XS.dup X23.here hx rfl (hb hby at_147) rfl rfl ?_
  show Steps p.tables e below (T23.setTop (mkF m 148 #[.val (.int p0), .val (.int p1), .val (.int p2), .unset, .unset, .unset, .unset, .unset, .unset, .unset] [(.ref b1), (.ref b1)])) _
  refine XS.bipush X23.here hx rfl (hb hby at_148) ?_
  show Steps p.tables e below (T23.setTop (mkF m 150 #[.val (.int p0), .val (.int p1), .val (.int p2), .unset, .unset, .unset, .unset, .unset, .unset, .unset] [(.int (22 : Int32)), (.ref b1), (.ref b1)])) _
  refine X23.ldcInt hx hown (mvT hZ (hw _ (List.mem_of_getElem? (i := 2) rfl))) (g := (mkF m 150 #[.val (.int p0), .val (.int p1), .val (.int p2), .unset, .unset, .unset, .unset, .unset, .unset, .unset] [(.int (22 : Int32)), (.ref b1), (.ref b1)])) rfl (hb hby at_150) _ ?_
  show Steps p.tables e below (T23.setTop (mkF m 152 #[.val (.int p0), .val (.int p1), .val (.int p2), .unset, .unset, .unset, .unset, .unset, .unset, .unset] [(.int (63744 : Int32)), (.int (22 : Int32)), (.ref b1), (.ref b1)])) _
  refine st24 _ ?_
  show Steps p.tables e below (T24.setTop (mkF m 153 #[.val (.int p0), .val (.int p1), .val (.int p2), .unset, .unset, .unset, .unset, .unset, .unset, .unset] [(.ref b1)])) _
  refine XS.dup X24.here hx rfl (hb hby at_153) rfl rfl ?_
  show Steps p.tables e below (T24.setTop (mkF m 154 #[.val (.int p0), .val (.int p1), .val (.int p2), .unset, .unset, .unset, .unset, .unset, .unset, .unset] [(.ref b1), (.ref b1)])) _
  refine XS.bipush X24.here hx rfl (hb hby at_154) ?_
  show Steps p.tables e below (T24.setTop (mkF m 156 #[.val (.int p0), .val (.int p1), .val (.int p2), .unset, .unset, .unset, .unset, .unset, .unset, .unset] [(.int (23 : Int32)), (.ref b1), (.ref b1)])) _
  refine X24.ldcInt hx hown (mvT hZ (hw _ (List.mem_of_getElem? (i := 3) rfl))) (g := (mkF m 156 #[.val (.int p0), .val (.int p1), .val (.int p2), .unset, .unset, .unset, .unset, .unset, .unset, .unset] [(.int (23 : Int32)), (.ref b1), (.ref b1)])) rfl (hb hby at_156) _ ?_
  show Steps p.tables e below (T24.setTop (mkF m 158 #[.val (.int p0), .val (.int p1), .val (.int p2), .unset, .unset, .unset, .unset, .unset, .unset, .unset] [(.int (64975 : Int32)), (.int (23 : Int32)), (.ref b1), (.ref b1)])) _
  refine st25 _ ?_
  show Steps p.tables e below (T25.setTop (mkF m 159 #[.val (.int p0), .val (.int p1), .val (.int p2), .unset, .unset, .unset, .unset, .unset, .unset, .unset] [(.ref b1)])) _
  refine XS.dup X25.here hx rfl (hb hby at_159) rfl rfl ?_
  show Steps p.tables e below (T25.setTop (mkF m 160 #[.val (.int p0), .val (.int p1), .val (.int p2), .unset, .unset, .unset, .unset, .unset, .unset, .unset] [(.ref b1), (.ref b1)])) _
  refine XS.bipush X25.here hx rfl (hb hby at_160) ?_
  show Steps p.tables e below (T25.setTop (mkF m 162 #[.val (.int p0), .val (.int p1), .val (.int p2), .unset, .unset, .unset, .unset, .unset, .unset, .unset] [(.int (24 : Int32)), (.ref b1), (.ref b1)])) _
  refine X25.ldcInt hx hown (mvT hZ (hw _ (List.mem_of_getElem? (i := 4) rfl))) (g := (mkF m 162 #[.val (.int p0), .val (.int p1), .val (.int p2), .unset, .unset, .unset, .unset, .unset, .unset, .unset] [(.int (24 : Int32)), (.ref b1), (.ref b1)])) rfl (hb hby at_162) _ ?_
  show Steps p.tables e below (T25.setTop (mkF m 164 #[.val (.int p0), .val (.int p1), .val (.int p2), .unset, .unset, .unset, .unset, .unset, .unset, .unset] [(.int (65008 : Int32)), (.int (24 : Int32)), (.ref b1), (.ref b1)])) _
  refine st26 _ ?_
  show Steps p.tables e below (T26.setTop (mkF m 165 #[.val (.int p0), .val (.int p1), .val (.int p2), .unset, .unset, .unset, .unset, .unset, .unset, .unset] [(.ref b1)])) _
  refine XS.dup X26.here hx rfl (hb hby at_165) rfl rfl ?_
  show Steps p.tables e below (T26.setTop (mkF m 166 #[.val (.int p0), .val (.int p1), .val (.int p2), .unset, .unset, .unset, .unset, .unset, .unset, .unset] [(.ref b1), (.ref b1)])) _
  refine XS.bipush X26.here hx rfl (hb hby at_166) ?_
  show Steps p.tables e below (T26.setTop (mkF m 168 #[.val (.int p0), .val (.int p1), .val (.int p2), .unset, .unset, .unset, .unset, .unset, .unset, .unset] [(.int (25 : Int32)), (.ref b1), (.ref b1)])) _
  refine X26.ldcInt hx hown (mvT hZ (hw _ (List.mem_of_getElem? (i := 5) rfl))) (g := (mkF m 168 #[.val (.int p0), .val (.int p1), .val (.int p2), .unset, .unset, .unset, .unset, .unset, .unset, .unset] [(.int (25 : Int32)), (.ref b1), (.ref b1)])) rfl (hb hby at_168) _ ?_
  show Steps p.tables e below (T26.setTop (mkF m 170 #[.val (.int p0), .val (.int p1), .val (.int p2), .unset, .unset, .unset, .unset, .unset, .unset, .unset] [(.int (65533 : Int32)), (.int (25 : Int32)), (.ref b1), (.ref b1)])) _
  refine st27 _ ?_
  show Steps p.tables e below (T27.setTop (mkF m 171 #[.val (.int p0), .val (.int p1), .val (.int p2), .unset, .unset, .unset, .unset, .unset, .unset, .unset] [(.ref b1)])) _
  refine XS.dup X27.here hx rfl (hb hby at_171) rfl rfl ?_
  show Steps p.tables e below (T27.setTop (mkF m 172 #[.val (.int p0), .val (.int p1), .val (.int p2), .unset, .unset, .unset, .unset, .unset, .unset, .unset] [(.ref b1), (.ref b1)])) _
  refine XS.bipush X27.here hx rfl (hb hby at_172) ?_
  show Steps p.tables e below (T27.setTop (mkF m 174 #[.val (.int p0), .val (.int p1), .val (.int p2), .unset, .unset, .unset, .unset, .unset, .unset, .unset] [(.int (26 : Int32)), (.ref b1), (.ref b1)])) _
  refine X27.ldcInt hx hown (mvT hZ (hw _ (List.mem_of_getElem? (i := 6) rfl))) (g := (mkF m 174 #[.val (.int p0), .val (.int p1), .val (.int p2), .unset, .unset, .unset, .unset, .unset, .unset, .unset] [(.int (26 : Int32)), (.ref b1), (.ref b1)])) rfl (hb hby at_174) _ ?_
  show Steps p.tables e below (T27.setTop (mkF m 176 #[.val (.int p0), .val (.int p1), .val (.int p2), .unset, .unset, .unset, .unset, .unset, .unset, .unset] [(.int (65536 : Int32)), (.int (26 : Int32)), (.ref b1), (.ref b1)])) _
  refine st28 _ ?_
  show Steps p.tables e below (T28.setTop (mkF m 177 #[.val (.int p0), .val (.int p1), .val (.int p2), .unset, .unset, .unset, .unset, .unset, .unset, .unset] [(.ref b1)])) _
  refine XS.dup X28.here hx rfl (hb hby at_177) rfl rfl ?_
  show Steps p.tables e below (T28.setTop (mkF m 178 #[.val (.int p0), .val (.int p1), .val (.int p2), .unset, .unset, .unset, .unset, .unset, .unset, .unset] [(.ref b1), (.ref b1)])) _
  refine XS.bipush X28.here hx rfl (hb hby at_178) ?_
  show Steps p.tables e below (T28.setTop (mkF m 180 #[.val (.int p0), .val (.int p1), .val (.int p2), .unset, .unset, .unset, .unset, .unset, .unset, .unset] [(.int (27 : Int32)), (.ref b1), (.ref b1)])) _
  refine X28.ldcInt hx hown (mvT hZ (hw _ (List.mem_of_getElem? (i := 7) rfl))) (g := (mkF m 180 #[.val (.int p0), .val (.int p1), .val (.int p2), .unset, .unset, .unset, .unset, .unset, .unset, .unset] [(.int (27 : Int32)), (.ref b1), (.ref b1)])) rfl (hb hby at_180) _ ?_
  show Steps p.tables e below (T28.setTop (mkF m 182 #[.val (.int p0), .val (.int p1), .val (.int p2), .unset, .unset, .unset, .unset, .unset, .unset, .unset] [(.int (983039 : Int32)), (.int (27 : Int32)), (.ref b1), (.ref b1)])) _
  refine st29 _ ?_
  show Steps p.tables e below (T29.setTop (mkF m 183 #[.val (.int p0), .val (.int p1), .val (.int p2), .unset, .unset, .unset, .unset, .unset, .unset, .unset] [(.ref b1)])) _
  refine XS.astoreN X29.here hx rfl (hb hby at_183) rfl rfl (l' := #[.val (.int p0), .val (.int p1), .val (.int p2), .val (.ref b1), .unset, .unset, .unset, .unset, .unset, .unset]) rfl ?_
  show Steps p.tables e below (T29.setTop (mkF m 184 #[.val (.int p0), .val (.int p1), .val (.int p2), .val (.ref b1), .unset, .unset, .unset, .unset, .unset, .unset] [])) _
  refine XS.iloadN X29.here hx rfl (hb hby at_184) rfl ?_
  show Steps p.tables e below (T29.setTop (mkF m 185 #[.val (.int p0), .val (.int p1), .val (.int p2), .val (.ref b1), .unset, .unset, .unset, .unset, .unset, .unset] [(.int p0)])) _
  refine XS.istore X29.here hx rfl (hb hby at_185) rfl (l' := #[.val (.int p0), .val (.int p1), .val (.int p2), .val (.ref b1), .val (.int p0), .unset, .unset, .unset, .unset, .unset]) rfl ?_
  show Steps p.tables e below (T29.setTop (mkF m 187 #[.val (.int p0), .val (.int p1), .val (.int p2), .val (.ref b1), .val (.int p0), .unset, .unset, .unset, .unset, .unset] [])) _
  refine XS.iloadN X29.here hx rfl (hb hby at_187) rfl ?_
  show Steps p.tables e below (T29.setTop (mkF m 188 #[.val (.int p0), .val (.int p1), .val (.int p2), .val (.ref b1), .val (.int p0), .unset, .unset, .unset, .unset, .unset] [(.int p0)])) _
  refine X29.ldcInt hx hown (mvT hZ (hw _ (List.mem_of_getElem? (i := 8) rfl))) (g := (mkF m 188 #[.val (.int p0), .val (.int p1), .val (.int p2), .val (.ref b1), .val (.int p0), .unset, .unset, .unset, .unset, .unset] [(.int p0)])) rfl (hb hby at_188) _ ?_
  show Steps p.tables e below (T29.setTop (mkF m 190 #[.val (.int p0), .val (.int p1), .val (.int p2), .val (.ref b1), .val (.int p0), .unset, .unset, .unset, .unset, .unset] [(.int (2097151 : Int32)), (.int p0)])) _
  refine XS.iand X29.here hx rfl (hb hby at_190) rfl ?_
  show Steps p.tables e below (T29.setTop (mkF m 191 #[.val (.int p0), .val (.int p1), .val (.int p2), .val (.ref b1), .val (.int p0), .unset, .unset, .unset, .unset, .unset] [(.int (p0 &&& (2097151 : Int32)))])) _
  refine XS.istore X29.here hx rfl (hb hby at_191) rfl (l' := #[.val (.int p0), .val (.int p1), .val (.int p2), .val (.ref b1), .val (.int p0), .val (.int (p0 &&& (2097151 : Int32))), .unset, .unset, .unset, .unset]) rfl ?_
  show Steps p.tables e below (T29.setTop (mkF m 193 #[.val (.int p0), .val (.int p1), .val (.int p2), .val (.ref b1), .val (.int p0), .val (.int (p0 &&& (2097151 : Int32))), .unset, .unset, .unset, .unset] [])) _
  refine XS.aloadN X29.here hx rfl (hb hby at_193) rfl rfl ?_
  show Steps p.tables e below (T29.setTop (mkF m 194 #[.val (.int p0), .val (.int p1), .val (.int p2), .val (.ref b1), .val (.int p0), .val (.int (p0 &&& (2097151 : Int32))), .unset, .unset, .unset, .unset] [(.ref b1)])) _
  refine XS.iloadN X29.here hx rfl (hb hby at_194) rfl ?_
  show Steps p.tables e below (T29.setTop (mkF m 195 #[.val (.int p0), .val (.int p1), .val (.int p2), .val (.ref b1), .val (.int p0), .val (.int (p0 &&& (2097151 : Int32))), .unset, .unset, .unset, .unset] [(.int p1), (.ref b1)])) _
  refine X29.ldcInt hx hown (mvT hZ (hw _ (List.mem_of_getElem? (i := 9) rfl))) (g := (mkF m 195 #[.val (.int p0), .val (.int p1), .val (.int p2), .val (.ref b1), .val (.int p0), .val (.int (p0 &&& (2097151 : Int32))), .unset, .unset, .unset, .unset] [(.int p1), (.ref b1)])) rfl (hb hby at_195) _ ?_
  show Steps p.tables e below (T29.setTop (mkF m 197 #[.val (.int p0), .val (.int p1), .val (.int p2), .val (.ref b1), .val (.int p0), .val (.int (p0 &&& (2097151 : Int32))), .unset, .unset, .unset, .unset] [(.int (2147483647 : Int32)), (.int p1), (.ref b1)])) _
  refine XS.iand X29.here hx rfl (hb hby at_197) rfl ?_
  show Steps p.tables e below (T29.setTop (mkF m 198 #[.val (.int p0), .val (.int p1), .val (.int p2), .val (.ref b1), .val (.int p0), .val (.int (p0 &&& (2097151 : Int32))), .unset, .unset, .unset, .unset] [(.int (p1 &&& (2147483647 : Int32))), (.ref b1)])) _
  refine XS.bipush X29.here hx rfl (hb hby at_198) ?_
  show Steps p.tables e below (T29.setTop (mkF m 200 #[.val (.int p0), .val (.int p1), .val (.int p2), .val (.ref b1), .val (.int p0), .val (.int (p0 &&& (2097151 : Int32))), .unset, .unset, .unset, .unset] [(.int (28 : Int32)), (.int (p1 &&& (2147483647 : Int32))), (.ref b1)])) _
  refine XS.irem X29.here hx rfl (hb hby at_200) rfl (by decide) ?_
  show Steps p.tables e below (T29.setTop (mkF m 201 #[.val (.int p0), .val (.int p1), .val (.int p2), .val (.ref b1), .val (.int p0), .val (.int (p0 &&& (2097151 : Int32))), .unset, .unset, .unset, .unset] [(.int ((p1 &&& (2147483647 : Int32)) - ((p1 &&& (2147483647 : Int32)) / (28 : Int32)) * (28 : Int32))), (.ref b1)])) _
  refine st30 _ ?_
  show Steps p.tables e below (T29.setTop (mkF m 202 #[.val (.int p0), .val (.int p1), .val (.int p2), .val (.ref b1), .val (.int p0), .val (.int (p0 &&& (2097151 : Int32))), .unset, .unset, .unset, .unset] [(.int z30)])) _
  refine XS.iloadN X29.here hx rfl (hb hby at_202) rfl ?_
  show Steps p.tables e below (T29.setTop (mkF m 203 #[.val (.int p0), .val (.int p1), .val (.int p2), .val (.ref b1), .val (.int p0), .val (.int (p0 &&& (2097151 : Int32))), .unset, .unset, .unset, .unset] [(.int p2), (.int z30)])) _
  refine X29.ldcInt hx hown (mvT hZ (hw _ (List.mem_of_getElem? (i := 9) rfl))) (g := (mkF m 203 #[.val (.int p0), .val (.int p1), .val (.int p2), .val (.ref b1), .val (.int p0), .val (.int (p0 &&& (2097151 : Int32))), .unset, .unset, .unset, .unset] [(.int p2), (.int z30)])) rfl (hb hby at_203) _ ?_
  show Steps p.tables e below (T29.setTop (mkF m 205 #[.val (.int p0), .val (.int p1), .val (.int p2), .val (.ref b1), .val (.int p0), .val (.int (p0 &&& (2097151 : Int32))), .unset, .unset, .unset, .unset] [(.int (2147483647 : Int32)), (.int p2), (.int z30)])) _
  refine XS.iand X29.here hx rfl (hb hby at_205) rfl ?_
  show Steps p.tables e below (T29.setTop (mkF m 206 #[.val (.int p0), .val (.int p1), .val (.int p2), .val (.ref b1), .val (.int p0), .val (.int (p0 &&& (2097151 : Int32))), .unset, .unset, .unset, .unset] [(.int (p2 &&& (2147483647 : Int32))), (.int z30)])) _
  refine XS.iconst X29.here hx rfl (hb hby at_206) ?_
  show Steps p.tables e below (T29.setTop (mkF m 207 #[.val (.int p0), .val (.int p1), .val (.int p2), .val (.ref b1), .val (.int p0), .val (.int (p0 &&& (2097151 : Int32))), .unset, .unset, .unset, .unset] [(.int (3 : Int32)), (.int (p2 &&& (2147483647 : Int32))), (.int z30)])) _
  refine XS.irem X29.here hx rfl (hb hby at_207) rfl (by decide) ?_
  show Steps p.tables e below (T29.setTop (mkF m 208 #[.val (.int p0), .val (.int p1), .val (.int p2), .val (.ref b1), .val (.int p0), .val (.int (p0 &&& (2097151 : Int32))), .unset, .unset, .unset, .unset] [(.int ((p2 &&& (2147483647 : Int32)) - ((p2 &&& (2147483647 : Int32)) / (3 : Int32)) * (3 : Int32))), (.int z30)])) _
  refine XS.iadd X29.here hx rfl (hb hby at_208) rfl ?_
  show Steps p.tables e below (T29.setTop (mkF m 209 #[.val (.int p0), .val (.int p1), .val (.int p2), .val (.ref b1), .val (.int p0), .val (.int (p0 &&& (2097151 : Int32))), .unset, .unset, .unset, .unset] [(.int (z30 + ((p2 &&& (2147483647 : Int32)) - ((p2 &&& (2147483647 : Int32)) / (3 : Int32)) * (3 : Int32))))])) _
  refine XS.iconst X29.here hx rfl (hb hby at_209) ?_
  show Steps p.tables e below (T29.setTop (mkF m 210 #[.val (.int p0), .val (.int p1), .val (.int p2), .val (.ref b1), .val (.int p0), .val (.int (p0 &&& (2097151 : Int32))), .unset, .unset, .unset, .unset] [(.int (1 : Int32)), (.int (z30 + ((p2 &&& (2147483647 : Int32)) - ((p2 &&& (2147483647 : Int32)) / (3 : Int32)) * (3 : Int32))))])) _
  refine XS.isub X29.here hx rfl (hb hby at_210) rfl ?_
  show Steps p.tables e below (T29.setTop (mkF m 211 #[.val (.int p0), .val (.int p1), .val (.int p2), .val (.ref b1), .val (.int p0), .val (.int (p0 &&& (2097151 : Int32))), .unset, .unset, .unset, .unset] [(.int ((z30 + ((p2 &&& (2147483647 : Int32)) - ((p2 &&& (2147483647 : Int32)) / (3 : Int32)) * (3 : Int32))) - (1 : Int32)))])) _
  refine XS.istore X29.here hx rfl (hb hby at_211) rfl (l' := #[.val (.int p0), .val (.int p1), .val (.int p2), .val (.ref b1), .val (.int p0), .val (.int (p0 &&& (2097151 : Int32))), .val (.int ((z30 + ((p2 &&& (2147483647 : Int32)) - ((p2 &&& (2147483647 : Int32)) / (3 : Int32)) * (3 : Int32))) - (1 : Int32))), .unset, .unset, .unset]) rfl ?_
  show Steps p.tables e below (T29.setTop (mkF m 213 #[.val (.int p0), .val (.int p1), .val (.int p2), .val (.ref b1), .val (.int p0), .val (.int (p0 &&& (2097151 : Int32))), .val (.int ((z30 + ((p2 &&& (2147483647 : Int32)) - ((p2 &&& (2147483647 : Int32)) / (3 : Int32)) * (3 : Int32))) - (1 : Int32))), .unset, .unset, .unset] [])) _
  refine XS.iload X29.here hx rfl (hb hby at_213) rfl ?_
  show Steps p.tables e below (T29.setTop (mkF m 215 #[.val (.int p0), .val (.int p1), .val (.int p2), .val (.ref b1), .val (.int p0), .val (.int (p0 &&& (2097151 : Int32))), .val (.int ((z30 + ((p2 &&& (2147483647 : Int32)) - ((p2 &&& (2147483647 : Int32)) / (3 : Int32)) * (3 : Int32))) - (1 : Int32))), .unset, .unset, .unset] [(.int p0)])) _
  refine st31 _ ?_
  show Steps p.tables e below (T31.setTop (mkF m 218 #[.val (.int p0), .val (.int p1), .val (.int p2), .val (.ref b1), .val (.int p0), .val (.int (p0 &&& (2097151 : Int32))), .val (.int ((z30 + ((p2 &&& (2147483647 : Int32)) - ((p2 &&& (2147483647 : Int32)) / (3 : Int32)) * (3 : Int32))) - (1 : Int32))), .unset, .unset, .unset] [(.int (F1_0 p0))])) _
  refine XS.iload X31.here hx rfl (hb hby at_218) rfl ?_
  show Steps p.tables e below (T31.setTop (mkF m 220 #[.val (.int p0), .val (.int p1), .val (.int p2), .val (.ref b1), .val (.int p0), .val (.int (p0 &&& (2097151 : Int32))), .val (.int ((z30 + ((p2 &&& (2147483647 : Int32)) - ((p2 &&& (2147483647 : Int32)) / (3 : Int32)) * (3 : Int32))) - (1 : Int32))), .unset, .unset, .unset] [(.int p0), (.int (F1_0 p0))])) _
  refine st32 _ ?_
  show Steps p.tables e below (T32.setTop (mkF m 223 #[.val (.int p0), .val (.int p1), .val (.int p2), .val (.ref b1), .val (.int p0), .val (.int (p0 &&& (2097151 : Int32))), .val (.int ((z30 + ((p2 &&& (2147483647 : Int32)) - ((p2 &&& (2147483647 : Int32)) / (3 : Int32)) * (3 : Int32))) - (1 : Int32))), .unset, .unset, .unset] [(.int (F2_0 p0)), (.int (F1_0 p0))])) _
  refine XS.icmpNo X32.here hx rfl (hb hby at_223) rfl (teq (own_same _)).2 ?_
  show Steps p.tables e below (T32.setTop (mkF m 226 #[.val (.int p0), .val (.int p1), .val (.int p2), .val (.ref b1), .val (.int p0), .val (.int (p0 &&& (2097151 : Int32))), .val (.int ((z30 + ((p2 &&& (2147483647 : Int32)) - ((p2 &&& (2147483647 : Int32)) / (3 : Int32)) * (3 : Int32))) - (1 : Int32))), .unset, .unset, .unset] [])) _
  refine XS.iconst X32.here hx rfl (hb hby at_226) ?_
  show Steps p.tables e below (T32.setTop (mkF m 227 #[.val (.int p0), .val (.int p1), .val (.int p2), .val (.ref b1), .val (.int p0), .val (.int (p0 &&& (2097151 : Int32))), .val (.int ((z30 + ((p2 &&& (2147483647 : Int32)) - ((p2 &&& (2147483647 : Int32)) / (3 : Int32)) * (3 : Int32))) - (1 : Int32))), .unset, .unset, .unset] [(.int (1 : Int32))])) _
  refine XS.goto X32.here hx rfl (pc0 := 227) (pc' := 231) rfl (hb hby at_227) (by decide) (by decide) ?_
  show Steps p.tables e below (T32.setTop (mkF m 231 #[.val (.int p0), .val (.int p1), .val (.int p2), .val (.ref b1), .val (.int p0), .val (.int (p0 &&& (2097151 : Int32))), .val (.int ((z30 + ((p2 &&& (2147483647 : Int32)) - ((p2 &&& (2147483647 : Int32)) / (3 : Int32)) * (3 : Int32))) - (1 : Int32))), .unset, .unset, .unset] [(.int (1 : Int32))])) _
  refine XS.istore X32.here hx rfl (hb hby at_231) rfl (l' := #[.val (.int p0), .val (.int p1), .val (.int p2), .val (.ref b1), .val (.int p0), .val (.int (p0 &&& (2097151 : Int32))), .val (.int ((z30 + ((p2 &&& (2147483647 : Int32)) - ((p2 &&& (2147483647 : Int32)) / (3 : Int32)) * (3 : Int32))) - (1 : Int32))), .val (.int (1 : Int32)), .unset, .unset]) rfl ?_
  show Steps p.tables e below (T32.setTop (mkF m 233 #[.val (.int p0), .val (.int p1), .val (.int p2), .val (.ref b1), .val (.int p0), .val (.int (p0 &&& (2097151 : Int32))), .val (.int ((z30 + ((p2 &&& (2147483647 : Int32)) - ((p2 &&& (2147483647 : Int32)) / (3 : Int32)) * (3 : Int32))) - (1 : Int32))), .val (.int (1 : Int32)), .unset, .unset] [])) _
  refine XS.iload X32.here hx rfl (hb hby at_233) rfl ?_
  show Steps p.tables e below (T32.setTop (mkF m 235 #[.val (.int p0), .val (.int p1), .val (.int p2), .val (.ref b1), .val (.int p0), .val (.int (p0 &&& (2097151 : Int32))), .val (.int ((z30 + ((p2 &&& (2147483647 : Int32)) - ((p2 &&& (2147483647 : Int32)) / (3 : Int32)) * (3 : Int32))) - (1 : Int32))), .val (.int (1 : Int32)), .unset, .unset] [(.int (p0 &&& (2097151 : Int32)))])) _
  refine st33 _ ?_
  show Steps p.tables e below (T33.setTop (mkF m 238 #[.val (.int p0), .val (.int p1), .val (.int p2), .val (.ref b1), .val (.int p0), .val (.int (p0 &&& (2097151 : Int32))), .val (.int ((z30 + ((p2 &&& (2147483647 : Int32)) - ((p2 &&& (2147483647 : Int32)) / (3 : Int32)) * (3 : Int32))) - (1 : Int32))), .val (.int (1 : Int32)), .unset, .unset] [(.int (F1_0 (p0 &&& (2097151 : Int32))))])) _
  refine XS.iload X33.here hx rfl (hb hby at_238) rfl ?_
  show Steps p.tables e below (T33.setTop (mkF m 240 #[.val (.int p0), .val (.int p1), .val (.int p2), .val (.ref b1), .val (.int p0), .val (.int (p0 &&& (2097151 : Int32))), .val (.int ((z30 + ((p2 &&& (2147483647 : Int32)) - ((p2 &&& (2147483647 : Int32)) / (3 : Int32)) * (3 : Int32))) - (1 : Int32))), .val (.int (1 : Int32)), .unset, .unset] [(.int (p0 &&& (2097151 : Int32))), (.int (F1_0 (p0 &&& (2097151 : Int32))))])) _
  refine st34 _ ?_
  show Steps p.tables e below (T34.setTop (mkF m 243 #[.val (.int p0), .val (.int p1), .val (.int p2), .val (.ref b1), .val (.int p0), .val (.int (p0 &&& (2097151 : Int32))), .val (.int ((z30 + ((p2 &&& (2147483647 : Int32)) - ((p2 &&& (2147483647 : Int32)) / (3 : Int32)) * (3 : Int32))) - (1 : Int32))), .val (.int (1 : Int32)), .unset, .unset] [(.int (F2_0 (p0 &&& (2097151 : Int32)))), (.int (F1_0 (p0 &&& (2097151 : Int32))))])) _
  refine XS.icmpNo X34.here hx rfl (hb hby at_243) rfl (teq (own_same _)).2 ?_
  show Steps p.tables e below (T34.setTop (mkF m 246 #[.val (.int p0), .val (.int p1), .val (.int p2), .val (.ref b1), .val (.int p0), .val (.int (p0 &&& (2097151 : Int32))), .val (.int ((z30 + ((p2 &&& (2147483647 : Int32)) - ((p2 &&& (2147483647 : Int32)) / (3 : Int32)) * (3 : Int32))) - (1 : Int32))), .val (.int (1 : Int32)), .unset, .unset] [])) _
  refine XS.iconst X34.here hx rfl (hb hby at_246) ?_
  show Steps p.tables e below (T34.setTop (mkF m 247 #[.val (.int p0), .val (.int p1), .val (.int p2), .val (.ref b1), .val (.int p0), .val (.int (p0 &&& (2097151 : Int32))), .val (.int ((z30 + ((p2 &&& (2147483647 : Int32)) - ((p2 &&& (2147483647 : Int32)) / (3 : Int32)) * (3 : Int32))) - (1 : Int32))), .val (.int (1 : Int32)), .unset, .unset] [(.int (1 : Int32))])) _
  refine XS.goto X34.here hx rfl (pc0 := 247) (pc' := 251) rfl (hb hby at_247) (by decide) (by decide) ?_
  show Steps p.tables e below (T34.setTop (mkF m 251 #[.val (.int p0), .val (.int p1), .val (.int p2), .val (.ref b1), .val (.int p0), .val (.int (p0 &&& (2097151 : Int32))), .val (.int ((z30 + ((p2 &&& (2147483647 : Int32)) - ((p2 &&& (2147483647 : Int32)) / (3 : Int32)) * (3 : Int32))) - (1 : Int32))), .val (.int (1 : Int32)), .unset, .unset] [(.int (1 : Int32))])) _
  refine XS.istore X34.here hx rfl (hb hby at_251) rfl (l' := #[.val (.int p0), .val (.int p1), .val (.int p2), .val (.ref b1), .val (.int p0), .val (.int (p0 &&& (2097151 : Int32))), .val (.int ((z30 + ((p2 &&& (2147483647 : Int32)) - ((p2 &&& (2147483647 : Int32)) / (3 : Int32)) * (3 : Int32))) - (1 : Int32))), .val (.int (1 : Int32)), .val (.int (1 : Int32)), .unset]) rfl ?_
  show Steps p.tables e below (T34.setTop (mkF m 253 #[.val (.int p0), .val (.int p1), .val (.int p2), .val (.ref b1), .val (.int p0), .val (.int (p0 &&& (2097151 : Int32))), .val (.int ((z30 + ((p2 &&& (2147483647 : Int32)) - ((p2 &&& (2147483647 : Int32)) / (3 : Int32)) * (3 : Int32))) - (1 : Int32))), .val (.int (1 : Int32)), .val (.int (1 : Int32)), .unset] [])) _
  refine XS.iload X34.here hx rfl (hb hby at_253) rfl ?_
  show Steps p.tables e below (T34.setTop (mkF m 255 #[.val (.int p0), .val (.int p1), .val (.int p2), .val (.ref b1), .val (.int p0), .val (.int (p0 &&& (2097151 : Int32))), .val (.int ((z30 + ((p2 &&& (2147483647 : Int32)) - ((p2 &&& (2147483647 : Int32)) / (3 : Int32)) * (3 : Int32))) - (1 : Int32))), .val (.int (1 : Int32)), .val (.int (1 : Int32)), .unset] [(.int ((z30 + ((p2 &&& (2147483647 : Int32)) - ((p2 &&& (2147483647 : Int32)) / (3 : Int32)) * (3 : Int32))) - (1 : Int32)))])) _
  refine st35 _ ?_
  show Steps p.tables e below (T35.setTop (mkF m 258 #[.val (.int p0), .val (.int p1), .val (.int p2), .val (.ref b1), .val (.int p0), .val (.int (p0 &&& (2097151 : Int32))), .val (.int ((z30 + ((p2 &&& (2147483647 : Int32)) - ((p2 &&& (2147483647 : Int32)) / (3 : Int32)) * (3 : Int32))) - (1 : Int32))), .val (.int (1 : Int32)), .val (.int (1 : Int32)), .unset] [(.int (F1_0 ((z30 + ((p2 &&& (2147483647 : Int32)) - ((p2 &&& (2147483647 : Int32)) / (3 : Int32)) * (3 : Int32))) - (1 : Int32))))])) _
  refine XS.iload X35.here hx rfl (hb hby at_258) rfl ?_
  show Steps p.tables e below (T35.setTop (mkF m 260 #[.val (.int p0), .val (.int p1), .val (.int p2), .val (.ref b1), .val (.int p0), .val (.int (p0 &&& (2097151 : Int32))), .val (.int ((z30 + ((p2 &&& (2147483647 : Int32)) - ((p2 &&& (2147483647 : Int32)) / (3 : Int32)) * (3 : Int32))) - (1 : Int32))), .val (.int (1 : Int32)), .val (.int (1 : Int32)), .unset] [(.int ((z30 + ((p2 &&& (2147483647 : Int32)) - ((p2 &&& (2147483647 : Int32)) / (3 : Int32)) * (3 : Int32))) - (1 : Int32))), (.int (F1_0 ((z30 + ((p2 &&& (2147483647 : Int32)) - ((p2 &&& (2147483647 : Int32)) / (3 : Int32)) * (3 : Int32))) - (1 : Int32))))])) _
  refine st36 _ ?_
  show Steps p.tables e below (T36.setTop (mkF m 263 #[.val (.int p0), .val (.int p1), .val (.int p2), .val (.ref b1), .val (.int p0), .val (.int (p0 &&& (2097151 : Int32))), .val (.int ((z30 + ((p2 &&& (2147483647 : Int32)) - ((p2 &&& (2147483647 : Int32)) / (3 : Int32)) * (3 : Int32))) - (1 : Int32))), .val (.int (1 : Int32)), .val (.int (1 : Int32)), .unset] [(.int (F2_0 ((z30 + ((p2 &&& (2147483647 : Int32)) - ((p2 &&& (2147483647 : Int32)) / (3 : Int32)) * (3 : Int32))) - (1 : Int32)))), (.int (F1_0 ((z30 + ((p2 &&& (2147483647 : Int32)) - ((p2 &&& (2147483647 : Int32)) / (3 : Int32)) * (3 : Int32))) - (1 : Int32))))])) _
  refine XS.icmpNo X36.here hx rfl (hb hby at_263) rfl (teq (own_same _)).2 ?_
  show Steps p.tables e below (T36.setTop (mkF m 266 #[.val (.int p0), .val (.int p1), .val (.int p2), .val (.ref b1), .val (.int p0), .val (.int (p0 &&& (2097151 : Int32))), .val (.int ((z30 + ((p2 &&& (2147483647 : Int32)) - ((p2 &&& (2147483647 : Int32)) / (3 : Int32)) * (3 : Int32))) - (1 : Int32))), .val (.int (1 : Int32)), .val (.int (1 : Int32)), .unset] [])) _
  refine XS.iconst X36.here hx rfl (hb hby at_266) ?_
  show Steps p.tables e below (T36.setTop (mkF m 267 #[.val (.int p0), .val (.int p1), .val (.int p2), .val (.ref b1), .val (.int p0), .val (.int (p0 &&& (2097151 : Int32))), .val (.int ((z30 + ((p2 &&& (2147483647 : Int32)) - ((p2 &&& (2147483647 : Int32)) / (3 : Int32)) * (3 : Int32))) - (1 : Int32))), .val (.int (1 : Int32)), .val (.int (1 : Int32)), .unset] [(.int (1 : Int32))])) _
  refine XS.goto X36.here hx rfl (pc0 := 267) (pc' := 271) rfl (hb hby at_267) (by decide) (by decide) ?_
  show Steps p.tables e below (T36.setTop (mkF m 271 #[.val (.int p0), .val (.int p1), .val (.int p2), .val (.ref b1), .val (.int p0), .val (.int (p0 &&& (2097151 : Int32))), .val (.int ((z30 + ((p2 &&& (2147483647 : Int32)) - ((p2 &&& (2147483647 : Int32)) / (3 : Int32)) * (3 : Int32))) - (1 : Int32))), .val (.int (1 : Int32)), .val (.int (1 : Int32)), .unset] [(.int (1 : Int32))])) _
  refine XS.istore X36.here hx rfl (hb hby at_271) rfl (l' := #[.val (.int p0), .val (.int p1), .val (.int p2), .val (.ref b1), .val (.int p0), .val (.int (p0 &&& (2097151 : Int32))), .val (.int ((z30 + ((p2 &&& (2147483647 : Int32)) - ((p2 &&& (2147483647 : Int32)) / (3 : Int32)) * (3 : Int32))) - (1 : Int32))), .val (.int (1 : Int32)), .val (.int (1 : Int32)), .val (.int (1 : Int32))]) rfl ?_
  show Steps p.tables e below (T36.setTop (mkF m 273 #[.val (.int p0), .val (.int p1), .val (.int p2), .val (.ref b1), .val (.int p0), .val (.int (p0 &&& (2097151 : Int32))), .val (.int ((z30 + ((p2 &&& (2147483647 : Int32)) - ((p2 &&& (2147483647 : Int32)) / (3 : Int32)) * (3 : Int32))) - (1 : Int32))), .val (.int (1 : Int32)), .val (.int (1 : Int32)), .val (.int (1 : Int32))] [])) _
  refine XS.iload X36.here hx rfl (hb hby at_273) rfl ?_
  show Steps p.tables e below (T36.setTop (mkF m 275 #[.val (.int p0), .val (.int p1), .val (.int p2), .val (.ref b1), .val (.int p0), .val (.int (p0 &&& (2097151 : Int32))), .val (.int ((z30 + ((p2 &&& (2147483647 : Int32)) - ((p2 &&& (2147483647 : Int32)) / (3 : Int32)) * (3 : Int32))) - (1 : Int32))), .val (.int (1 : Int32)), .val (.int (1 : Int32)), .val (.int (1 : Int32))] [(.int (1 : Int32))])) _
  refine XS.ifNo X36.here hx rfl (hb hby at_275) rfl ((if0 _ _).trans (feq (by decide)).1) ?_
  show Steps p.tables e below (T36.setTop (mkF m 278 #[.val (.int p0), .val (.int p1), .val (.int p2), .val (.ref b1), .val (.int p0), .val (.int (p0 &&& (2097151 : Int32))), .val (.int ((z30 + ((p2 &&& (2147483647 : Int32)) - ((p2 &&& (2147483647 : Int32)) / (3 : Int32)) * (3 : Int32))) - (1 : Int32))), .val (.int (1 : Int32)), .val (.int (1 : Int32)), .val (.int (1 : Int32))] [])) _
  refine XS.iload X36.here hx rfl (hb hby at_278) rfl ?_
  show Steps p.tables e below (T36.setTop (mkF m 280 #[.val (.int p0), .val (.int p1), .val (.int p2), .val (.ref b1), .val (.int p0), .val (.int (p0 &&& (2097151 : Int32))), .val (.int ((z30 + ((p2 &&& (2147483647 : Int32)) - ((p2 &&& (2147483647 : Int32)) / (3 : Int32)) * (3 : Int32))) - (1 : Int32))), .val (.int (1 : Int32)), .val (.int (1 : Int32)), .val (.int (1 : Int32))] [(.int (1 : Int32))])) _
  refine XS.ifNo X36.here hx rfl (hb hby at_280) rfl ((if0 _ _).trans (feq (by decide)).1) ?_
  show Steps p.tables e below (T36.setTop (mkF m 283 #[.val (.int p0), .val (.int p1), .val (.int p2), .val (.ref b1), .val (.int p0), .val (.int (p0 &&& (2097151 : Int32))), .val (.int ((z30 + ((p2 &&& (2147483647 : Int32)) - ((p2 &&& (2147483647 : Int32)) / (3 : Int32)) * (3 : Int32))) - (1 : Int32))), .val (.int (1 : Int32)), .val (.int (1 : Int32)), .val (.int (1 : Int32))] [])) _
  refine XS.iload X36.here hx rfl (hb hby at_283) rfl ?_
  show Steps p.tables e below (T36.setTop (mkF m 285 #[.val (.int p0), .val (.int p1), .val (.int p2), .val (.ref b1), .val (.int p0), .val (.int (p0 &&& (2097151 : Int32))), .val (.int ((z30 + ((p2 &&& (2147483647 : Int32)) - ((p2 &&& (2147483647 : Int32)) / (3 : Int32)) * (3 : Int32))) - (1 : Int32))), .val (.int (1 : Int32)), .val (.int (1 : Int32)), .val (.int (1 : Int32))] [(.int (1 : Int32))])) _
  refine XS.ifNo X36.here hx rfl (hb hby at_285) rfl ((if0 _ _).trans (feq (by decide)).1) ?_
  show Steps p.tables e below (T36.setTop (mkF m 288 #[.val (.int p0), .val (.int p1), .val (.int p2), .val (.ref b1), .val (.int p0), .val (.int (p0 &&& (2097151 : Int32))), .val (.int ((z30 + ((p2 &&& (2147483647 : Int32)) - ((p2 &&& (2147483647 : Int32)) / (3 : Int32)) * (3 : Int32))) - (1 : Int32))), .val (.int (1 : Int32)), .val (.int (1 : Int32)), .val (.int (1 : Int32))] [])) _
  refine XS.iconst X36.here hx rfl (hb hby at_288) ?_
  show Steps p.tables e below (T36.setTop (mkF m 289 #[.val (.int p0), .val (.int p1), .val (.int p2), .val (.ref b1), .val (.int p0), .val (.int (p0 &&& (2097151 : Int32))), .val (.int ((z30 + ((p2 &&& (2147483647 : Int32)) - ((p2 &&& (2147483647 : Int32)) / (3 : Int32)) * (3 : Int32))) - (1 : Int32))), .val (.int (1 : Int32)), .val (.int (1 : Int32)), .val (.int (1 : Int32))] [(.int (1 : Int32))])) _
  refine XS.goto X36.here hx rfl (pc0 := 289) (pc' := 293) rfl (hb hby at_289) (by decide) (by decide) ?_
  show Steps p.tables e below (T36.setTop (mkF m 293 #[.val (.int p0), .val (.int p1), .val (.int p2), .val (.ref b1), .val (.int p0), .val (.int (p0 &&& (2097151 : Int32))), .val (.int ((z30 + ((p2 &&& (2147483647 : Int32)) - ((p2 &&& (2147483647 : Int32)) / (3 : Int32)) * (3 : Int32))) - (1 : Int32))), .val (.int (1 : Int32)), .val (.int (1 : Int32)), .val (.int (1 : Int32))] [(.int (1 : Int32))])) _
  exact retN X36 hx (t := .boolean) Bd.returns (by simp) (hb hby at_293) hr
set_option maxRecDepth 65536 in
set_option maxHeartbeats 40000000 in
theorem comes_1 {Post : Tables → Env → Array Value → State → Outcome → State → Prop} (hpost : ∀ tb e args s v u, (limb_1_1.after args s (.returned v) u = true ∧ limb_1_2.after args s (.returned v) u = true ∧ True) → FrameEnd s (.returned v) u (Jvm.fieldLocs frame_1_writes args s ++ Jvm.arrayLocs frame_1_arrays args s ++ Jvm.staticLocs frame_1_statics s) 16 128 → Post tb e args s (.returned v) u) :
    ArmFor flags0 classFile x code maxLocals ret World_1 tables_1 room_1 Calls_1 rest_1 Pre_1 Post := by
  intro l hfl _ _ p e ha hc hk s m args below hf hA hF happ hP
  obtain ⟨hcalls, hrest, hpre⟩ := hP
  obtain ⟨-, -, -, hnamed, -, -, -, hat⟩ := (Spec.applies_iff hf).mp happ
  obtain ⟨hg, hn⟩ := and_e (Cond.before_iff.mp (show (Jvm.Cond.and given_1 narrow_1).before args s = true from hpre))
  obtain ⟨gc, g0⟩ := and_e hg
  obtain ⟨k0, g1⟩ := and_e g0
  obtain ⟨k1, g2⟩ := and_e g1
  have k2 := g2
  obtain ⟨w0, w1, w2, rfl⟩ : ∃ w0 w1 w2 : Value, args = #[w0, w1, w2] := by
    have hs : args.size = 3 := by simpa [Cond.value, given_1] using gc
    obtain ⟨L⟩ := args
    match L, hs with
    | [w0, w1, w2], _ => exact ⟨w0, w1, w2, rfl⟩
  have hw := fun d (hd : d ∈ tables_1) => atoms_spec (ws := Jvm.Cond.code x code maxLocals ret :: tables_1) hat d (List.mem_cons_of_mem _ hd)
  obtain ⟨i0, ei0⟩ := is_v k0
  obtain rfl : w0 = (.int i0) := Option.some.inj ei0
  obtain ⟨i1, ei1⟩ := is_v k1
  obtain rfl : w1 = (.int i1) := Option.some.inj ei1
  obtain ⟨i2, ei2⟩ := is_v k2
  obtain rfl : w2 = (.int i2) := Option.some.inj ei2
  obtain ⟨n, o, h1, h2, h3, _, L, rfl, ⟨rfl, N⟩, hq⟩ := rm0 l s _ hw tables_1 i0 i1 i2 s.heap s.heap.size (Nat.le_refl _) p e ha hc hk s m _ below hf ((Spec.applies_iff_loose hf).mp happ).1 ⟨rfl, State.Warmed39.refl s, rfl⟩ trivial
  refine ⟨n, _, h1, h2, h3, hpost _ _ _ _ _ _ ⟨Cond.after_iff.mpr rfl, Cond.after_iff.mpr (eq_i res_at (Term.int_eval (1)) rfl), trivial⟩ ⟨hq.1, hq.2.1, (hq.2.2.sift fun y hy => Or.inr (N y hy)).mono (by decide) (by decide)⟩⟩
theorem main_1_1 : Claimed_1_1 := comes_1 fun _ _ _ _ _ _ h hF => ⟨h.1, hF⟩
theorem main_1_2 : Claimed_1_2 := comes_1 fun _ _ _ _ _ _ h hF => ⟨h.2.1, hF⟩
end Jvm.Pilot.@@N@@
namespace Jvm.Pilot.@@N@@
open Jvm Jvm.ClassFile Sem Op Lib Jvm.Free Jvm.Stand Jvm.Pilot.@@N@@.Jvm.D
/-! MADE BY PROGRAM (witnessworld.py) out of the Statement's table words and the real class files: 9 classes; the members and pool entries that the words name. The judged class is class 1, her method 2. -/
namespace start1
open Jvm.ClassFile
def u (s : String) : CpInfo := .utf8 (stringToUtf16 s)
/-- a pool by its gaps: so many unusable entries, then the entry; so many at the end -/
def gap : Nat → List CpInfo → List CpInfo
  | 0, r => r
  | n + 1, r => .unusable :: gap n r
def poolList (es : List (Nat × CpInfo)) (last : Nat) : List CpInfo := es.foldr (fun e r => gap e.1 (e.2 :: r)) (gap last [])
def pool (es : List (Nat × CpInfo)) (last : Nat) : Array CpInfo := ⟨poolList es last⟩
def fileOf (pool : Array CpInfo) (this : Nat) (attrs : Array Attribute := #[]) (ms : Array MethodInfo := #[]) (fl : Nat := 33) (sup : Nat := 0) (ifs : Array Nat := #[]) (fds : Array FieldInfo := #[]) : ClassFile where
  minorVersion := 0
  majorVersion := 65
  constantPool := pool
  accessFlags := fl
  thisClass := this
  superClass := sup
  interfaces := ifs
  fields := fds
  methods := ms
  attributes := attrs
def plain (name : String) (sup : Option ClassId) : Class where
  name := name
  kind := .ordinary
  loader := none
  accessFlags := 33
  super := sup
  interfaces := #[]
  cf := none
  fields := #[]
  methods := #[]
  instanceTypes := #[]
  staticTypes := #[]
  resolved := #[]
  callSites := []
  init := .initialized
  statics := none
  mirror := none

def pool0 : Array CpInfo := pool [(5, u "<init>"), (0, u "()V"), (1, .class_ 10), (1, u "java/lang/Object")] 113

def k0m0 : Method := { name := "<init>", desc := "()V", sig := { parameters := [], returnType := none }, accessFlags := 1, code := none }
/-- java/lang/Object -/
def k0 : Class := { plain "java/lang/Object" none with
  accessFlags := 33
  interfaces := #[]
  cf := some (fileOf pool0 8 #[] #[{ accessFlags := 1, nameIndex := 5, descriptorIndex := 6, attributes := #[] }] 33 0 #[] #[])
  fields := #[]
  methods := #[k0m0]
  instanceTypes := #[]
  staticTypes := #[]
  resolved := Array.replicate 124 none
  statics := none }

def pool1 : Array CpInfo := pool [(2, .class_ 4), (1, u "java/lang/Object"), (0, u "<init>"), (0, u "()V"), (0, .integer 983039), (0, .integer 55296), (0, .integer 63743), (0, .integer 64976), (0, .integer 65007), (0, .integer 65534), (0, .integer 65535), (0, .integer 55295), (0, .integer 63744), (0, .integer 64975), (0, .integer 65008), (0, .integer 65533), (0, .integer 65536), (0, .integer 2097151), (0, .integer 2147483647), (0, .methodref 23 24), (0, .class_ 25), (0, .nameAndType 26 27), (0, u "com/example/triplewright/triplewright/rdf/TextScanner"), (0, u "isPnCharsBase"), (0, u "(I)Z"), (0, .methodref 29 30), (0, .class_ 31), (0, .nameAndType 32 27), (0, u "com/example/triplewright/triplewright/rdf/TextScannerIsPnCharsBasePinLaw"), (0, u "ref"), (3, u "law"), (0, u "(III)Z")] 4

def k1m0 : Method := { name := "<init>", desc := "()V", sig := { parameters := [], returnType := none }, accessFlags := 2, code := none }
def k1c1 : Code := { maxStack := 2, maxLocals := 1, code := method_2_code, exceptionTable := #[], attributes := #[] }
def k1m1 : Method := { name := "ref", desc := "(I)Z", sig := { parameters := [.int], returnType := some .boolean }, accessFlags := 10, code := some k1c1 }
def k1c2 : Code := { maxStack := 4, maxLocals := 10, code := code, exceptionTable := #[], attributes := #[] }
def k1m2 : Method := { name := "law", desc := "(III)Z", sig := { parameters := [.int, .int, .int], returnType := some .boolean }, accessFlags := 9, code := some k1c2 }
/-- com/example/triplewright/triplewright/rdf/TextScannerIsPnCharsBasePinLaw -/
def k1 : Class := { plain "com/example/triplewright/triplewright/rdf/TextScannerIsPnCharsBasePinLaw" (some 0) with
  accessFlags := 49
  interfaces := #[]
  cf := some (fileOf pool1 29 #[] #[{ accessFlags := 2, nameIndex := 5, descriptorIndex := 6, attributes := #[] }, { accessFlags := 10, nameIndex := 32, descriptorIndex := 27, attributes := #[] }, { accessFlags := 9, nameIndex := 36, descriptorIndex := 37, attributes := #[] }] 49 2 #[] #[])
  fields := #[]
  methods := #[k1m0, k1m1, k1m2]
  instanceTypes := #[]
  staticTypes := #[]
  resolved := Array.replicate 42 none
  statics := none }

def pool2 : Array CpInfo := pool [(2, .class_ 4), (1, u "java/lang/Object"), (5, .class_ 12), (1, u "com/example/triplewright/triplewright/rdf/TextScanner"), (0, u "text"), (0, u "Ljava/lang/String;"), (2, u "firstLine"), (0, u "I"), (2, u "firstColumn"), (2, u "source"), (40, u "pos"), (2, u "rest"), (0, u "Ljava/io/Reader;"), (6, u "piece"), (62, u "MORE_TEXT"), (0, u "Lcom/example/triplewright/triplewright/rdf/TextScanner$MoreText;"), (31, u "(I)Z"), (96, .class_ 271), (1, u "com/example/triplewright/triplewright/rdf/TextScanner$IriReader"), (62, u "isPnCharsBase"), (39, .integer 55295), (0, .integer 63744), (0, .integer 64975), (0, .integer 65008), (0, .integer 65533), (0, .integer 65536), (0, .integer 983039), (33, .class_ 415), (0, u "com/example/triplewright/triplewright/rdf/TextScanner$MoreText"), (1, u "MALFORMED"), (1, u "LOCAL_ESCAPES")] 92

def k2c0 : Code := { maxStack := 2, maxLocals := 1, code := prog_54_method_49_code, exceptionTable := #[], attributes := #[] }
def k2m0 : Method := { name := "isPnCharsBase", desc := "(I)Z", sig := { parameters := [.int], returnType := some .boolean }, accessFlags := 9, code := some k2c0 }
/-- com/example/triplewright/triplewright/rdf/TextScanner -/
def k2 : Class := { plain "com/example/triplewright/triplewright/rdf/TextScanner" (some 0) with
  accessFlags := 49
  interfaces := #[]
  cf := some (fileOf pool2 10 #[.nestMembers #[414, 269]] #[{ accessFlags := 9, nameIndex := 334, descriptorIndex := 172, attributes := #[] }] 49 2 #[] #[{ accessFlags := 25, nameIndex := 417, descriptorIndex := 14, attributes := #[] }, { accessFlags := 26, nameIndex := 419, descriptorIndex := 14, attributes := #[] }, { accessFlags := 26, nameIndex := 139, descriptorIndex := 140, attributes := #[] }, { accessFlags := 18, nameIndex := 24, descriptorIndex := 14, attributes := #[] }, { accessFlags := 2, nameIndex := 13, descriptorIndex := 14, attributes := #[] }, { accessFlags := 2, nameIndex := 17, descriptorIndex := 18, attributes := #[] }, { accessFlags := 2, nameIndex := 21, descriptorIndex := 18, attributes := #[] }, { accessFlags := 2, nameIndex := 65, descriptorIndex := 18, attributes := #[] }, { accessFlags := 2, nameIndex := 68, descriptorIndex := 69, attributes := #[] }, { accessFlags := 2, nameIndex := 76, descriptorIndex := 18, attributes := #[] }])
  fields := #[{ name := "MALFORMED", type := (.object "java/lang/String"), accessFlags := 25, slot := 0, constantValue := 0 }, { name := "LOCAL_ESCAPES", type := (.object "java/lang/String"), accessFlags := 26, slot := 1, constantValue := 0 }, { name := "MORE_TEXT", type := (.object "com/example/triplewright/triplewright/rdf/TextScanner$MoreText"), accessFlags := 26, slot := 2, constantValue := 0 }, { name := "source", type := (.object "java/lang/String"), accessFlags := 18, slot := 0, constantValue := 0 }, { name := "text", type := (.object "java/lang/String"), accessFlags := 2, slot := 1, constantValue := 0 }, { name := "firstLine", type := .int, accessFlags := 2, slot := 2, constantValue := 0 }, { name := "firstColumn", type := .int, accessFlags := 2, slot := 3, constantValue := 0 }, { name := "pos", type := .int, accessFlags := 2, slot := 4, constantValue := 0 }, { name := "rest", type := (.object "java/io/Reader"), accessFlags := 2, slot := 5, constantValue := 0 }, { name := "piece", type := .int, accessFlags := 2, slot := 6, constantValue := 0 }]
  methods := #[k2m0]
  instanceTypes := #[(.object "java/lang/String"), (.object "java/lang/String"), .int, .int, .int, (.object "java/io/Reader"), .int]
  staticTypes := #[(.object "java/lang/String"), (.object "java/lang/String"), (.object "com/example/triplewright/triplewright/rdf/TextScanner$MoreText")]
  resolved := Array.replicate 512 none
  statics := none }

def pool3 : Array CpInfo := pool [(1, u "java/lang/Cloneable"), (0, .class_ 1), (0, u "java/lang/Object"), (0, .class_ 3)] 3

/-- java/lang/Cloneable -/
def k3 : Class := { plain "java/lang/Cloneable" (some 0) with
  accessFlags := 1537
  interfaces := #[]
  cf := some (fileOf pool3 2 #[] #[] 1537 4 #[] #[])
  fields := #[]
  methods := #[]
  instanceTypes := #[]
  staticTypes := #[]
  resolved := Array.replicate 8 none
  statics := none }

def pool4 : Array CpInfo := pool [(1, u "java/io/Serializable"), (0, .class_ 1), (0, u "java/lang/Object"), (0, .class_ 3)] 3

/-- java/io/Serializable -/
def k4 : Class := { plain "java/io/Serializable" (some 0) with
  accessFlags := 1537
  interfaces := #[]
  cf := some (fileOf pool4 2 #[] #[] 1537 4 #[] #[])
  fields := #[]
  methods := #[]
  instanceTypes := #[]
  staticTypes := #[]
  resolved := Array.replicate 8 none
  statics := none }

/-- the primitive byte -/
def k5 : Class := { plain "byte" none with kind := .primitive 'B', accessFlags := 0x411 }
/-- [B -/
def k6 : Class := { plain "[B" (some 0) with kind := .array 5 .byte, interfaces := #[3, 4], accessFlags := 1041 }

/-- the primitive int -/
def k7 : Class := { plain "int" none with kind := .primitive 'I', accessFlags := 0x411 }
/-- [I -/
def k8 : Class := { plain "[I" (some 0) with kind := .array 7 .int, interfaces := #[3, 4], accessFlags := 1041 }

def heap : Heap := #[]
def classes : Array Class := #[k0, k1, k2, k3, k4, k5, k6, k7, k8]
def interned : List (Array UInt16 × Addr) := []
def slotsUsed : Nat := 0
def theMethod : MethodId := ⟨1, 2⟩
def args0 : Array Value := #[.int 5, .int 5, .int 5]
def aboutOver (below : List Frame) : State where
  vm := { classes := classes, interned := interned.toArray }
  heap := heap
  slotsUsed := slotsUsed
  threads := #[{ frames := .invoking theMethod args0 :: below }]
def below0 : List Frame := [.native { method := ⟨0, 0⟩, args := #[] }]
def about1 : State := aboutOver below0
def p0 : Program := .bare "" "" ""
def e0 : Env := launch0.env 0 0 0
theorem w_frames : about1.frames = Frame.invoking theMethod args0 :: below0 := rfl
set_option maxRecDepth 65536 in
theorem w_args : argsFit about1.vm theMethod args0 = true := by decide +kernel
set_option maxRecDepth 65536 in
theorem w_heap : heapFits about1 = true := by decide +kernel
set_option maxRecDepth 65536 in
theorem w_runnable : about1.curStatus? = some .runnable := by decide +kernel
set_option maxRecDepth 65536 in
theorem w_alone : about1.alone = true := by decide +kernel
set_option maxRecDepth 65536 in
theorem w_named : about1.methodNamed? x = some theMethod := by decide +kernel
set_option maxRecDepth 65536 in
theorem w_hears : about1.hears theMethod below0 = true := by decide +kernel
set_option maxRecDepth 65536 in
theorem w_ripe : about1.ripe theMethod args0 below0 = true := by decide +kernel
theorem w_running : about1.status = .running := rfl
set_option maxRecDepth 65536 in
theorem w_room : about1.hasRoom e0.platform room_1 = true :=
  launch0.hasRoom_least _ room_1 (by decide +kernel) (by decide +kernel) (by decide +kernel) (by decide +kernel) (by decide +kernel) (by decide +kernel)
theorem allAtoms_all (ts : List Jvm.Cond) (a : Array Jvm.Value) (st : Jvm.State) : (allAtoms ts).before a st = ts.all (fun c => c.before a st) := by
  induction ts with
  | nil => rfl
  | cons c t ih =>
    show (Jvm.Cond.and c (allAtoms t)).before a st = _
    rw [Jvm.Cond.before_and, ih, List.all_cons]
def words1 : List Jvm.Cond := Jvm.Cond.code x code maxLocals ret :: tables_1
/-- a 'code' word, met by the world's own term for the bytes: nothing is compared byte by byte -/
theorem code_word {y : MethodName} {bytes : ByteArray} {mx : Nat} {rt : Option FieldType} {a : Array Value} {s : State} {m : MethodId} {meth : Method} {c : Code} (h1 : s.methodNamed? y = some m) (h2 : s.vm.method? m = some meth) (h3 : meth.code = some c) (h4 : c.code = bytes)
    (h5 : (c.maxLocals == mx && c.exceptionTable.isEmpty && decide (c.maxStack ≤ mostOperands) && decide (meth.sig.returnType = rt) && !meth.locks && decide (parseMethodDescriptor y.desc = some meth.sig)) = true) : (Jvm.Cond.code y bytes mx rt).before a s = true := by
  simp only [Bool.and_eq_true, beq_iff_eq, Bool.not_eq_true', decide_eq_true_eq] at h5
  obtain ⟨⟨⟨⟨⟨g1, g2⟩, g3⟩, g4⟩, g5⟩, g6⟩ := h5
  simp [Cond.before, Cond.holds, Cond.value, h1, h2, h3, h4, g1, g2, g3, g4, g5, g6]
def isCode : Jvm.Cond → Bool
  | .code _ _ _ _ => true
  | _ => false
theorem all_split {L : List Jvm.Cond} {P : Jvm.Cond → Bool} (h1 : L.all (fun c => isCode c || P c) = true) (h2 : ∀ c ∈ L.filter isCode, P c = true) : L.all P = true := by
  refine List.all_eq_true.mpr fun c hc => ?_
  have h := List.all_eq_true.mp h1 c hc
  rcases Bool.eq_false_or_eq_true (isCode c) with hi | hi
  · exact h2 c (List.mem_filter.mpr ⟨hc, hi⟩)
  · simpa [hi] using h
set_option maxRecDepth 65536 in
theorem w_c0 : (Jvm.Cond.code x code maxLocals ret).before args0 about1 = true := code_word (m := ⟨1, 2⟩) (meth := k1m2) (c := k1c2) (by decide +kernel) rfl rfl rfl (by decide +kernel)
set_option maxRecDepth 65536 in
theorem w_c1 : (Jvm.Cond.code ({ cls := "com/example/triplewright/triplewright/rdf/TextScanner", name := "isPnCharsBase", desc := "(I)Z" } : Jvm.MethodName) prog_54_method_49_code (1 : Nat) (Option.some Jvm.ClassFile.FieldType.boolean)).before args0 about1 = true := code_word (m := ⟨2, 0⟩) (meth := k2m0) (c := k2c0) (by decide +kernel) rfl rfl rfl (by decide +kernel)
set_option maxRecDepth 65536 in
theorem w_c2 : (Jvm.Cond.code ({ cls := "com/example/triplewright/triplewright/rdf/TextScannerIsPnCharsBasePinLaw", name := "ref", desc := "(I)Z" } : Jvm.MethodName) method_2_code (1 : Nat) (Option.some Jvm.ClassFile.FieldType.boolean)).before args0 about1 = true := code_word (m := ⟨1, 1⟩) (meth := k1m1) (c := k1c1) (by decide +kernel) rfl rfl rfl (by decide +kernel)
def codes1 : List Jvm.Cond := [Jvm.Cond.code x code maxLocals ret, Jvm.Cond.code ({ cls := "com/example/triplewright/triplewright/rdf/TextScanner", name := "isPnCharsBase", desc := "(I)Z" } : Jvm.MethodName) prog_54_method_49_code (1 : Nat) (Option.some Jvm.ClassFile.FieldType.boolean), Jvm.Cond.code ({ cls := "com/example/triplewright/triplewright/rdf/TextScannerIsPnCharsBasePinLaw", name := "ref", desc := "(I)Z" } : Jvm.MethodName) method_2_code (1 : Nat) (Option.some Jvm.ClassFile.FieldType.boolean)]
set_option maxRecDepth 65536 in
theorem codes_eq : words1.filter isCode = codes1 := rfl
theorem w_codes : ∀ c ∈ words1.filter isCode, c.before args0 about1 = true := by
  rw [codes_eq]
  intro c hc
  simp only [codes1, List.mem_cons, List.not_mem_nil, or_false] at hc
  rcases hc with rfl | rfl | rfl
  · exact w_c0
  · exact w_c1
  · exact w_c2
set_option maxRecDepth 65536 in
theorem w_t1 : (words1.take 24).all (fun c => isCode c || c.before args0 about1) = true := by decide +kernel
set_option maxRecDepth 65536 in
theorem w_t2 : (words1.drop 24).all (fun c => isCode c || c.before args0 about1) = true := by decide +kernel
theorem w_tables : (allAtoms (Jvm.Cond.code x code maxLocals ret :: tables_1)).before args0 about1 = true := by
  rw [allAtoms_all]
  show words1.all (fun c => c.before args0 about1) = true
  refine all_split ?_ w_codes
  rw [← List.take_append_drop 24 words1, List.all_append, w_t1, w_t2]
  rfl
set_option maxRecDepth 65536 in
theorem w_case : (Jvm.Cond.and given_1 narrow_1).before args0 about1 = true := by decide +kernel
theorem w_applies : (headSpec (Jvm.Cond.code x code maxLocals ret :: tables_1) room_1).applies x e0.platform about1 = true :=
  (Spec.applies_iff w_frames).mpr ⟨w_running, w_runnable, w_alone, w_named, w_hears, w_ripe, w_room, w_tables⟩
theorem atStart : AtStart classFile x code maxLocals ret World_1 tables_1 room_1 Calls_1 rest_1 Pre_1 launch0 p0 e0 about1 theMethod args0 below0 :=
  ⟨lists_1, trivial, launch0.admits_env _ _ _, launch0.least_env, fairChoices_fair.cas, fairChoices_fair.clock, w_frames, w_args, w_heap, w_applies, trivial, trivial, w_case⟩
end start1
theorem witness_1 : WitnessClaimed_1 := ⟨start1.p0, start1.e0, start1.about1, start1.theMethod, start1.args0, start1.below0, start1.atStart⟩
end Jvm.Pilot.@@N@@
