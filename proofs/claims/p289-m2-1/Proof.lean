import JvmDerived
import JvmDerived.Pilot.@@N@@Statement
import JvmDerived.Pilot.@@N@@Code
set_option linter.unusedVariables false
set_option linter.unusedSimpArgs false
namespace Jvm.RoadKit
open Sem ClassFile Op Lib Jvm.Stand Jvm.Free Jvm.LawKit
section New
variable {p : Program} {l : Launch} {e : Env} {R : Room} {s : State} {m : MethodId} {args : Array Value} {below : List Frame} {meth : Method} {c : Code} {T : State} {locs : List Loc} {cells slots : Nat}
theorem retI (X : Stand p l e R s m args below meth c T locs cells slots) (hx : p.tables.exec = Jvm.exec) {pc : Nat} {Ls : Array Slot} {z : Int32} {rest : List Value} (hret : meth.sig.returnType = some .int) (hd : decode c.code pc = .ok (.ireturn, 1)) {fs : List Frame}
    (hl : ∀ (f : JFrame) (acts : List Action), f.method = m → f.locked = none → f.entered = [] → (doReturn e (T.setTop f) acts (some (.int z))).1 = T.setFrames fs) : Steps p.tables e below (T.setTop (mkF m pc Ls (.int z :: rest))) (T.setFrames fs) := by
  have hm' : T.vm.method? m = some meth := X.method'
  have hn : narrow .int (.int z) = .int z := rfl
  show Steps p.tables e below (T.setTop { method := m, pc := pc, locals := Ls, stack := _ :: rest, locked := none }) _
  jvm_step X.here [X.here.top, hx, hd, hm', hret, hn]
  first | (intro acts; rw [hl _ acts rfl rfl rfl]) | rw [hl _ _ rfl rfl rfl]
  exact Steps.refl _
end New
end Jvm.RoadKit
namespace Jvm.Pilot.@@N@@
open Jvm Jvm.ClassFile Sem Op Lib Jvm.Free Jvm.Stand Jvm.LawKit Jvm.RoadKit Bundle Jvm.Pilot.@@N@@.Jvm.D
theorem pd0 : parseMethodDescriptor "(I)Z" = some ⟨[.int], some .boolean⟩ := by decide +kernel
def IntArr (Z : State) (h : Heap) (a : Addr) (n : Nat) : Prop := ∃ c : Cell, Arr Z h a c .int ∧ c.slots.size = n ∧ ∀ i, i < n → ∃ z : Int32, c.slots[i]? = some (.int z)
theorem own_arr_lt {Z : State} {h : Heap} {a : Addr} {n : Nat} (V : IntArr Z h a n) : a < h.size := by obtain ⟨c, A, -⟩ := V; exact A.lt
theorem own_arr_sz {Z : State} {h : Heap} {a : Addr} {n n0 : Nat} (G : n0 ≤ a) (V : IntArr Z h a n) : n0 ≤ h.size := Nat.le_of_lt (Nat.lt_of_le_of_lt G (own_arr_lt V))
theorem own_arr_new {Z : State} {h : Heap} {a : Addr} {k : ClassId} {z : Int32} {n : Nat} (V : Arv Z h a k .int z [] (defaultValue .int)) (hz : z.toNatClampNeg = n) : IntArr Z h a n := by
  obtain ⟨c, A, -, S, -, H, -⟩ := V
  exact ⟨c, A, S.trans hz, fun i hi => ⟨0, H i (by rw [S, hz]; exact hi)⟩⟩
section OwnArr
variable {p : Program} {l : Launch} {e : Env} {R : Room} {s : State} {m : MethodId} {args : Array Value} {below : List Frame} {meth : Method} {c : Code} {T : State} {locs : List Loc} {cells slots : Nat} {Z : State}
theorem own_arr_in {cl : Cell} {n : Nat} {j : Int32} (S : cl.slots.size = n) (hj : ¬ j < 0) (hj2 : j.toNatClampNeg < n) : ¬ (j < 0 ∨ cl.slots.size ≤ j.toNatClampNeg) := by
  rw [S]; rintro (q | q)
  · exact hj q
  · omega
theorem own_arr_st {n n0 : Nat} {a : Addr} (X : Stand p l e R s m args below meth c T locs cells slots) (hx : p.tables.exec = Jvm.exec) (hZ : Z.Warmed39 s.vm) (V : IntArr Z T.heap a n) (ga : n0 ≤ a) (N : Fr n0 locs) {i v : Int32} {g : JFrame} {rest : List Value} (hi : ¬ i < 0) (hi2 : i.toNatClampNeg < n)
    (hg : g.method = m) (hs : g.stack = .int v :: .int i :: .ref a :: rest) (hd : decode c.code g.pc = .ok (.iastore, 1)) :
    ∃ T' L', Stand p l e R s m args below meth c T' L' cells slots ∧ Fr n0 L' ∧ IntArr Z T'.heap a n ∧ ∀ target, Steps p.tables e below (T'.setTop { g with pc := g.pc + 1, stack := rest }) target → Steps p.tables e below (T.setTop g) target := by
  obtain ⟨cl, A, S, H⟩ := V
  obtain ⟨T', h', X', e', W, st⟩ := stI X hx hZ rfl A (own_arr_in S hi hi2) hg hs hd
  refine ⟨T', _, X', Fr.snoc X' N ga, ?_, st⟩
  rw [e']
  refine ⟨_, A.same W, by rw [sz_set]; exact S, fun k hk => ?_⟩
  by_cases u : i.toNatClampNeg = k
  · subst u; exact ⟨v, by simp [Cell.setSlot, S, hk]⟩
  · obtain ⟨z, hz⟩ := H k hk
    exact ⟨z, by simp only [Cell.setSlot]; rw [Array.getElem?_setIfInBounds_ne u]; exact hz⟩
theorem own_arr_ld {n : Nat} {a : Addr} (X : Stand p l e R s m args below meth c T locs cells slots) (hx : p.tables.exec = Jvm.exec) (hZ : Z.Warmed39 s.vm) (V : IntArr Z T.heap a n) {j : Int32} {g : JFrame} {rest : List Value} (hj : ¬ j < 0 ∧ j.toNatClampNeg < n)
    (hg : g.method = m) (hs : g.stack = .int j :: .ref a :: rest) (hd : decode c.code g.pc = .ok (.iaload, 1)) :
    ∃ z : Int32, ∀ target, Steps p.tables e below (T.setTop { g with pc := g.pc + 1, stack := .int z :: rest }) target → Steps p.tables e below (T.setTop g) target := by
  obtain ⟨cl, A, S, H⟩ := V
  obtain ⟨z, hz⟩ := H _ hj.2
  exact ⟨z, fun target k => X.iaload hx A.1 (State.isArrayOf_alike hZ.alike A.2.1) A.2.2 (own_arr_in S hj.1 hj.2) hz hg hs hd target k⟩
theorem own_arr_len {n : Nat} {a : Addr} (X : Stand p l e R s m args below meth c T locs cells slots) (hx : p.tables.exec = Jvm.exec) (hZ : Z.Warmed39 s.vm) (V : IntArr Z T.heap a n) {g : JFrame} {rest : List Value} {z : Int32} (hz : n.toInt32 = z)
    (hg : g.method = m) (hs : g.stack = .ref a :: rest) (hd : decode c.code g.pc = .ok (.arraylength, 1)) (target : State) (k : Steps p.tables e below (T.setTop { g with pc := g.pc + 1, stack := .int z :: rest }) target) : Steps p.tables e below (T.setTop g) target := by
  obtain ⟨cl, A, S, H⟩ := V
  refine X.arraylength hx A.1 (State.isArrayOf_alike hZ.alike A.2.1) hg hs hd _ ?_
  rw [S, hz]; exact k
end OwnArr
theorem d2_0 : decode prog_5_method_2_code 0 = .ok (.iload_n 0, 1) := by decide +kernel
theorem d2_1 : decode prog_5_method_2_code 1 = .ok (.bipush 65, 2) := by decide +kernel
theorem d2_3 : decode prog_5_method_2_code 3 = .ok (.if_icmp .lt 9, 3) := by decide +kernel
theorem d2_6 : decode prog_5_method_2_code 6 = .ok (.iload_n 0, 1) := by decide +kernel
theorem d2_7 : decode prog_5_method_2_code 7 = .ok (.bipush 90, 2) := by decide +kernel
theorem d2_9 : decode prog_5_method_2_code 9 = .ok (.if_icmp .le 176, 3) := by decide +kernel
theorem d2_12 : decode prog_5_method_2_code 12 = .ok (.iload_n 0, 1) := by decide +kernel
theorem d2_13 : decode prog_5_method_2_code 13 = .ok (.bipush 97, 2) := by decide +kernel
theorem d2_15 : decode prog_5_method_2_code 15 = .ok (.if_icmp .lt 9, 3) := by decide +kernel
theorem d2_18 : decode prog_5_method_2_code 18 = .ok (.iload_n 0, 1) := by decide +kernel
theorem d2_19 : decode prog_5_method_2_code 19 = .ok (.bipush 122, 2) := by decide +kernel
theorem d2_21 : decode prog_5_method_2_code 21 = .ok (.if_icmp .le 164, 3) := by decide +kernel
theorem d2_24 : decode prog_5_method_2_code 24 = .ok (.iload_n 0, 1) := by decide +kernel
theorem d2_25 : decode prog_5_method_2_code 25 = .ok (.sipush 192, 3) := by decide +kernel
theorem d2_28 : decode prog_5_method_2_code 28 = .ok (.if_icmp .lt 10, 3) := by decide +kernel
theorem d2_31 : decode prog_5_method_2_code 31 = .ok (.iload_n 0, 1) := by decide +kernel
theorem d2_32 : decode prog_5_method_2_code 32 = .ok (.sipush 214, 3) := by decide +kernel
theorem d2_35 : decode prog_5_method_2_code 35 = .ok (.if_icmp .le 150, 3) := by decide +kernel
theorem d2_38 : decode prog_5_method_2_code 38 = .ok (.iload_n 0, 1) := by decide +kernel
theorem d2_39 : decode prog_5_method_2_code 39 = .ok (.sipush 216, 3) := by decide +kernel
theorem d2_42 : decode prog_5_method_2_code 42 = .ok (.if_icmp .lt 10, 3) := by decide +kernel
theorem d2_45 : decode prog_5_method_2_code 45 = .ok (.iload_n 0, 1) := by decide +kernel
theorem d2_46 : decode prog_5_method_2_code 46 = .ok (.sipush 246, 3) := by decide +kernel
theorem d2_49 : decode prog_5_method_2_code 49 = .ok (.if_icmp .le 136, 3) := by decide +kernel
theorem d2_52 : decode prog_5_method_2_code 52 = .ok (.iload_n 0, 1) := by decide +kernel
theorem d2_53 : decode prog_5_method_2_code 53 = .ok (.sipush 248, 3) := by decide +kernel
theorem d2_56 : decode prog_5_method_2_code 56 = .ok (.if_icmp .lt 10, 3) := by decide +kernel
theorem d2_59 : decode prog_5_method_2_code 59 = .ok (.iload_n 0, 1) := by decide +kernel
theorem d2_60 : decode prog_5_method_2_code 60 = .ok (.sipush 767, 3) := by decide +kernel
theorem d2_63 : decode prog_5_method_2_code 63 = .ok (.if_icmp .le 122, 3) := by decide +kernel
theorem d2_66 : decode prog_5_method_2_code 66 = .ok (.iload_n 0, 1) := by decide +kernel
theorem d2_67 : decode prog_5_method_2_code 67 = .ok (.sipush 880, 3) := by decide +kernel
theorem d2_70 : decode prog_5_method_2_code 70 = .ok (.if_icmp .lt 10, 3) := by decide +kernel
theorem d2_73 : decode prog_5_method_2_code 73 = .ok (.iload_n 0, 1) := by decide +kernel
theorem d2_74 : decode prog_5_method_2_code 74 = .ok (.sipush 893, 3) := by decide +kernel
theorem d2_77 : decode prog_5_method_2_code 77 = .ok (.if_icmp .le 108, 3) := by decide +kernel
theorem d2_80 : decode prog_5_method_2_code 80 = .ok (.iload_n 0, 1) := by decide +kernel
theorem d2_81 : decode prog_5_method_2_code 81 = .ok (.sipush 895, 3) := by decide +kernel
theorem d2_84 : decode prog_5_method_2_code 84 = .ok (.if_icmp .lt 10, 3) := by decide +kernel
theorem d2_87 : decode prog_5_method_2_code 87 = .ok (.iload_n 0, 1) := by decide +kernel
theorem d2_88 : decode prog_5_method_2_code 88 = .ok (.sipush 8191, 3) := by decide +kernel
theorem d2_91 : decode prog_5_method_2_code 91 = .ok (.if_icmp .le 94, 3) := by decide +kernel
theorem d2_94 : decode prog_5_method_2_code 94 = .ok (.iload_n 0, 1) := by decide +kernel
theorem d2_95 : decode prog_5_method_2_code 95 = .ok (.sipush 8204, 3) := by decide +kernel
theorem d2_98 : decode prog_5_method_2_code 98 = .ok (.if_icmp .lt 10, 3) := by decide +kernel
theorem d2_101 : decode prog_5_method_2_code 101 = .ok (.iload_n 0, 1) := by decide +kernel
theorem d2_102 : decode prog_5_method_2_code 102 = .ok (.sipush 8205, 3) := by decide +kernel
theorem d2_105 : decode prog_5_method_2_code 105 = .ok (.if_icmp .le 80, 3) := by decide +kernel
theorem d2_108 : decode prog_5_method_2_code 108 = .ok (.iload_n 0, 1) := by decide +kernel
theorem d2_109 : decode prog_5_method_2_code 109 = .ok (.sipush 8304, 3) := by decide +kernel
theorem d2_112 : decode prog_5_method_2_code 112 = .ok (.if_icmp .lt 10, 3) := by decide +kernel
theorem d2_115 : decode prog_5_method_2_code 115 = .ok (.iload_n 0, 1) := by decide +kernel
theorem d2_116 : decode prog_5_method_2_code 116 = .ok (.sipush 8591, 3) := by decide +kernel
theorem d2_119 : decode prog_5_method_2_code 119 = .ok (.if_icmp .le 66, 3) := by decide +kernel
theorem d2_122 : decode prog_5_method_2_code 122 = .ok (.iload_n 0, 1) := by decide +kernel
theorem d2_123 : decode prog_5_method_2_code 123 = .ok (.sipush 11264, 3) := by decide +kernel
theorem d2_126 : decode prog_5_method_2_code 126 = .ok (.if_icmp .lt 10, 3) := by decide +kernel
theorem d2_129 : decode prog_5_method_2_code 129 = .ok (.iload_n 0, 1) := by decide +kernel
theorem d2_130 : decode prog_5_method_2_code 130 = .ok (.sipush 12271, 3) := by decide +kernel
theorem d2_133 : decode prog_5_method_2_code 133 = .ok (.if_icmp .le 52, 3) := by decide +kernel
theorem d2_136 : decode prog_5_method_2_code 136 = .ok (.iload_n 0, 1) := by decide +kernel
theorem d2_137 : decode prog_5_method_2_code 137 = .ok (.sipush 12289, 3) := by decide +kernel
theorem d2_140 : decode prog_5_method_2_code 140 = .ok (.if_icmp .lt 9, 3) := by decide +kernel
theorem d2_143 : decode prog_5_method_2_code 143 = .ok (.iload_n 0, 1) := by decide +kernel
theorem d2_144 : decode prog_5_method_2_code 144 = .ok (.ldc 7, 2) := by decide +kernel
theorem d2_146 : decode prog_5_method_2_code 146 = .ok (.if_icmp .le 39, 3) := by decide +kernel
theorem d2_149 : decode prog_5_method_2_code 149 = .ok (.iload_n 0, 1) := by decide +kernel
theorem d2_150 : decode prog_5_method_2_code 150 = .ok (.ldc 8, 2) := by decide +kernel
theorem d2_152 : decode prog_5_method_2_code 152 = .ok (.if_icmp .lt 9, 3) := by decide +kernel
theorem d2_155 : decode prog_5_method_2_code 155 = .ok (.iload_n 0, 1) := by decide +kernel
theorem d2_156 : decode prog_5_method_2_code 156 = .ok (.ldc 9, 2) := by decide +kernel
theorem d2_158 : decode prog_5_method_2_code 158 = .ok (.if_icmp .le 27, 3) := by decide +kernel
theorem d2_161 : decode prog_5_method_2_code 161 = .ok (.iload_n 0, 1) := by decide +kernel
theorem d2_162 : decode prog_5_method_2_code 162 = .ok (.ldc 10, 2) := by decide +kernel
theorem d2_164 : decode prog_5_method_2_code 164 = .ok (.if_icmp .lt 9, 3) := by decide +kernel
theorem d2_167 : decode prog_5_method_2_code 167 = .ok (.iload_n 0, 1) := by decide +kernel
theorem d2_168 : decode prog_5_method_2_code 168 = .ok (.ldc 11, 2) := by decide +kernel
theorem d2_170 : decode prog_5_method_2_code 170 = .ok (.if_icmp .le 15, 3) := by decide +kernel
theorem d2_173 : decode prog_5_method_2_code 173 = .ok (.iload_n 0, 1) := by decide +kernel
theorem d2_174 : decode prog_5_method_2_code 174 = .ok (.ldc 12, 2) := by decide +kernel
theorem d2_176 : decode prog_5_method_2_code 176 = .ok (.if_icmp .lt 13, 3) := by decide +kernel
theorem d2_179 : decode prog_5_method_2_code 179 = .ok (.iload_n 0, 1) := by decide +kernel
theorem d2_180 : decode prog_5_method_2_code 180 = .ok (.ldc 13, 2) := by decide +kernel
theorem d2_182 : decode prog_5_method_2_code 182 = .ok (.if_icmp .gt 7, 3) := by decide +kernel
theorem d2_185 : decode prog_5_method_2_code 185 = .ok (.iconst 1, 1) := by decide +kernel
theorem d2_186 : decode prog_5_method_2_code 186 = .ok (.goto 4, 3) := by decide +kernel
theorem d2_189 : decode prog_5_method_2_code 189 = .ok (.iconst 0, 1) := by decide +kernel
theorem d2_190 : decode prog_5_method_2_code 190 = .ok (.ireturn, 1) := by decide +kernel
def F2_189 : Int32 := (0 : Int32)
theorem b2_189 {p : Program} {l : Launch} {e : Env} {R : Room} {s : State} {m : MethodId} {args : Array Value} {below : List Frame} {meth : Method} {c : Code} {T : State} {locs : List Loc} {cells slots : Nat} {Z : State} {a0 : Array Value} (X : Stand p l e R s m args below meth c T locs cells slots) (hx : p.tables.exec = Jvm.exec) (hZ : Z.Warmed39 s.vm) (hw : ∀ d ∈ tables_1, d.before a0 Z = true) (hby : c.code = prog_5_method_2_code) (hown : s.vm.findClass "shapewright/NameCharacters" = some m.cls) (v0 : Int32) (hret : meth.sig.returnType = some .boolean) {fs : List Frame} (hr : ∀ (f : JFrame) (acts : List Action), f.method = m → f.locked = none → f.entered = [] → (doReturn e (T.setTop f) acts (some (.int F2_189))).1 = T.setFrames fs) : Steps p.tables e below (T.setTop (mkF m 189 #[.val (.int v0)] [])) (T.setFrames fs) := by
  show Steps p.tables e below (T.setTop (mkF m 189 #[.val (.int v0)] [])) _
  refine XS.iconst X.here hx rfl (hb hby d2_189) ?_
  show Steps p.tables e below (T.setTop (mkF m 190 #[.val (.int v0)] [(.int (0 : Int32))])) _
  rw [show F2_189 = nar .boolean (0 : Int32) from rfl] at hr
  exact retN X hx (t := .boolean) hret (by simp) (hb hby d2_190) hr
def F2_185 : Int32 := (1 : Int32)
theorem b2_185 {p : Program} {l : Launch} {e : Env} {R : Room} {s : State} {m : MethodId} {args : Array Value} {below : List Frame} {meth : Method} {c : Code} {T : State} {locs : List Loc} {cells slots : Nat} {Z : State} {a0 : Array Value} (X : Stand p l e R s m args below meth c T locs cells slots) (hx : p.tables.exec = Jvm.exec) (hZ : Z.Warmed39 s.vm) (hw : ∀ d ∈ tables_1, d.before a0 Z = true) (hby : c.code = prog_5_method_2_code) (hown : s.vm.findClass "shapewright/NameCharacters" = some m.cls) (v0 : Int32) (hret : meth.sig.returnType = some .boolean) {fs : List Frame} (hr : ∀ (f : JFrame) (acts : List Action), f.method = m → f.locked = none → f.entered = [] → (doReturn e (T.setTop f) acts (some (.int F2_185))).1 = T.setFrames fs) : Steps p.tables e below (T.setTop (mkF m 185 #[.val (.int v0)] [])) (T.setFrames fs) := by
  show Steps p.tables e below (T.setTop (mkF m 185 #[.val (.int v0)] [])) _
  refine XS.iconst X.here hx rfl (hb hby d2_185) ?_
  show Steps p.tables e below (T.setTop (mkF m 186 #[.val (.int v0)] [(.int (1 : Int32))])) _
  refine XS.goto X.here hx rfl (pc0 := 186) (pc' := 190) rfl (hb hby d2_186) (by decide) (by decide) ?_
  show Steps p.tables e below (T.setTop (mkF m 190 #[.val (.int v0)] [(.int (1 : Int32))])) _
  rw [show F2_185 = nar .boolean (1 : Int32) from rfl] at hr
  exact retN X hx (t := .boolean) hret (by simp) (hb hby d2_190) hr
def F2_179 (v0 : Int32) : Int32 := if (983039 : Int32) < v0 then F2_189 else F2_185
theorem b2_179 {p : Program} {l : Launch} {e : Env} {R : Room} {s : State} {m : MethodId} {args : Array Value} {below : List Frame} {meth : Method} {c : Code} {T : State} {locs : List Loc} {cells slots : Nat} {Z : State} {a0 : Array Value} (X : Stand p l e R s m args below meth c T locs cells slots) (hx : p.tables.exec = Jvm.exec) (hZ : Z.Warmed39 s.vm) (hw : ∀ d ∈ tables_1, d.before a0 Z = true) (hby : c.code = prog_5_method_2_code) (hown : s.vm.findClass "shapewright/NameCharacters" = some m.cls) (v0 : Int32) (hret : meth.sig.returnType = some .boolean) {fs : List Frame} (hr : ∀ (f : JFrame) (acts : List Action), f.method = m → f.locked = none → f.entered = [] → (doReturn e (T.setTop f) acts (some (.int (F2_179 v0)))).1 = T.setFrames fs) : Steps p.tables e below (T.setTop (mkF m 179 #[.val (.int v0)] [])) (T.setFrames fs) := by
  show Steps p.tables e below (T.setTop (mkF m 179 #[.val (.int v0)] [])) _
  refine XS.iloadN X.here hx rfl (hb hby d2_179) rfl ?_
  show Steps p.tables e below (T.setTop (mkF m 180 #[.val (.int v0)] [(.int v0)])) _
  refine X.ldcInt hx hown (mvT hZ (hw _ (List.mem_of_getElem? (i := 26) rfl))) (g := (mkF m 180 #[.val (.int v0)] [(.int v0)])) rfl (hb hby d2_180) _ ?_
  show Steps p.tables e below (T.setTop (mkF m 182 #[.val (.int v0)] [(.int (983039 : Int32)), (.int v0)])) _
  by_cases hc : (983039 : Int32) < v0
  · rw [show (F2_179 v0) = F2_189 from if_pos hc] at hr
    refine XS.icmpYes X.here hx rfl (pc0 := 182) (pc' := 189) rfl (hb hby d2_182) rfl (tlt hc).2.2.1 (by decide) (by decide) ?_
    exact b2_189 X hx hZ hw hby hown v0 hret hr
  · rw [show (F2_179 v0) = F2_185 from if_neg hc] at hr
    refine XS.icmpNo X.here hx rfl (hb hby d2_182) rfl (flt hc).2.2.1 ?_
    exact b2_185 X hx hZ hw hby hown v0 hret hr
def F2_173 (v0 : Int32) : Int32 := if v0 < (65536 : Int32) then F2_189 else (F2_179 v0)
theorem b2_173 {p : Program} {l : Launch} {e : Env} {R : Room} {s : State} {m : MethodId} {args : Array Value} {below : List Frame} {meth : Method} {c : Code} {T : State} {locs : List Loc} {cells slots : Nat} {Z : State} {a0 : Array Value} (X : Stand p l e R s m args below meth c T locs cells slots) (hx : p.tables.exec = Jvm.exec) (hZ : Z.Warmed39 s.vm) (hw : ∀ d ∈ tables_1, d.before a0 Z = true) (hby : c.code = prog_5_method_2_code) (hown : s.vm.findClass "shapewright/NameCharacters" = some m.cls) (v0 : Int32) (hret : meth.sig.returnType = some .boolean) {fs : List Frame} (hr : ∀ (f : JFrame) (acts : List Action), f.method = m → f.locked = none → f.entered = [] → (doReturn e (T.setTop f) acts (some (.int (F2_173 v0)))).1 = T.setFrames fs) : Steps p.tables e below (T.setTop (mkF m 173 #[.val (.int v0)] [])) (T.setFrames fs) := by
  show Steps p.tables e below (T.setTop (mkF m 173 #[.val (.int v0)] [])) _
  refine XS.iloadN X.here hx rfl (hb hby d2_173) rfl ?_
  show Steps p.tables e below (T.setTop (mkF m 174 #[.val (.int v0)] [(.int v0)])) _
  refine X.ldcInt hx hown (mvT hZ (hw _ (List.mem_of_getElem? (i := 18) rfl))) (g := (mkF m 174 #[.val (.int v0)] [(.int v0)])) rfl (hb hby d2_174) _ ?_
  show Steps p.tables e below (T.setTop (mkF m 176 #[.val (.int v0)] [(.int (65536 : Int32)), (.int v0)])) _
  by_cases hc : v0 < (65536 : Int32)
  · rw [show (F2_173 v0) = F2_189 from if_pos hc] at hr
    refine XS.icmpYes X.here hx rfl (pc0 := 176) (pc' := 189) rfl (hb hby d2_176) rfl (tlt hc).1 (by decide) (by decide) ?_
    exact b2_189 X hx hZ hw hby hown v0 hret hr
  · rw [show (F2_173 v0) = (F2_179 v0) from if_neg hc] at hr
    refine XS.icmpNo X.here hx rfl (hb hby d2_176) rfl (flt hc).1 ?_
    exact b2_179 X hx hZ hw hby hown v0 hret hr
def F2_167 (v0 : Int32) : Int32 := if (65533 : Int32) < v0 then (F2_173 v0) else F2_185
theorem b2_167 {p : Program} {l : Launch} {e : Env} {R : Room} {s : State} {m : MethodId} {args : Array Value} {below : List Frame} {meth : Method} {c : Code} {T : State} {locs : List Loc} {cells slots : Nat} {Z : State} {a0 : Array Value} (X : Stand p l e R s m args below meth c T locs cells slots) (hx : p.tables.exec = Jvm.exec) (hZ : Z.Warmed39 s.vm) (hw : ∀ d ∈ tables_1, d.before a0 Z = true) (hby : c.code = prog_5_method_2_code) (hown : s.vm.findClass "shapewright/NameCharacters" = some m.cls) (v0 : Int32) (hret : meth.sig.returnType = some .boolean) {fs : List Frame} (hr : ∀ (f : JFrame) (acts : List Action), f.method = m → f.locked = none → f.entered = [] → (doReturn e (T.setTop f) acts (some (.int (F2_167 v0)))).1 = T.setFrames fs) : Steps p.tables e below (T.setTop (mkF m 167 #[.val (.int v0)] [])) (T.setFrames fs) := by
  show Steps p.tables e below (T.setTop (mkF m 167 #[.val (.int v0)] [])) _
  refine XS.iloadN X.here hx rfl (hb hby d2_167) rfl ?_
  show Steps p.tables e below (T.setTop (mkF m 168 #[.val (.int v0)] [(.int v0)])) _
  refine X.ldcInt hx hown (mvT hZ (hw _ (List.mem_of_getElem? (i := 25) rfl))) (g := (mkF m 168 #[.val (.int v0)] [(.int v0)])) rfl (hb hby d2_168) _ ?_
  show Steps p.tables e below (T.setTop (mkF m 170 #[.val (.int v0)] [(.int (65533 : Int32)), (.int v0)])) _
  by_cases hc : (65533 : Int32) < v0
  · rw [show (F2_167 v0) = (F2_173 v0) from if_pos hc] at hr
    refine XS.icmpNo X.here hx rfl (hb hby d2_170) rfl (tlt hc).2.2.2 ?_
    exact b2_173 X hx hZ hw hby hown v0 hret hr
  · rw [show (F2_167 v0) = F2_185 from if_neg hc] at hr
    refine XS.icmpYes X.here hx rfl (pc0 := 170) (pc' := 185) rfl (hb hby d2_170) rfl (flt hc).2.2.2 (by decide) (by decide) ?_
    exact b2_185 X hx hZ hw hby hown v0 hret hr
def F2_161 (v0 : Int32) : Int32 := if v0 < (65008 : Int32) then (F2_173 v0) else (F2_167 v0)
theorem b2_161 {p : Program} {l : Launch} {e : Env} {R : Room} {s : State} {m : MethodId} {args : Array Value} {below : List Frame} {meth : Method} {c : Code} {T : State} {locs : List Loc} {cells slots : Nat} {Z : State} {a0 : Array Value} (X : Stand p l e R s m args below meth c T locs cells slots) (hx : p.tables.exec = Jvm.exec) (hZ : Z.Warmed39 s.vm) (hw : ∀ d ∈ tables_1, d.before a0 Z = true) (hby : c.code = prog_5_method_2_code) (hown : s.vm.findClass "shapewright/NameCharacters" = some m.cls) (v0 : Int32) (hret : meth.sig.returnType = some .boolean) {fs : List Frame} (hr : ∀ (f : JFrame) (acts : List Action), f.method = m → f.locked = none → f.entered = [] → (doReturn e (T.setTop f) acts (some (.int (F2_161 v0)))).1 = T.setFrames fs) : Steps p.tables e below (T.setTop (mkF m 161 #[.val (.int v0)] [])) (T.setFrames fs) := by
  show Steps p.tables e below (T.setTop (mkF m 161 #[.val (.int v0)] [])) _
  refine XS.iloadN X.here hx rfl (hb hby d2_161) rfl ?_
  show Steps p.tables e below (T.setTop (mkF m 162 #[.val (.int v0)] [(.int v0)])) _
  refine X.ldcInt hx hown (mvT hZ (hw _ (List.mem_of_getElem? (i := 17) rfl))) (g := (mkF m 162 #[.val (.int v0)] [(.int v0)])) rfl (hb hby d2_162) _ ?_
  show Steps p.tables e below (T.setTop (mkF m 164 #[.val (.int v0)] [(.int (65008 : Int32)), (.int v0)])) _
  by_cases hc : v0 < (65008 : Int32)
  · rw [show (F2_161 v0) = (F2_173 v0) from if_pos hc] at hr
    refine XS.icmpYes X.here hx rfl (pc0 := 164) (pc' := 173) rfl (hb hby d2_164) rfl (tlt hc).1 (by decide) (by decide) ?_
    exact b2_173 X hx hZ hw hby hown v0 hret hr
  · rw [show (F2_161 v0) = (F2_167 v0) from if_neg hc] at hr
    refine XS.icmpNo X.here hx rfl (hb hby d2_164) rfl (flt hc).1 ?_
    exact b2_167 X hx hZ hw hby hown v0 hret hr
def F2_155 (v0 : Int32) : Int32 := if (64975 : Int32) < v0 then (F2_161 v0) else F2_185
theorem b2_155 {p : Program} {l : Launch} {e : Env} {R : Room} {s : State} {m : MethodId} {args : Array Value} {below : List Frame} {meth : Method} {c : Code} {T : State} {locs : List Loc} {cells slots : Nat} {Z : State} {a0 : Array Value} (X : Stand p l e R s m args below meth c T locs cells slots) (hx : p.tables.exec = Jvm.exec) (hZ : Z.Warmed39 s.vm) (hw : ∀ d ∈ tables_1, d.before a0 Z = true) (hby : c.code = prog_5_method_2_code) (hown : s.vm.findClass "shapewright/NameCharacters" = some m.cls) (v0 : Int32) (hret : meth.sig.returnType = some .boolean) {fs : List Frame} (hr : ∀ (f : JFrame) (acts : List Action), f.method = m → f.locked = none → f.entered = [] → (doReturn e (T.setTop f) acts (some (.int (F2_155 v0)))).1 = T.setFrames fs) : Steps p.tables e below (T.setTop (mkF m 155 #[.val (.int v0)] [])) (T.setFrames fs) := by
  show Steps p.tables e below (T.setTop (mkF m 155 #[.val (.int v0)] [])) _
  refine XS.iloadN X.here hx rfl (hb hby d2_155) rfl ?_
  show Steps p.tables e below (T.setTop (mkF m 156 #[.val (.int v0)] [(.int v0)])) _
  refine X.ldcInt hx hown (mvT hZ (hw _ (List.mem_of_getElem? (i := 24) rfl))) (g := (mkF m 156 #[.val (.int v0)] [(.int v0)])) rfl (hb hby d2_156) _ ?_
  show Steps p.tables e below (T.setTop (mkF m 158 #[.val (.int v0)] [(.int (64975 : Int32)), (.int v0)])) _
  by_cases hc : (64975 : Int32) < v0
  · rw [show (F2_155 v0) = (F2_161 v0) from if_pos hc] at hr
    refine XS.icmpNo X.here hx rfl (hb hby d2_158) rfl (tlt hc).2.2.2 ?_
    exact b2_161 X hx hZ hw hby hown v0 hret hr
  · rw [show (F2_155 v0) = F2_185 from if_neg hc] at hr
    refine XS.icmpYes X.here hx rfl (pc0 := 158) (pc' := 185) rfl (hb hby d2_158) rfl (flt hc).2.2.2 (by decide) (by decide) ?_
    exact b2_185 X hx hZ hw hby hown v0 hret hr
def F2_149 (v0 : Int32) : Int32 := if v0 < (63744 : Int32) then (F2_161 v0) else (F2_155 v0)
theorem b2_149 {p : Program} {l : Launch} {e : Env} {R : Room} {s : State} {m : MethodId} {args : Array Value} {below : List Frame} {meth : Method} {c : Code} {T : State} {locs : List Loc} {cells slots : Nat} {Z : State} {a0 : Array Value} (X : Stand p l e R s m args below meth c T locs cells slots) (hx : p.tables.exec = Jvm.exec) (hZ : Z.Warmed39 s.vm) (hw : ∀ d ∈ tables_1, d.before a0 Z = true) (hby : c.code = prog_5_method_2_code) (hown : s.vm.findClass "shapewright/NameCharacters" = some m.cls) (v0 : Int32) (hret : meth.sig.returnType = some .boolean) {fs : List Frame} (hr : ∀ (f : JFrame) (acts : List Action), f.method = m → f.locked = none → f.entered = [] → (doReturn e (T.setTop f) acts (some (.int (F2_149 v0)))).1 = T.setFrames fs) : Steps p.tables e below (T.setTop (mkF m 149 #[.val (.int v0)] [])) (T.setFrames fs) := by
  show Steps p.tables e below (T.setTop (mkF m 149 #[.val (.int v0)] [])) _
  refine XS.iloadN X.here hx rfl (hb hby d2_149) rfl ?_
  show Steps p.tables e below (T.setTop (mkF m 150 #[.val (.int v0)] [(.int v0)])) _
  refine X.ldcInt hx hown (mvT hZ (hw _ (List.mem_of_getElem? (i := 16) rfl))) (g := (mkF m 150 #[.val (.int v0)] [(.int v0)])) rfl (hb hby d2_150) _ ?_
  show Steps p.tables e below (T.setTop (mkF m 152 #[.val (.int v0)] [(.int (63744 : Int32)), (.int v0)])) _
  by_cases hc : v0 < (63744 : Int32)
  · rw [show (F2_149 v0) = (F2_161 v0) from if_pos hc] at hr
    refine XS.icmpYes X.here hx rfl (pc0 := 152) (pc' := 161) rfl (hb hby d2_152) rfl (tlt hc).1 (by decide) (by decide) ?_
    exact b2_161 X hx hZ hw hby hown v0 hret hr
  · rw [show (F2_149 v0) = (F2_155 v0) from if_neg hc] at hr
    refine XS.icmpNo X.here hx rfl (hb hby d2_152) rfl (flt hc).1 ?_
    exact b2_155 X hx hZ hw hby hown v0 hret hr
def F2_143 (v0 : Int32) : Int32 := if (55295 : Int32) < v0 then (F2_149 v0) else F2_185
theorem b2_143 {p : Program} {l : Launch} {e : Env} {R : Room} {s : State} {m : MethodId} {args : Array Value} {below : List Frame} {meth : Method} {c : Code} {T : State} {locs : List Loc} {cells slots : Nat} {Z : State} {a0 : Array Value} (X : Stand p l e R s m args below meth c T locs cells slots) (hx : p.tables.exec = Jvm.exec) (hZ : Z.Warmed39 s.vm) (hw : ∀ d ∈ tables_1, d.before a0 Z = true) (hby : c.code = prog_5_method_2_code) (hown : s.vm.findClass "shapewright/NameCharacters" = some m.cls) (v0 : Int32) (hret : meth.sig.returnType = some .boolean) {fs : List Frame} (hr : ∀ (f : JFrame) (acts : List Action), f.method = m → f.locked = none → f.entered = [] → (doReturn e (T.setTop f) acts (some (.int (F2_143 v0)))).1 = T.setFrames fs) : Steps p.tables e below (T.setTop (mkF m 143 #[.val (.int v0)] [])) (T.setFrames fs) := by
  show Steps p.tables e below (T.setTop (mkF m 143 #[.val (.int v0)] [])) _
  refine XS.iloadN X.here hx rfl (hb hby d2_143) rfl ?_
  show Steps p.tables e below (T.setTop (mkF m 144 #[.val (.int v0)] [(.int v0)])) _
  refine X.ldcInt hx hown (mvT hZ (hw _ (List.mem_of_getElem? (i := 23) rfl))) (g := (mkF m 144 #[.val (.int v0)] [(.int v0)])) rfl (hb hby d2_144) _ ?_
  show Steps p.tables e below (T.setTop (mkF m 146 #[.val (.int v0)] [(.int (55295 : Int32)), (.int v0)])) _
  by_cases hc : (55295 : Int32) < v0
  · rw [show (F2_143 v0) = (F2_149 v0) from if_pos hc] at hr
    refine XS.icmpNo X.here hx rfl (hb hby d2_146) rfl (tlt hc).2.2.2 ?_
    exact b2_149 X hx hZ hw hby hown v0 hret hr
  · rw [show (F2_143 v0) = F2_185 from if_neg hc] at hr
    refine XS.icmpYes X.here hx rfl (pc0 := 146) (pc' := 185) rfl (hb hby d2_146) rfl (flt hc).2.2.2 (by decide) (by decide) ?_
    exact b2_185 X hx hZ hw hby hown v0 hret hr
def F2_136 (v0 : Int32) : Int32 := if v0 < (12289 : Int32) then (F2_149 v0) else (F2_143 v0)
theorem b2_136 {p : Program} {l : Launch} {e : Env} {R : Room} {s : State} {m : MethodId} {args : Array Value} {below : List Frame} {meth : Method} {c : Code} {T : State} {locs : List Loc} {cells slots : Nat} {Z : State} {a0 : Array Value} (X : Stand p l e R s m args below meth c T locs cells slots) (hx : p.tables.exec = Jvm.exec) (hZ : Z.Warmed39 s.vm) (hw : ∀ d ∈ tables_1, d.before a0 Z = true) (hby : c.code = prog_5_method_2_code) (hown : s.vm.findClass "shapewright/NameCharacters" = some m.cls) (v0 : Int32) (hret : meth.sig.returnType = some .boolean) {fs : List Frame} (hr : ∀ (f : JFrame) (acts : List Action), f.method = m → f.locked = none → f.entered = [] → (doReturn e (T.setTop f) acts (some (.int (F2_136 v0)))).1 = T.setFrames fs) : Steps p.tables e below (T.setTop (mkF m 136 #[.val (.int v0)] [])) (T.setFrames fs) := by
  show Steps p.tables e below (T.setTop (mkF m 136 #[.val (.int v0)] [])) _
  refine XS.iloadN X.here hx rfl (hb hby d2_136) rfl ?_
  show Steps p.tables e below (T.setTop (mkF m 137 #[.val (.int v0)] [(.int v0)])) _
  refine XS.sipush X.here hx rfl (hb hby d2_137) ?_
  show Steps p.tables e below (T.setTop (mkF m 140 #[.val (.int v0)] [(.int (12289 : Int32)), (.int v0)])) _
  by_cases hc : v0 < (12289 : Int32)
  · rw [show (F2_136 v0) = (F2_149 v0) from if_pos hc] at hr
    refine XS.icmpYes X.here hx rfl (pc0 := 140) (pc' := 149) rfl (hb hby d2_140) rfl (tlt hc).1 (by decide) (by decide) ?_
    exact b2_149 X hx hZ hw hby hown v0 hret hr
  · rw [show (F2_136 v0) = (F2_143 v0) from if_neg hc] at hr
    refine XS.icmpNo X.here hx rfl (hb hby d2_140) rfl (flt hc).1 ?_
    exact b2_143 X hx hZ hw hby hown v0 hret hr
def F2_129 (v0 : Int32) : Int32 := if (12271 : Int32) < v0 then (F2_136 v0) else F2_185
theorem b2_129 {p : Program} {l : Launch} {e : Env} {R : Room} {s : State} {m : MethodId} {args : Array Value} {below : List Frame} {meth : Method} {c : Code} {T : State} {locs : List Loc} {cells slots : Nat} {Z : State} {a0 : Array Value} (X : Stand p l e R s m args below meth c T locs cells slots) (hx : p.tables.exec = Jvm.exec) (hZ : Z.Warmed39 s.vm) (hw : ∀ d ∈ tables_1, d.before a0 Z = true) (hby : c.code = prog_5_method_2_code) (hown : s.vm.findClass "shapewright/NameCharacters" = some m.cls) (v0 : Int32) (hret : meth.sig.returnType = some .boolean) {fs : List Frame} (hr : ∀ (f : JFrame) (acts : List Action), f.method = m → f.locked = none → f.entered = [] → (doReturn e (T.setTop f) acts (some (.int (F2_129 v0)))).1 = T.setFrames fs) : Steps p.tables e below (T.setTop (mkF m 129 #[.val (.int v0)] [])) (T.setFrames fs) := by
  show Steps p.tables e below (T.setTop (mkF m 129 #[.val (.int v0)] [])) _
  refine XS.iloadN X.here hx rfl (hb hby d2_129) rfl ?_
  show Steps p.tables e below (T.setTop (mkF m 130 #[.val (.int v0)] [(.int v0)])) _
  refine XS.sipush X.here hx rfl (hb hby d2_130) ?_
  show Steps p.tables e below (T.setTop (mkF m 133 #[.val (.int v0)] [(.int (12271 : Int32)), (.int v0)])) _
  by_cases hc : (12271 : Int32) < v0
  · rw [show (F2_129 v0) = (F2_136 v0) from if_pos hc] at hr
    refine XS.icmpNo X.here hx rfl (hb hby d2_133) rfl (tlt hc).2.2.2 ?_
    exact b2_136 X hx hZ hw hby hown v0 hret hr
  · rw [show (F2_129 v0) = F2_185 from if_neg hc] at hr
    refine XS.icmpYes X.here hx rfl (pc0 := 133) (pc' := 185) rfl (hb hby d2_133) rfl (flt hc).2.2.2 (by decide) (by decide) ?_
    exact b2_185 X hx hZ hw hby hown v0 hret hr
def F2_122 (v0 : Int32) : Int32 := if v0 < (11264 : Int32) then (F2_136 v0) else (F2_129 v0)
theorem b2_122 {p : Program} {l : Launch} {e : Env} {R : Room} {s : State} {m : MethodId} {args : Array Value} {below : List Frame} {meth : Method} {c : Code} {T : State} {locs : List Loc} {cells slots : Nat} {Z : State} {a0 : Array Value} (X : Stand p l e R s m args below meth c T locs cells slots) (hx : p.tables.exec = Jvm.exec) (hZ : Z.Warmed39 s.vm) (hw : ∀ d ∈ tables_1, d.before a0 Z = true) (hby : c.code = prog_5_method_2_code) (hown : s.vm.findClass "shapewright/NameCharacters" = some m.cls) (v0 : Int32) (hret : meth.sig.returnType = some .boolean) {fs : List Frame} (hr : ∀ (f : JFrame) (acts : List Action), f.method = m → f.locked = none → f.entered = [] → (doReturn e (T.setTop f) acts (some (.int (F2_122 v0)))).1 = T.setFrames fs) : Steps p.tables e below (T.setTop (mkF m 122 #[.val (.int v0)] [])) (T.setFrames fs) := by
  show Steps p.tables e below (T.setTop (mkF m 122 #[.val (.int v0)] [])) _
  refine XS.iloadN X.here hx rfl (hb hby d2_122) rfl ?_
  show Steps p.tables e below (T.setTop (mkF m 123 #[.val (.int v0)] [(.int v0)])) _
  refine XS.sipush X.here hx rfl (hb hby d2_123) ?_
  show Steps p.tables e below (T.setTop (mkF m 126 #[.val (.int v0)] [(.int (11264 : Int32)), (.int v0)])) _
  by_cases hc : v0 < (11264 : Int32)
  · rw [show (F2_122 v0) = (F2_136 v0) from if_pos hc] at hr
    refine XS.icmpYes X.here hx rfl (pc0 := 126) (pc' := 136) rfl (hb hby d2_126) rfl (tlt hc).1 (by decide) (by decide) ?_
    exact b2_136 X hx hZ hw hby hown v0 hret hr
  · rw [show (F2_122 v0) = (F2_129 v0) from if_neg hc] at hr
    refine XS.icmpNo X.here hx rfl (hb hby d2_126) rfl (flt hc).1 ?_
    exact b2_129 X hx hZ hw hby hown v0 hret hr
def F2_115 (v0 : Int32) : Int32 := if (8591 : Int32) < v0 then (F2_122 v0) else F2_185
theorem b2_115 {p : Program} {l : Launch} {e : Env} {R : Room} {s : State} {m : MethodId} {args : Array Value} {below : List Frame} {meth : Method} {c : Code} {T : State} {locs : List Loc} {cells slots : Nat} {Z : State} {a0 : Array Value} (X : Stand p l e R s m args below meth c T locs cells slots) (hx : p.tables.exec = Jvm.exec) (hZ : Z.Warmed39 s.vm) (hw : ∀ d ∈ tables_1, d.before a0 Z = true) (hby : c.code = prog_5_method_2_code) (hown : s.vm.findClass "shapewright/NameCharacters" = some m.cls) (v0 : Int32) (hret : meth.sig.returnType = some .boolean) {fs : List Frame} (hr : ∀ (f : JFrame) (acts : List Action), f.method = m → f.locked = none → f.entered = [] → (doReturn e (T.setTop f) acts (some (.int (F2_115 v0)))).1 = T.setFrames fs) : Steps p.tables e below (T.setTop (mkF m 115 #[.val (.int v0)] [])) (T.setFrames fs) := by
  show Steps p.tables e below (T.setTop (mkF m 115 #[.val (.int v0)] [])) _
  refine XS.iloadN X.here hx rfl (hb hby d2_115) rfl ?_
  show Steps p.tables e below (T.setTop (mkF m 116 #[.val (.int v0)] [(.int v0)])) _
  refine XS.sipush X.here hx rfl (hb hby d2_116) ?_
  show Steps p.tables e below (T.setTop (mkF m 119 #[.val (.int v0)] [(.int (8591 : Int32)), (.int v0)])) _
  by_cases hc : (8591 : Int32) < v0
  · rw [show (F2_115 v0) = (F2_122 v0) from if_pos hc] at hr
    refine XS.icmpNo X.here hx rfl (hb hby d2_119) rfl (tlt hc).2.2.2 ?_
    exact b2_122 X hx hZ hw hby hown v0 hret hr
  · rw [show (F2_115 v0) = F2_185 from if_neg hc] at hr
    refine XS.icmpYes X.here hx rfl (pc0 := 119) (pc' := 185) rfl (hb hby d2_119) rfl (flt hc).2.2.2 (by decide) (by decide) ?_
    exact b2_185 X hx hZ hw hby hown v0 hret hr
def F2_108 (v0 : Int32) : Int32 := if v0 < (8304 : Int32) then (F2_122 v0) else (F2_115 v0)
theorem b2_108 {p : Program} {l : Launch} {e : Env} {R : Room} {s : State} {m : MethodId} {args : Array Value} {below : List Frame} {meth : Method} {c : Code} {T : State} {locs : List Loc} {cells slots : Nat} {Z : State} {a0 : Array Value} (X : Stand p l e R s m args below meth c T locs cells slots) (hx : p.tables.exec = Jvm.exec) (hZ : Z.Warmed39 s.vm) (hw : ∀ d ∈ tables_1, d.before a0 Z = true) (hby : c.code = prog_5_method_2_code) (hown : s.vm.findClass "shapewright/NameCharacters" = some m.cls) (v0 : Int32) (hret : meth.sig.returnType = some .boolean) {fs : List Frame} (hr : ∀ (f : JFrame) (acts : List Action), f.method = m → f.locked = none → f.entered = [] → (doReturn e (T.setTop f) acts (some (.int (F2_108 v0)))).1 = T.setFrames fs) : Steps p.tables e below (T.setTop (mkF m 108 #[.val (.int v0)] [])) (T.setFrames fs) := by
  show Steps p.tables e below (T.setTop (mkF m 108 #[.val (.int v0)] [])) _
  refine XS.iloadN X.here hx rfl (hb hby d2_108) rfl ?_
  show Steps p.tables e below (T.setTop (mkF m 109 #[.val (.int v0)] [(.int v0)])) _
  refine XS.sipush X.here hx rfl (hb hby d2_109) ?_
  show Steps p.tables e below (T.setTop (mkF m 112 #[.val (.int v0)] [(.int (8304 : Int32)), (.int v0)])) _
  by_cases hc : v0 < (8304 : Int32)
  · rw [show (F2_108 v0) = (F2_122 v0) from if_pos hc] at hr
    refine XS.icmpYes X.here hx rfl (pc0 := 112) (pc' := 122) rfl (hb hby d2_112) rfl (tlt hc).1 (by decide) (by decide) ?_
    exact b2_122 X hx hZ hw hby hown v0 hret hr
  · rw [show (F2_108 v0) = (F2_115 v0) from if_neg hc] at hr
    refine XS.icmpNo X.here hx rfl (hb hby d2_112) rfl (flt hc).1 ?_
    exact b2_115 X hx hZ hw hby hown v0 hret hr
def F2_101 (v0 : Int32) : Int32 := if (8205 : Int32) < v0 then (F2_108 v0) else F2_185
theorem b2_101 {p : Program} {l : Launch} {e : Env} {R : Room} {s : State} {m : MethodId} {args : Array Value} {below : List Frame} {meth : Method} {c : Code} {T : State} {locs : List Loc} {cells slots : Nat} {Z : State} {a0 : Array Value} (X : Stand p l e R s m args below meth c T locs cells slots) (hx : p.tables.exec = Jvm.exec) (hZ : Z.Warmed39 s.vm) (hw : ∀ d ∈ tables_1, d.before a0 Z = true) (hby : c.code = prog_5_method_2_code) (hown : s.vm.findClass "shapewright/NameCharacters" = some m.cls) (v0 : Int32) (hret : meth.sig.returnType = some .boolean) {fs : List Frame} (hr : ∀ (f : JFrame) (acts : List Action), f.method = m → f.locked = none → f.entered = [] → (doReturn e (T.setTop f) acts (some (.int (F2_101 v0)))).1 = T.setFrames fs) : Steps p.tables e below (T.setTop (mkF m 101 #[.val (.int v0)] [])) (T.setFrames fs) := by
  show Steps p.tables e below (T.setTop (mkF m 101 #[.val (.int v0)] [])) _
  refine XS.iloadN X.here hx rfl (hb hby d2_101) rfl ?_
  show Steps p.tables e below (T.setTop (mkF m 102 #[.val (.int v0)] [(.int v0)])) _
  refine XS.sipush X.here hx rfl (hb hby d2_102) ?_
  show Steps p.tables e below (T.setTop (mkF m 105 #[.val (.int v0)] [(.int (8205 : Int32)), (.int v0)])) _
  by_cases hc : (8205 : Int32) < v0
  · rw [show (F2_101 v0) = (F2_108 v0) from if_pos hc] at hr
    refine XS.icmpNo X.here hx rfl (hb hby d2_105) rfl (tlt hc).2.2.2 ?_
    exact b2_108 X hx hZ hw hby hown v0 hret hr
  · rw [show (F2_101 v0) = F2_185 from if_neg hc] at hr
    refine XS.icmpYes X.here hx rfl (pc0 := 105) (pc' := 185) rfl (hb hby d2_105) rfl (flt hc).2.2.2 (by decide) (by decide) ?_
    exact b2_185 X hx hZ hw hby hown v0 hret hr
def F2_94 (v0 : Int32) : Int32 := if v0 < (8204 : Int32) then (F2_108 v0) else (F2_101 v0)
theorem b2_94 {p : Program} {l : Launch} {e : Env} {R : Room} {s : State} {m : MethodId} {args : Array Value} {below : List Frame} {meth : Method} {c : Code} {T : State} {locs : List Loc} {cells slots : Nat} {Z : State} {a0 : Array Value} (X : Stand p l e R s m args below meth c T locs cells slots) (hx : p.tables.exec = Jvm.exec) (hZ : Z.Warmed39 s.vm) (hw : ∀ d ∈ tables_1, d.before a0 Z = true) (hby : c.code = prog_5_method_2_code) (hown : s.vm.findClass "shapewright/NameCharacters" = some m.cls) (v0 : Int32) (hret : meth.sig.returnType = some .boolean) {fs : List Frame} (hr : ∀ (f : JFrame) (acts : List Action), f.method = m → f.locked = none → f.entered = [] → (doReturn e (T.setTop f) acts (some (.int (F2_94 v0)))).1 = T.setFrames fs) : Steps p.tables e below (T.setTop (mkF m 94 #[.val (.int v0)] [])) (T.setFrames fs) := by
  show Steps p.tables e below (T.setTop (mkF m 94 #[.val (.int v0)] [])) _
  refine XS.iloadN X.here hx rfl (hb hby d2_94) rfl ?_
  show Steps p.tables e below (T.setTop (mkF m 95 #[.val (.int v0)] [(.int v0)])) _
  refine XS.sipush X.here hx rfl (hb hby d2_95) ?_
  show Steps p.tables e below (T.setTop (mkF m 98 #[.val (.int v0)] [(.int (8204 : Int32)), (.int v0)])) _
  by_cases hc : v0 < (8204 : Int32)
  · rw [show (F2_94 v0) = (F2_108 v0) from if_pos hc] at hr
    refine XS.icmpYes X.here hx rfl (pc0 := 98) (pc' := 108) rfl (hb hby d2_98) rfl (tlt hc).1 (by decide) (by decide) ?_
    exact b2_108 X hx hZ hw hby hown v0 hret hr
  · rw [show (F2_94 v0) = (F2_101 v0) from if_neg hc] at hr
    refine XS.icmpNo X.here hx rfl (hb hby d2_98) rfl (flt hc).1 ?_
    exact b2_101 X hx hZ hw hby hown v0 hret hr
def F2_87 (v0 : Int32) : Int32 := if (8191 : Int32) < v0 then (F2_94 v0) else F2_185
theorem b2_87 {p : Program} {l : Launch} {e : Env} {R : Room} {s : State} {m : MethodId} {args : Array Value} {below : List Frame} {meth : Method} {c : Code} {T : State} {locs : List Loc} {cells slots : Nat} {Z : State} {a0 : Array Value} (X : Stand p l e R s m args below meth c T locs cells slots) (hx : p.tables.exec = Jvm.exec) (hZ : Z.Warmed39 s.vm) (hw : ∀ d ∈ tables_1, d.before a0 Z = true) (hby : c.code = prog_5_method_2_code) (hown : s.vm.findClass "shapewright/NameCharacters" = some m.cls) (v0 : Int32) (hret : meth.sig.returnType = some .boolean) {fs : List Frame} (hr : ∀ (f : JFrame) (acts : List Action), f.method = m → f.locked = none → f.entered = [] → (doReturn e (T.setTop f) acts (some (.int (F2_87 v0)))).1 = T.setFrames fs) : Steps p.tables e below (T.setTop (mkF m 87 #[.val (.int v0)] [])) (T.setFrames fs) := by
  show Steps p.tables e below (T.setTop (mkF m 87 #[.val (.int v0)] [])) _
  refine XS.iloadN X.here hx rfl (hb hby d2_87) rfl ?_
  show Steps p.tables e below (T.setTop (mkF m 88 #[.val (.int v0)] [(.int v0)])) _
  refine XS.sipush X.here hx rfl (hb hby d2_88) ?_
  show Steps p.tables e below (T.setTop (mkF m 91 #[.val (.int v0)] [(.int (8191 : Int32)), (.int v0)])) _
  by_cases hc : (8191 : Int32) < v0
  · rw [show (F2_87 v0) = (F2_94 v0) from if_pos hc] at hr
    refine XS.icmpNo X.here hx rfl (hb hby d2_91) rfl (tlt hc).2.2.2 ?_
    exact b2_94 X hx hZ hw hby hown v0 hret hr
  · rw [show (F2_87 v0) = F2_185 from if_neg hc] at hr
    refine XS.icmpYes X.here hx rfl (pc0 := 91) (pc' := 185) rfl (hb hby d2_91) rfl (flt hc).2.2.2 (by decide) (by decide) ?_
    exact b2_185 X hx hZ hw hby hown v0 hret hr
def F2_80 (v0 : Int32) : Int32 := if v0 < (895 : Int32) then (F2_94 v0) else (F2_87 v0)
theorem b2_80 {p : Program} {l : Launch} {e : Env} {R : Room} {s : State} {m : MethodId} {args : Array Value} {below : List Frame} {meth : Method} {c : Code} {T : State} {locs : List Loc} {cells slots : Nat} {Z : State} {a0 : Array Value} (X : Stand p l e R s m args below meth c T locs cells slots) (hx : p.tables.exec = Jvm.exec) (hZ : Z.Warmed39 s.vm) (hw : ∀ d ∈ tables_1, d.before a0 Z = true) (hby : c.code = prog_5_method_2_code) (hown : s.vm.findClass "shapewright/NameCharacters" = some m.cls) (v0 : Int32) (hret : meth.sig.returnType = some .boolean) {fs : List Frame} (hr : ∀ (f : JFrame) (acts : List Action), f.method = m → f.locked = none → f.entered = [] → (doReturn e (T.setTop f) acts (some (.int (F2_80 v0)))).1 = T.setFrames fs) : Steps p.tables e below (T.setTop (mkF m 80 #[.val (.int v0)] [])) (T.setFrames fs) := by
  show Steps p.tables e below (T.setTop (mkF m 80 #[.val (.int v0)] [])) _
  refine XS.iloadN X.here hx rfl (hb hby d2_80) rfl ?_
  show Steps p.tables e below (T.setTop (mkF m 81 #[.val (.int v0)] [(.int v0)])) _
  refine XS.sipush X.here hx rfl (hb hby d2_81) ?_
  show Steps p.tables e below (T.setTop (mkF m 84 #[.val (.int v0)] [(.int (895 : Int32)), (.int v0)])) _
  by_cases hc : v0 < (895 : Int32)
  · rw [show (F2_80 v0) = (F2_94 v0) from if_pos hc] at hr
    refine XS.icmpYes X.here hx rfl (pc0 := 84) (pc' := 94) rfl (hb hby d2_84) rfl (tlt hc).1 (by decide) (by decide) ?_
    exact b2_94 X hx hZ hw hby hown v0 hret hr
  · rw [show (F2_80 v0) = (F2_87 v0) from if_neg hc] at hr
    refine XS.icmpNo X.here hx rfl (hb hby d2_84) rfl (flt hc).1 ?_
    exact b2_87 X hx hZ hw hby hown v0 hret hr
def F2_73 (v0 : Int32) : Int32 := if (893 : Int32) < v0 then (F2_80 v0) else F2_185
theorem b2_73 {p : Program} {l : Launch} {e : Env} {R : Room} {s : State} {m : MethodId} {args : Array Value} {below : List Frame} {meth : Method} {c : Code} {T : State} {locs : List Loc} {cells slots : Nat} {Z : State} {a0 : Array Value} (X : Stand p l e R s m args below meth c T locs cells slots) (hx : p.tables.exec = Jvm.exec) (hZ : Z.Warmed39 s.vm) (hw : ∀ d ∈ tables_1, d.before a0 Z = true) (hby : c.code = prog_5_method_2_code) (hown : s.vm.findClass "shapewright/NameCharacters" = some m.cls) (v0 : Int32) (hret : meth.sig.returnType = some .boolean) {fs : List Frame} (hr : ∀ (f : JFrame) (acts : List Action), f.method = m → f.locked = none → f.entered = [] → (doReturn e (T.setTop f) acts (some (.int (F2_73 v0)))).1 = T.setFrames fs) : Steps p.tables e below (T.setTop (mkF m 73 #[.val (.int v0)] [])) (T.setFrames fs) := by
  show Steps p.tables e below (T.setTop (mkF m 73 #[.val (.int v0)] [])) _
  refine XS.iloadN X.here hx rfl (hb hby d2_73) rfl ?_
  show Steps p.tables e below (T.setTop (mkF m 74 #[.val (.int v0)] [(.int v0)])) _
  refine XS.sipush X.here hx rfl (hb hby d2_74) ?_
  show Steps p.tables e below (T.setTop (mkF m 77 #[.val (.int v0)] [(.int (893 : Int32)), (.int v0)])) _
  by_cases hc : (893 : Int32) < v0
  · rw [show (F2_73 v0) = (F2_80 v0) from if_pos hc] at hr
    refine XS.icmpNo X.here hx rfl (hb hby d2_77) rfl (tlt hc).2.2.2 ?_
    exact b2_80 X hx hZ hw hby hown v0 hret hr
  · rw [show (F2_73 v0) = F2_185 from if_neg hc] at hr
    refine XS.icmpYes X.here hx rfl (pc0 := 77) (pc' := 185) rfl (hb hby d2_77) rfl (flt hc).2.2.2 (by decide) (by decide) ?_
    exact b2_185 X hx hZ hw hby hown v0 hret hr
def F2_66 (v0 : Int32) : Int32 := if v0 < (880 : Int32) then (F2_80 v0) else (F2_73 v0)
theorem b2_66 {p : Program} {l : Launch} {e : Env} {R : Room} {s : State} {m : MethodId} {args : Array Value} {below : List Frame} {meth : Method} {c : Code} {T : State} {locs : List Loc} {cells slots : Nat} {Z : State} {a0 : Array Value} (X : Stand p l e R s m args below meth c T locs cells slots) (hx : p.tables.exec = Jvm.exec) (hZ : Z.Warmed39 s.vm) (hw : ∀ d ∈ tables_1, d.before a0 Z = true) (hby : c.code = prog_5_method_2_code) (hown : s.vm.findClass "shapewright/NameCharacters" = some m.cls) (v0 : Int32) (hret : meth.sig.returnType = some .boolean) {fs : List Frame} (hr : ∀ (f : JFrame) (acts : List Action), f.method = m → f.locked = none → f.entered = [] → (doReturn e (T.setTop f) acts (some (.int (F2_66 v0)))).1 = T.setFrames fs) : Steps p.tables e below (T.setTop (mkF m 66 #[.val (.int v0)] [])) (T.setFrames fs) := by
  show Steps p.tables e below (T.setTop (mkF m 66 #[.val (.int v0)] [])) _
  refine XS.iloadN X.here hx rfl (hb hby d2_66) rfl ?_
  show Steps p.tables e below (T.setTop (mkF m 67 #[.val (.int v0)] [(.int v0)])) _
  refine XS.sipush X.here hx rfl (hb hby d2_67) ?_
  show Steps p.tables e below (T.setTop (mkF m 70 #[.val (.int v0)] [(.int (880 : Int32)), (.int v0)])) _
  by_cases hc : v0 < (880 : Int32)
  · rw [show (F2_66 v0) = (F2_80 v0) from if_pos hc] at hr
    refine XS.icmpYes X.here hx rfl (pc0 := 70) (pc' := 80) rfl (hb hby d2_70) rfl (tlt hc).1 (by decide) (by decide) ?_
    exact b2_80 X hx hZ hw hby hown v0 hret hr
  · rw [show (F2_66 v0) = (F2_73 v0) from if_neg hc] at hr
    refine XS.icmpNo X.here hx rfl (hb hby d2_70) rfl (flt hc).1 ?_
    exact b2_73 X hx hZ hw hby hown v0 hret hr
def F2_59 (v0 : Int32) : Int32 := if (767 : Int32) < v0 then (F2_66 v0) else F2_185
theorem b2_59 {p : Program} {l : Launch} {e : Env} {R : Room} {s : State} {m : MethodId} {args : Array Value} {below : List Frame} {meth : Method} {c : Code} {T : State} {locs : List Loc} {cells slots : Nat} {Z : State} {a0 : Array Value} (X : Stand p l e R s m args below meth c T locs cells slots) (hx : p.tables.exec = Jvm.exec) (hZ : Z.Warmed39 s.vm) (hw : ∀ d ∈ tables_1, d.before a0 Z = true) (hby : c.code = prog_5_method_2_code) (hown : s.vm.findClass "shapewright/NameCharacters" = some m.cls) (v0 : Int32) (hret : meth.sig.returnType = some .boolean) {fs : List Frame} (hr : ∀ (f : JFrame) (acts : List Action), f.method = m → f.locked = none → f.entered = [] → (doReturn e (T.setTop f) acts (some (.int (F2_59 v0)))).1 = T.setFrames fs) : Steps p.tables e below (T.setTop (mkF m 59 #[.val (.int v0)] [])) (T.setFrames fs) := by
  show Steps p.tables e below (T.setTop (mkF m 59 #[.val (.int v0)] [])) _
  refine XS.iloadN X.here hx rfl (hb hby d2_59) rfl ?_
  show Steps p.tables e below (T.setTop (mkF m 60 #[.val (.int v0)] [(.int v0)])) _
  refine XS.sipush X.here hx rfl (hb hby d2_60) ?_
  show Steps p.tables e below (T.setTop (mkF m 63 #[.val (.int v0)] [(.int (767 : Int32)), (.int v0)])) _
  by_cases hc : (767 : Int32) < v0
  · rw [show (F2_59 v0) = (F2_66 v0) from if_pos hc] at hr
    refine XS.icmpNo X.here hx rfl (hb hby d2_63) rfl (tlt hc).2.2.2 ?_
    exact b2_66 X hx hZ hw hby hown v0 hret hr
  · rw [show (F2_59 v0) = F2_185 from if_neg hc] at hr
    refine XS.icmpYes X.here hx rfl (pc0 := 63) (pc' := 185) rfl (hb hby d2_63) rfl (flt hc).2.2.2 (by decide) (by decide) ?_
    exact b2_185 X hx hZ hw hby hown v0 hret hr
def F2_52 (v0 : Int32) : Int32 := if v0 < (248 : Int32) then (F2_66 v0) else (F2_59 v0)
theorem b2_52 {p : Program} {l : Launch} {e : Env} {R : Room} {s : State} {m : MethodId} {args : Array Value} {below : List Frame} {meth : Method} {c : Code} {T : State} {locs : List Loc} {cells slots : Nat} {Z : State} {a0 : Array Value} (X : Stand p l e R s m args below meth c T locs cells slots) (hx : p.tables.exec = Jvm.exec) (hZ : Z.Warmed39 s.vm) (hw : ∀ d ∈ tables_1, d.before a0 Z = true) (hby : c.code = prog_5_method_2_code) (hown : s.vm.findClass "shapewright/NameCharacters" = some m.cls) (v0 : Int32) (hret : meth.sig.returnType = some .boolean) {fs : List Frame} (hr : ∀ (f : JFrame) (acts : List Action), f.method = m → f.locked = none → f.entered = [] → (doReturn e (T.setTop f) acts (some (.int (F2_52 v0)))).1 = T.setFrames fs) : Steps p.tables e below (T.setTop (mkF m 52 #[.val (.int v0)] [])) (T.setFrames fs) := by
  show Steps p.tables e below (T.setTop (mkF m 52 #[.val (.int v0)] [])) _
  refine XS.iloadN X.here hx rfl (hb hby d2_52) rfl ?_
  show Steps p.tables e below (T.setTop (mkF m 53 #[.val (.int v0)] [(.int v0)])) _
  refine XS.sipush X.here hx rfl (hb hby d2_53) ?_
  show Steps p.tables e below (T.setTop (mkF m 56 #[.val (.int v0)] [(.int (248 : Int32)), (.int v0)])) _
  by_cases hc : v0 < (248 : Int32)
  · rw [show (F2_52 v0) = (F2_66 v0) from if_pos hc] at hr
    refine XS.icmpYes X.here hx rfl (pc0 := 56) (pc' := 66) rfl (hb hby d2_56) rfl (tlt hc).1 (by decide) (by decide) ?_
    exact b2_66 X hx hZ hw hby hown v0 hret hr
  · rw [show (F2_52 v0) = (F2_59 v0) from if_neg hc] at hr
    refine XS.icmpNo X.here hx rfl (hb hby d2_56) rfl (flt hc).1 ?_
    exact b2_59 X hx hZ hw hby hown v0 hret hr
def F2_45 (v0 : Int32) : Int32 := if (246 : Int32) < v0 then (F2_52 v0) else F2_185
theorem b2_45 {p : Program} {l : Launch} {e : Env} {R : Room} {s : State} {m : MethodId} {args : Array Value} {below : List Frame} {meth : Method} {c : Code} {T : State} {locs : List Loc} {cells slots : Nat} {Z : State} {a0 : Array Value} (X : Stand p l e R s m args below meth c T locs cells slots) (hx : p.tables.exec = Jvm.exec) (hZ : Z.Warmed39 s.vm) (hw : ∀ d ∈ tables_1, d.before a0 Z = true) (hby : c.code = prog_5_method_2_code) (hown : s.vm.findClass "shapewright/NameCharacters" = some m.cls) (v0 : Int32) (hret : meth.sig.returnType = some .boolean) {fs : List Frame} (hr : ∀ (f : JFrame) (acts : List Action), f.method = m → f.locked = none → f.entered = [] → (doReturn e (T.setTop f) acts (some (.int (F2_45 v0)))).1 = T.setFrames fs) : Steps p.tables e below (T.setTop (mkF m 45 #[.val (.int v0)] [])) (T.setFrames fs) := by
  show Steps p.tables e below (T.setTop (mkF m 45 #[.val (.int v0)] [])) _
  refine XS.iloadN X.here hx rfl (hb hby d2_45) rfl ?_
  show Steps p.tables e below (T.setTop (mkF m 46 #[.val (.int v0)] [(.int v0)])) _
  refine XS.sipush X.here hx rfl (hb hby d2_46) ?_
  show Steps p.tables e below (T.setTop (mkF m 49 #[.val (.int v0)] [(.int (246 : Int32)), (.int v0)])) _
  by_cases hc : (246 : Int32) < v0
  · rw [show (F2_45 v0) = (F2_52 v0) from if_pos hc] at hr
    refine XS.icmpNo X.here hx rfl (hb hby d2_49) rfl (tlt hc).2.2.2 ?_
    exact b2_52 X hx hZ hw hby hown v0 hret hr
  · rw [show (F2_45 v0) = F2_185 from if_neg hc] at hr
    refine XS.icmpYes X.here hx rfl (pc0 := 49) (pc' := 185) rfl (hb hby d2_49) rfl (flt hc).2.2.2 (by decide) (by decide) ?_
    exact b2_185 X hx hZ hw hby hown v0 hret hr
def F2_38 (v0 : Int32) : Int32 := if v0 < (216 : Int32) then (F2_52 v0) else (F2_45 v0)
theorem b2_38 {p : Program} {l : Launch} {e : Env} {R : Room} {s : State} {m : MethodId} {args : Array Value} {below : List Frame} {meth : Method} {c : Code} {T : State} {locs : List Loc} {cells slots : Nat} {Z : State} {a0 : Array Value} (X : Stand p l e R s m args below meth c T locs cells slots) (hx : p.tables.exec = Jvm.exec) (hZ : Z.Warmed39 s.vm) (hw : ∀ d ∈ tables_1, d.before a0 Z = true) (hby : c.code = prog_5_method_2_code) (hown : s.vm.findClass "shapewright/NameCharacters" = some m.cls) (v0 : Int32) (hret : meth.sig.returnType = some .boolean) {fs : List Frame} (hr : ∀ (f : JFrame) (acts : List Action), f.method = m → f.locked = none → f.entered = [] → (doReturn e (T.setTop f) acts (some (.int (F2_38 v0)))).1 = T.setFrames fs) : Steps p.tables e below (T.setTop (mkF m 38 #[.val (.int v0)] [])) (T.setFrames fs) := by
  show Steps p.tables e below (T.setTop (mkF m 38 #[.val (.int v0)] [])) _
  refine XS.iloadN X.here hx rfl (hb hby d2_38) rfl ?_
  show Steps p.tables e below (T.setTop (mkF m 39 #[.val (.int v0)] [(.int v0)])) _
  refine XS.sipush X.here hx rfl (hb hby d2_39) ?_
  show Steps p.tables e below (T.setTop (mkF m 42 #[.val (.int v0)] [(.int (216 : Int32)), (.int v0)])) _
  by_cases hc : v0 < (216 : Int32)
  · rw [show (F2_38 v0) = (F2_52 v0) from if_pos hc] at hr
    refine XS.icmpYes X.here hx rfl (pc0 := 42) (pc' := 52) rfl (hb hby d2_42) rfl (tlt hc).1 (by decide) (by decide) ?_
    exact b2_52 X hx hZ hw hby hown v0 hret hr
  · rw [show (F2_38 v0) = (F2_45 v0) from if_neg hc] at hr
    refine XS.icmpNo X.here hx rfl (hb hby d2_42) rfl (flt hc).1 ?_
    exact b2_45 X hx hZ hw hby hown v0 hret hr
def F2_31 (v0 : Int32) : Int32 := if (214 : Int32) < v0 then (F2_38 v0) else F2_185
theorem b2_31 {p : Program} {l : Launch} {e : Env} {R : Room} {s : State} {m : MethodId} {args : Array Value} {below : List Frame} {meth : Method} {c : Code} {T : State} {locs : List Loc} {cells slots : Nat} {Z : State} {a0 : Array Value} (X : Stand p l e R s m args below meth c T locs cells slots) (hx : p.tables.exec = Jvm.exec) (hZ : Z.Warmed39 s.vm) (hw : ∀ d ∈ tables_1, d.before a0 Z = true) (hby : c.code = prog_5_method_2_code) (hown : s.vm.findClass "shapewright/NameCharacters" = some m.cls) (v0 : Int32) (hret : meth.sig.returnType = some .boolean) {fs : List Frame} (hr : ∀ (f : JFrame) (acts : List Action), f.method = m → f.locked = none → f.entered = [] → (doReturn e (T.setTop f) acts (some (.int (F2_31 v0)))).1 = T.setFrames fs) : Steps p.tables e below (T.setTop (mkF m 31 #[.val (.int v0)] [])) (T.setFrames fs) := by
  show Steps p.tables e below (T.setTop (mkF m 31 #[.val (.int v0)] [])) _
  refine XS.iloadN X.here hx rfl (hb hby d2_31) rfl ?_
  show Steps p.tables e below (T.setTop (mkF m 32 #[.val (.int v0)] [(.int v0)])) _
  refine XS.sipush X.here hx rfl (hb hby d2_32) ?_
  show Steps p.tables e below (T.setTop (mkF m 35 #[.val (.int v0)] [(.int (214 : Int32)), (.int v0)])) _
  by_cases hc : (214 : Int32) < v0
  · rw [show (F2_31 v0) = (F2_38 v0) from if_pos hc] at hr
    refine XS.icmpNo X.here hx rfl (hb hby d2_35) rfl (tlt hc).2.2.2 ?_
    exact b2_38 X hx hZ hw hby hown v0 hret hr
  · rw [show (F2_31 v0) = F2_185 from if_neg hc] at hr
    refine XS.icmpYes X.here hx rfl (pc0 := 35) (pc' := 185) rfl (hb hby d2_35) rfl (flt hc).2.2.2 (by decide) (by decide) ?_
    exact b2_185 X hx hZ hw hby hown v0 hret hr
def F2_24 (v0 : Int32) : Int32 := if v0 < (192 : Int32) then (F2_38 v0) else (F2_31 v0)
theorem b2_24 {p : Program} {l : Launch} {e : Env} {R : Room} {s : State} {m : MethodId} {args : Array Value} {below : List Frame} {meth : Method} {c : Code} {T : State} {locs : List Loc} {cells slots : Nat} {Z : State} {a0 : Array Value} (X : Stand p l e R s m args below meth c T locs cells slots) (hx : p.tables.exec = Jvm.exec) (hZ : Z.Warmed39 s.vm) (hw : ∀ d ∈ tables_1, d.before a0 Z = true) (hby : c.code = prog_5_method_2_code) (hown : s.vm.findClass "shapewright/NameCharacters" = some m.cls) (v0 : Int32) (hret : meth.sig.returnType = some .boolean) {fs : List Frame} (hr : ∀ (f : JFrame) (acts : List Action), f.method = m → f.locked = none → f.entered = [] → (doReturn e (T.setTop f) acts (some (.int (F2_24 v0)))).1 = T.setFrames fs) : Steps p.tables e below (T.setTop (mkF m 24 #[.val (.int v0)] [])) (T.setFrames fs) := by
  show Steps p.tables e below (T.setTop (mkF m 24 #[.val (.int v0)] [])) _
  refine XS.iloadN X.here hx rfl (hb hby d2_24) rfl ?_
  show Steps p.tables e below (T.setTop (mkF m 25 #[.val (.int v0)] [(.int v0)])) _
  refine XS.sipush X.here hx rfl (hb hby d2_25) ?_
  show Steps p.tables e below (T.setTop (mkF m 28 #[.val (.int v0)] [(.int (192 : Int32)), (.int v0)])) _
  by_cases hc : v0 < (192 : Int32)
  · rw [show (F2_24 v0) = (F2_38 v0) from if_pos hc] at hr
    refine XS.icmpYes X.here hx rfl (pc0 := 28) (pc' := 38) rfl (hb hby d2_28) rfl (tlt hc).1 (by decide) (by decide) ?_
    exact b2_38 X hx hZ hw hby hown v0 hret hr
  · rw [show (F2_24 v0) = (F2_31 v0) from if_neg hc] at hr
    refine XS.icmpNo X.here hx rfl (hb hby d2_28) rfl (flt hc).1 ?_
    exact b2_31 X hx hZ hw hby hown v0 hret hr
def F2_18 (v0 : Int32) : Int32 := if (122 : Int32) < v0 then (F2_24 v0) else F2_185
theorem b2_18 {p : Program} {l : Launch} {e : Env} {R : Room} {s : State} {m : MethodId} {args : Array Value} {below : List Frame} {meth : Method} {c : Code} {T : State} {locs : List Loc} {cells slots : Nat} {Z : State} {a0 : Array Value} (X : Stand p l e R s m args below meth c T locs cells slots) (hx : p.tables.exec = Jvm.exec) (hZ : Z.Warmed39 s.vm) (hw : ∀ d ∈ tables_1, d.before a0 Z = true) (hby : c.code = prog_5_method_2_code) (hown : s.vm.findClass "shapewright/NameCharacters" = some m.cls) (v0 : Int32) (hret : meth.sig.returnType = some .boolean) {fs : List Frame} (hr : ∀ (f : JFrame) (acts : List Action), f.method = m → f.locked = none → f.entered = [] → (doReturn e (T.setTop f) acts (some (.int (F2_18 v0)))).1 = T.setFrames fs) : Steps p.tables e below (T.setTop (mkF m 18 #[.val (.int v0)] [])) (T.setFrames fs) := by
  show Steps p.tables e below (T.setTop (mkF m 18 #[.val (.int v0)] [])) _
  refine XS.iloadN X.here hx rfl (hb hby d2_18) rfl ?_
  show Steps p.tables e below (T.setTop (mkF m 19 #[.val (.int v0)] [(.int v0)])) _
  refine XS.bipush X.here hx rfl (hb hby d2_19) ?_
  show Steps p.tables e below (T.setTop (mkF m 21 #[.val (.int v0)] [(.int (122 : Int32)), (.int v0)])) _
  by_cases hc : (122 : Int32) < v0
  · rw [show (F2_18 v0) = (F2_24 v0) from if_pos hc] at hr
    refine XS.icmpNo X.here hx rfl (hb hby d2_21) rfl (tlt hc).2.2.2 ?_
    exact b2_24 X hx hZ hw hby hown v0 hret hr
  · rw [show (F2_18 v0) = F2_185 from if_neg hc] at hr
    refine XS.icmpYes X.here hx rfl (pc0 := 21) (pc' := 185) rfl (hb hby d2_21) rfl (flt hc).2.2.2 (by decide) (by decide) ?_
    exact b2_185 X hx hZ hw hby hown v0 hret hr
def F2_12 (v0 : Int32) : Int32 := if v0 < (97 : Int32) then (F2_24 v0) else (F2_18 v0)
theorem b2_12 {p : Program} {l : Launch} {e : Env} {R : Room} {s : State} {m : MethodId} {args : Array Value} {below : List Frame} {meth : Method} {c : Code} {T : State} {locs : List Loc} {cells slots : Nat} {Z : State} {a0 : Array Value} (X : Stand p l e R s m args below meth c T locs cells slots) (hx : p.tables.exec = Jvm.exec) (hZ : Z.Warmed39 s.vm) (hw : ∀ d ∈ tables_1, d.before a0 Z = true) (hby : c.code = prog_5_method_2_code) (hown : s.vm.findClass "shapewright/NameCharacters" = some m.cls) (v0 : Int32) (hret : meth.sig.returnType = some .boolean) {fs : List Frame} (hr : ∀ (f : JFrame) (acts : List Action), f.method = m → f.locked = none → f.entered = [] → (doReturn e (T.setTop f) acts (some (.int (F2_12 v0)))).1 = T.setFrames fs) : Steps p.tables e below (T.setTop (mkF m 12 #[.val (.int v0)] [])) (T.setFrames fs) := by
  show Steps p.tables e below (T.setTop (mkF m 12 #[.val (.int v0)] [])) _
  refine XS.iloadN X.here hx rfl (hb hby d2_12) rfl ?_
  show Steps p.tables e below (T.setTop (mkF m 13 #[.val (.int v0)] [(.int v0)])) _
  refine XS.bipush X.here hx rfl (hb hby d2_13) ?_
  show Steps p.tables e below (T.setTop (mkF m 15 #[.val (.int v0)] [(.int (97 : Int32)), (.int v0)])) _
  by_cases hc : v0 < (97 : Int32)
  · rw [show (F2_12 v0) = (F2_24 v0) from if_pos hc] at hr
    refine XS.icmpYes X.here hx rfl (pc0 := 15) (pc' := 24) rfl (hb hby d2_15) rfl (tlt hc).1 (by decide) (by decide) ?_
    exact b2_24 X hx hZ hw hby hown v0 hret hr
  · rw [show (F2_12 v0) = (F2_18 v0) from if_neg hc] at hr
    refine XS.icmpNo X.here hx rfl (hb hby d2_15) rfl (flt hc).1 ?_
    exact b2_18 X hx hZ hw hby hown v0 hret hr
def F2_6 (v0 : Int32) : Int32 := if (90 : Int32) < v0 then (F2_12 v0) else F2_185
theorem b2_6 {p : Program} {l : Launch} {e : Env} {R : Room} {s : State} {m : MethodId} {args : Array Value} {below : List Frame} {meth : Method} {c : Code} {T : State} {locs : List Loc} {cells slots : Nat} {Z : State} {a0 : Array Value} (X : Stand p l e R s m args below meth c T locs cells slots) (hx : p.tables.exec = Jvm.exec) (hZ : Z.Warmed39 s.vm) (hw : ∀ d ∈ tables_1, d.before a0 Z = true) (hby : c.code = prog_5_method_2_code) (hown : s.vm.findClass "shapewright/NameCharacters" = some m.cls) (v0 : Int32) (hret : meth.sig.returnType = some .boolean) {fs : List Frame} (hr : ∀ (f : JFrame) (acts : List Action), f.method = m → f.locked = none → f.entered = [] → (doReturn e (T.setTop f) acts (some (.int (F2_6 v0)))).1 = T.setFrames fs) : Steps p.tables e below (T.setTop (mkF m 6 #[.val (.int v0)] [])) (T.setFrames fs) := by
  show Steps p.tables e below (T.setTop (mkF m 6 #[.val (.int v0)] [])) _
  refine XS.iloadN X.here hx rfl (hb hby d2_6) rfl ?_
  show Steps p.tables e below (T.setTop (mkF m 7 #[.val (.int v0)] [(.int v0)])) _
  refine XS.bipush X.here hx rfl (hb hby d2_7) ?_
  show Steps p.tables e below (T.setTop (mkF m 9 #[.val (.int v0)] [(.int (90 : Int32)), (.int v0)])) _
  by_cases hc : (90 : Int32) < v0
  · rw [show (F2_6 v0) = (F2_12 v0) from if_pos hc] at hr
    refine XS.icmpNo X.here hx rfl (hb hby d2_9) rfl (tlt hc).2.2.2 ?_
    exact b2_12 X hx hZ hw hby hown v0 hret hr
  · rw [show (F2_6 v0) = F2_185 from if_neg hc] at hr
    refine XS.icmpYes X.here hx rfl (pc0 := 9) (pc' := 185) rfl (hb hby d2_9) rfl (flt hc).2.2.2 (by decide) (by decide) ?_
    exact b2_185 X hx hZ hw hby hown v0 hret hr
def F2_0 (v0 : Int32) : Int32 := if v0 < (65 : Int32) then (F2_12 v0) else (F2_6 v0)
theorem b2_0 {p : Program} {l : Launch} {e : Env} {R : Room} {s : State} {m : MethodId} {args : Array Value} {below : List Frame} {meth : Method} {c : Code} {T : State} {locs : List Loc} {cells slots : Nat} {Z : State} {a0 : Array Value} (X : Stand p l e R s m args below meth c T locs cells slots) (hx : p.tables.exec = Jvm.exec) (hZ : Z.Warmed39 s.vm) (hw : ∀ d ∈ tables_1, d.before a0 Z = true) (hby : c.code = prog_5_method_2_code) (hown : s.vm.findClass "shapewright/NameCharacters" = some m.cls) (v0 : Int32) (hret : meth.sig.returnType = some .boolean) {fs : List Frame} (hr : ∀ (f : JFrame) (acts : List Action), f.method = m → f.locked = none → f.entered = [] → (doReturn e (T.setTop f) acts (some (.int (F2_0 v0)))).1 = T.setFrames fs) : Steps p.tables e below (T.setTop (mkF m 0 #[.val (.int v0)] [])) (T.setFrames fs) := by
  show Steps p.tables e below (T.setTop (mkF m 0 #[.val (.int v0)] [])) _
  refine XS.iloadN X.here hx rfl (hb hby d2_0) rfl ?_
  show Steps p.tables e below (T.setTop (mkF m 1 #[.val (.int v0)] [(.int v0)])) _
  refine XS.bipush X.here hx rfl (hb hby d2_1) ?_
  show Steps p.tables e below (T.setTop (mkF m 3 #[.val (.int v0)] [(.int (65 : Int32)), (.int v0)])) _
  by_cases hc : v0 < (65 : Int32)
  · rw [show (F2_0 v0) = (F2_12 v0) from if_pos hc] at hr
    refine XS.icmpYes X.here hx rfl (pc0 := 3) (pc' := 12) rfl (hb hby d2_3) rfl (tlt hc).1 (by decide) (by decide) ?_
    exact b2_12 X hx hZ hw hby hown v0 hret hr
  · rw [show (F2_0 v0) = (F2_6 v0) from if_neg hc] at hr
    refine XS.icmpNo X.here hx rfl (hb hby d2_3) rfl (flt hc).1 ?_
    exact b2_6 X hx hZ hw hby hown v0 hret hr
theorem pn_2 : plainName "shapewright/NameCharacters" = true := by first | (simp [plainName, overriddenIn]; done) | decide +kernel
theorem ef_2 (m : MethodId) (p0 : Int32) : entryFrame m #[(.int p0)] 1 = mkF m 0 #[.val (.int p0)] [] := by first | (simp [entryFrame, mkF, argsToLocals, Value.category]; done) | rfl
def Q_rm2 (Z : State) (p0 : Int32) (h0 : Heap) (n0 : Nat) (v : Option Value) (h : Heap) (L : List Loc) : Prop := (v = some (.int (F2_0 p0)) ∧ Fr n0 L ∧ h = h0)
set_option maxRecDepth 65536 in
set_option maxHeartbeats 40000000 in
theorem rm2 (l : Launch) (Z : State) (a0 : Array Value) (hw : ∀ d ∈ tables_1, d.before a0 Z = true) (ws : List Jvm.Cond) (p0 : Int32) (h0 : Heap) (n0 : Nat) (Z0 : n0 ≤ h0.size) :
    MetFree l (⟨"shapewright/NameCharacters", "isBase", "(I)Z"⟩ : MethodName) (head1 (Jvm.Cond.code (⟨"shapewright/NameCharacters", "isBase", "(I)Z"⟩ : MethodName) prog_5_method_2_code 1 (some .boolean) :: ws) ({ frames := 0, cells := 0, slots := 0, locals := 0 } : Room)) (fun a U => a = #[(.int p0)] ∧ Z.Warmed39 U.vm ∧ U.heap = h0) (fun _ _ _ _ _ => True) (fun _ U o U' => ∃ v L, o = .returned v ∧ Q_rm2 Z p0 h0 n0 v U'.heap L ∧ FrameEnd U o U' L ({ frames := 0, cells := 0, slots := 0, locals := 0 } : Room).cells ({ frames := 0, cells := 0, slots := 0, locals := 0 } : Room).slots) := by
  refine MetFree.of_bodySF (plainFor_of_name pn_2) hisR ?_
  intro p e s m args below meth c s₁ Bd hml0 hP hK
  obtain ⟨rfl, hZ, hh⟩ := hP
  have hx := Bd.exec
  have hby := Bd.bytes
  have hml : c.maxLocals = 1 := hml0
  have hown : s.vm.findClass "shapewright/NameCharacters" = some m.cls := findClass_of_methodNamed Bd.named
  have hnm := (name_of_methodNamed Bd.named Bd.method).1
  have X0 : Stand p l e ({ frames := 0, cells := 0, slots := 0, locals := 0 } : Room) s m #[(.int p0)] below meth c s₁ [] 0 0 := Stand.of_body Bd
  have e0 : s₁.heap = h0 := by rw [← hh, Bd.state]; rfl
  have N0 := Fr.nil n0
  have pre0 : ∀ t, Steps p.tables e below (s₁.setTop (mkF m 0 #[.val (.int p0)] [])) t → Steps p.tables e below (s₁.setTop (entryFrame m #[(.int p0)] 1)) t := fun t k => castTop (ef_2 m p0) k
  obtain ⟨fs, hr, hrun, hended, hW, hsame⟩ := X0.leave (v := some (.int (F2_0 p0))) (fun h => by rw [Bd.returns] at h; cases h)
  refine ⟨_, _, pre0 _ ?_, hrun, hended, _, _, rfl, ⟨rfl, N0, e0⟩, ⟨_, rfl⟩, hW, hsame.mono (by decide) (by decide)⟩
  exact b2_0 X0 hx hZ hw hby hown p0 Bd.returns hr
theorem d1_0 : decode prog_5_method_3_code 0 = .ok (.iload_n 0, 1) := by decide +kernel
theorem d1_1 : decode prog_5_method_3_code 1 = .ok (.invokestatic 14, 3) := by decide +kernel
theorem d1_4 : decode prog_5_method_3_code 4 = .ok (.ifCond .ne 62, 3) := by decide +kernel
theorem d1_7 : decode prog_5_method_3_code 7 = .ok (.iload_n 0, 1) := by decide +kernel
theorem d1_8 : decode prog_5_method_3_code 8 = .ok (.bipush 95, 2) := by decide +kernel
theorem d1_10 : decode prog_5_method_3_code 10 = .ok (.if_icmp .eq 56, 3) := by decide +kernel
theorem d1_13 : decode prog_5_method_3_code 13 = .ok (.iload_n 0, 1) := by decide +kernel
theorem d1_14 : decode prog_5_method_3_code 14 = .ok (.bipush 45, 2) := by decide +kernel
theorem d1_16 : decode prog_5_method_3_code 16 = .ok (.if_icmp .eq 50, 3) := by decide +kernel
theorem d1_19 : decode prog_5_method_3_code 19 = .ok (.iload_n 0, 1) := by decide +kernel
theorem d1_20 : decode prog_5_method_3_code 20 = .ok (.bipush 48, 2) := by decide +kernel
theorem d1_22 : decode prog_5_method_3_code 22 = .ok (.if_icmp .lt 9, 3) := by decide +kernel
theorem d1_25 : decode prog_5_method_3_code 25 = .ok (.iload_n 0, 1) := by decide +kernel
theorem d1_26 : decode prog_5_method_3_code 26 = .ok (.bipush 57, 2) := by decide +kernel
theorem d1_28 : decode prog_5_method_3_code 28 = .ok (.if_icmp .le 38, 3) := by decide +kernel
theorem d1_31 : decode prog_5_method_3_code 31 = .ok (.iload_n 0, 1) := by decide +kernel
theorem d1_32 : decode prog_5_method_3_code 32 = .ok (.sipush 183, 3) := by decide +kernel
theorem d1_35 : decode prog_5_method_3_code 35 = .ok (.if_icmp .eq 31, 3) := by decide +kernel
theorem d1_38 : decode prog_5_method_3_code 38 = .ok (.iload_n 0, 1) := by decide +kernel
theorem d1_39 : decode prog_5_method_3_code 39 = .ok (.sipush 768, 3) := by decide +kernel
theorem d1_42 : decode prog_5_method_3_code 42 = .ok (.if_icmp .lt 10, 3) := by decide +kernel
theorem d1_45 : decode prog_5_method_3_code 45 = .ok (.iload_n 0, 1) := by decide +kernel
theorem d1_46 : decode prog_5_method_3_code 46 = .ok (.sipush 879, 3) := by decide +kernel
theorem d1_49 : decode prog_5_method_3_code 49 = .ok (.if_icmp .le 17, 3) := by decide +kernel
theorem d1_52 : decode prog_5_method_3_code 52 = .ok (.iload_n 0, 1) := by decide +kernel
theorem d1_53 : decode prog_5_method_3_code 53 = .ok (.sipush 8255, 3) := by decide +kernel
theorem d1_56 : decode prog_5_method_3_code 56 = .ok (.if_icmp .lt 14, 3) := by decide +kernel
theorem d1_59 : decode prog_5_method_3_code 59 = .ok (.iload_n 0, 1) := by decide +kernel
theorem d1_60 : decode prog_5_method_3_code 60 = .ok (.sipush 8256, 3) := by decide +kernel
theorem d1_63 : decode prog_5_method_3_code 63 = .ok (.if_icmp .gt 7, 3) := by decide +kernel
theorem d1_66 : decode prog_5_method_3_code 66 = .ok (.iconst 1, 1) := by decide +kernel
theorem d1_67 : decode prog_5_method_3_code 67 = .ok (.goto 4, 3) := by decide +kernel
theorem d1_70 : decode prog_5_method_3_code 70 = .ok (.iconst 0, 1) := by decide +kernel
theorem d1_71 : decode prog_5_method_3_code 71 = .ok (.ireturn, 1) := by decide +kernel
def F1t_66 : Int32 := (1 : Int32)
theorem b1t_66 {p : Program} {l : Launch} {e : Env} {R : Room} {s : State} {m : MethodId} {args : Array Value} {below : List Frame} {meth : Method} {c : Code} {T : State} {locs : List Loc} {cells slots : Nat} {Z : State} {a0 : Array Value} (X : Stand p l e R s m args below meth c T locs cells slots) (hx : p.tables.exec = Jvm.exec) (hZ : Z.Warmed39 s.vm) (hw : ∀ d ∈ tables_1, d.before a0 Z = true) (hby : c.code = prog_5_method_3_code) (hown : s.vm.findClass "shapewright/NameCharacters" = some m.cls) (v0 : Int32) (hret : meth.sig.returnType = some .boolean) {fs : List Frame} (hr : ∀ (f : JFrame) (acts : List Action), f.method = m → f.locked = none → f.entered = [] → (doReturn e (T.setTop f) acts (some (.int F1t_66))).1 = T.setFrames fs) : Steps p.tables e below (T.setTop (mkF m 66 #[.val (.int v0)] [])) (T.setFrames fs) := by
  show Steps p.tables e below (T.setTop (mkF m 66 #[.val (.int v0)] [])) _
  refine XS.iconst X.here hx rfl (hb hby d1_66) ?_
  show Steps p.tables e below (T.setTop (mkF m 67 #[.val (.int v0)] [(.int (1 : Int32))])) _
  refine XS.goto X.here hx rfl (pc0 := 67) (pc' := 71) rfl (hb hby d1_67) (by decide) (by decide) ?_
  show Steps p.tables e below (T.setTop (mkF m 71 #[.val (.int v0)] [(.int (1 : Int32))])) _
  rw [show F1t_66 = nar .boolean (1 : Int32) from rfl] at hr
  exact retN X hx (t := .boolean) hret (by simp) (hb hby d1_71) hr
def F1t_70 : Int32 := (0 : Int32)
theorem b1t_70 {p : Program} {l : Launch} {e : Env} {R : Room} {s : State} {m : MethodId} {args : Array Value} {below : List Frame} {meth : Method} {c : Code} {T : State} {locs : List Loc} {cells slots : Nat} {Z : State} {a0 : Array Value} (X : Stand p l e R s m args below meth c T locs cells slots) (hx : p.tables.exec = Jvm.exec) (hZ : Z.Warmed39 s.vm) (hw : ∀ d ∈ tables_1, d.before a0 Z = true) (hby : c.code = prog_5_method_3_code) (hown : s.vm.findClass "shapewright/NameCharacters" = some m.cls) (v0 : Int32) (hret : meth.sig.returnType = some .boolean) {fs : List Frame} (hr : ∀ (f : JFrame) (acts : List Action), f.method = m → f.locked = none → f.entered = [] → (doReturn e (T.setTop f) acts (some (.int F1t_70))).1 = T.setFrames fs) : Steps p.tables e below (T.setTop (mkF m 70 #[.val (.int v0)] [])) (T.setFrames fs) := by
  show Steps p.tables e below (T.setTop (mkF m 70 #[.val (.int v0)] [])) _
  refine XS.iconst X.here hx rfl (hb hby d1_70) ?_
  show Steps p.tables e below (T.setTop (mkF m 71 #[.val (.int v0)] [(.int (0 : Int32))])) _
  rw [show F1t_70 = nar .boolean (0 : Int32) from rfl] at hr
  exact retN X hx (t := .boolean) hret (by simp) (hb hby d1_71) hr
def F1t_59 (v0 : Int32) : Int32 := if (8256 : Int32) < v0 then F1t_70 else F1t_66
theorem b1t_59 {p : Program} {l : Launch} {e : Env} {R : Room} {s : State} {m : MethodId} {args : Array Value} {below : List Frame} {meth : Method} {c : Code} {T : State} {locs : List Loc} {cells slots : Nat} {Z : State} {a0 : Array Value} (X : Stand p l e R s m args below meth c T locs cells slots) (hx : p.tables.exec = Jvm.exec) (hZ : Z.Warmed39 s.vm) (hw : ∀ d ∈ tables_1, d.before a0 Z = true) (hby : c.code = prog_5_method_3_code) (hown : s.vm.findClass "shapewright/NameCharacters" = some m.cls) (v0 : Int32) (hret : meth.sig.returnType = some .boolean) {fs : List Frame} (hr : ∀ (f : JFrame) (acts : List Action), f.method = m → f.locked = none → f.entered = [] → (doReturn e (T.setTop f) acts (some (.int (F1t_59 v0)))).1 = T.setFrames fs) : Steps p.tables e below (T.setTop (mkF m 59 #[.val (.int v0)] [])) (T.setFrames fs) := by
  show Steps p.tables e below (T.setTop (mkF m 59 #[.val (.int v0)] [])) _
  refine XS.iloadN X.here hx rfl (hb hby d1_59) rfl ?_
  show Steps p.tables e below (T.setTop (mkF m 60 #[.val (.int v0)] [(.int v0)])) _
  refine XS.sipush X.here hx rfl (hb hby d1_60) ?_
  show Steps p.tables e below (T.setTop (mkF m 63 #[.val (.int v0)] [(.int (8256 : Int32)), (.int v0)])) _
  by_cases hc : (8256 : Int32) < v0
  · rw [show (F1t_59 v0) = F1t_70 from if_pos hc] at hr
    refine XS.icmpYes X.here hx rfl (pc0 := 63) (pc' := 70) rfl (hb hby d1_63) rfl (tlt hc).2.2.1 (by decide) (by decide) ?_
    exact b1t_70 X hx hZ hw hby hown v0 hret hr
  · rw [show (F1t_59 v0) = F1t_66 from if_neg hc] at hr
    refine XS.icmpNo X.here hx rfl (hb hby d1_63) rfl (flt hc).2.2.1 ?_
    exact b1t_66 X hx hZ hw hby hown v0 hret hr
def F1t_52 (v0 : Int32) : Int32 := if v0 < (8255 : Int32) then F1t_70 else (F1t_59 v0)
theorem b1t_52 {p : Program} {l : Launch} {e : Env} {R : Room} {s : State} {m : MethodId} {args : Array Value} {below : List Frame} {meth : Method} {c : Code} {T : State} {locs : List Loc} {cells slots : Nat} {Z : State} {a0 : Array Value} (X : Stand p l e R s m args below meth c T locs cells slots) (hx : p.tables.exec = Jvm.exec) (hZ : Z.Warmed39 s.vm) (hw : ∀ d ∈ tables_1, d.before a0 Z = true) (hby : c.code = prog_5_method_3_code) (hown : s.vm.findClass "shapewright/NameCharacters" = some m.cls) (v0 : Int32) (hret : meth.sig.returnType = some .boolean) {fs : List Frame} (hr : ∀ (f : JFrame) (acts : List Action), f.method = m → f.locked = none → f.entered = [] → (doReturn e (T.setTop f) acts (some (.int (F1t_52 v0)))).1 = T.setFrames fs) : Steps p.tables e below (T.setTop (mkF m 52 #[.val (.int v0)] [])) (T.setFrames fs) := by
  show Steps p.tables e below (T.setTop (mkF m 52 #[.val (.int v0)] [])) _
  refine XS.iloadN X.here hx rfl (hb hby d1_52) rfl ?_
  show Steps p.tables e below (T.setTop (mkF m 53 #[.val (.int v0)] [(.int v0)])) _
  refine XS.sipush X.here hx rfl (hb hby d1_53) ?_
  show Steps p.tables e below (T.setTop (mkF m 56 #[.val (.int v0)] [(.int (8255 : Int32)), (.int v0)])) _
  by_cases hc : v0 < (8255 : Int32)
  · rw [show (F1t_52 v0) = F1t_70 from if_pos hc] at hr
    refine XS.icmpYes X.here hx rfl (pc0 := 56) (pc' := 70) rfl (hb hby d1_56) rfl (tlt hc).1 (by decide) (by decide) ?_
    exact b1t_70 X hx hZ hw hby hown v0 hret hr
  · rw [show (F1t_52 v0) = (F1t_59 v0) from if_neg hc] at hr
    refine XS.icmpNo X.here hx rfl (hb hby d1_56) rfl (flt hc).1 ?_
    exact b1t_59 X hx hZ hw hby hown v0 hret hr
def F1t_45 (v0 : Int32) : Int32 := if (879 : Int32) < v0 then (F1t_52 v0) else F1t_66
theorem b1t_45 {p : Program} {l : Launch} {e : Env} {R : Room} {s : State} {m : MethodId} {args : Array Value} {below : List Frame} {meth : Method} {c : Code} {T : State} {locs : List Loc} {cells slots : Nat} {Z : State} {a0 : Array Value} (X : Stand p l e R s m args below meth c T locs cells slots) (hx : p.tables.exec = Jvm.exec) (hZ : Z.Warmed39 s.vm) (hw : ∀ d ∈ tables_1, d.before a0 Z = true) (hby : c.code = prog_5_method_3_code) (hown : s.vm.findClass "shapewright/NameCharacters" = some m.cls) (v0 : Int32) (hret : meth.sig.returnType = some .boolean) {fs : List Frame} (hr : ∀ (f : JFrame) (acts : List Action), f.method = m → f.locked = none → f.entered = [] → (doReturn e (T.setTop f) acts (some (.int (F1t_45 v0)))).1 = T.setFrames fs) : Steps p.tables e below (T.setTop (mkF m 45 #[.val (.int v0)] [])) (T.setFrames fs) := by
  show Steps p.tables e below (T.setTop (mkF m 45 #[.val (.int v0)] [])) _
  refine XS.iloadN X.here hx rfl (hb hby d1_45) rfl ?_
  show Steps p.tables e below (T.setTop (mkF m 46 #[.val (.int v0)] [(.int v0)])) _
  refine XS.sipush X.here hx rfl (hb hby d1_46) ?_
  show Steps p.tables e below (T.setTop (mkF m 49 #[.val (.int v0)] [(.int (879 : Int32)), (.int v0)])) _
  by_cases hc : (879 : Int32) < v0
  · rw [show (F1t_45 v0) = (F1t_52 v0) from if_pos hc] at hr
    refine XS.icmpNo X.here hx rfl (hb hby d1_49) rfl (tlt hc).2.2.2 ?_
    exact b1t_52 X hx hZ hw hby hown v0 hret hr
  · rw [show (F1t_45 v0) = F1t_66 from if_neg hc] at hr
    refine XS.icmpYes X.here hx rfl (pc0 := 49) (pc' := 66) rfl (hb hby d1_49) rfl (flt hc).2.2.2 (by decide) (by decide) ?_
    exact b1t_66 X hx hZ hw hby hown v0 hret hr
def F1t_38 (v0 : Int32) : Int32 := if v0 < (768 : Int32) then (F1t_52 v0) else (F1t_45 v0)
theorem b1t_38 {p : Program} {l : Launch} {e : Env} {R : Room} {s : State} {m : MethodId} {args : Array Value} {below : List Frame} {meth : Method} {c : Code} {T : State} {locs : List Loc} {cells slots : Nat} {Z : State} {a0 : Array Value} (X : Stand p l e R s m args below meth c T locs cells slots) (hx : p.tables.exec = Jvm.exec) (hZ : Z.Warmed39 s.vm) (hw : ∀ d ∈ tables_1, d.before a0 Z = true) (hby : c.code = prog_5_method_3_code) (hown : s.vm.findClass "shapewright/NameCharacters" = some m.cls) (v0 : Int32) (hret : meth.sig.returnType = some .boolean) {fs : List Frame} (hr : ∀ (f : JFrame) (acts : List Action), f.method = m → f.locked = none → f.entered = [] → (doReturn e (T.setTop f) acts (some (.int (F1t_38 v0)))).1 = T.setFrames fs) : Steps p.tables e below (T.setTop (mkF m 38 #[.val (.int v0)] [])) (T.setFrames fs) := by
  show Steps p.tables e below (T.setTop (mkF m 38 #[.val (.int v0)] [])) _
  refine XS.iloadN X.here hx rfl (hb hby d1_38) rfl ?_
  show Steps p.tables e below (T.setTop (mkF m 39 #[.val (.int v0)] [(.int v0)])) _
  refine XS.sipush X.here hx rfl (hb hby d1_39) ?_
  show Steps p.tables e below (T.setTop (mkF m 42 #[.val (.int v0)] [(.int (768 : Int32)), (.int v0)])) _
  by_cases hc : v0 < (768 : Int32)
  · rw [show (F1t_38 v0) = (F1t_52 v0) from if_pos hc] at hr
    refine XS.icmpYes X.here hx rfl (pc0 := 42) (pc' := 52) rfl (hb hby d1_42) rfl (tlt hc).1 (by decide) (by decide) ?_
    exact b1t_52 X hx hZ hw hby hown v0 hret hr
  · rw [show (F1t_38 v0) = (F1t_45 v0) from if_neg hc] at hr
    refine XS.icmpNo X.here hx rfl (hb hby d1_42) rfl (flt hc).1 ?_
    exact b1t_45 X hx hZ hw hby hown v0 hret hr
def F1t_31 (v0 : Int32) : Int32 := if v0 = (183 : Int32) then F1t_66 else (F1t_38 v0)
theorem b1t_31 {p : Program} {l : Launch} {e : Env} {R : Room} {s : State} {m : MethodId} {args : Array Value} {below : List Frame} {meth : Method} {c : Code} {T : State} {locs : List Loc} {cells slots : Nat} {Z : State} {a0 : Array Value} (X : Stand p l e R s m args below meth c T locs cells slots) (hx : p.tables.exec = Jvm.exec) (hZ : Z.Warmed39 s.vm) (hw : ∀ d ∈ tables_1, d.before a0 Z = true) (hby : c.code = prog_5_method_3_code) (hown : s.vm.findClass "shapewright/NameCharacters" = some m.cls) (v0 : Int32) (hret : meth.sig.returnType = some .boolean) {fs : List Frame} (hr : ∀ (f : JFrame) (acts : List Action), f.method = m → f.locked = none → f.entered = [] → (doReturn e (T.setTop f) acts (some (.int (F1t_31 v0)))).1 = T.setFrames fs) : Steps p.tables e below (T.setTop (mkF m 31 #[.val (.int v0)] [])) (T.setFrames fs) := by
  show Steps p.tables e below (T.setTop (mkF m 31 #[.val (.int v0)] [])) _
  refine XS.iloadN X.here hx rfl (hb hby d1_31) rfl ?_
  show Steps p.tables e below (T.setTop (mkF m 32 #[.val (.int v0)] [(.int v0)])) _
  refine XS.sipush X.here hx rfl (hb hby d1_32) ?_
  show Steps p.tables e below (T.setTop (mkF m 35 #[.val (.int v0)] [(.int (183 : Int32)), (.int v0)])) _
  by_cases hc : v0 = (183 : Int32)
  · rw [show (F1t_31 v0) = F1t_66 from if_pos hc] at hr
    refine XS.icmpYes X.here hx rfl (pc0 := 35) (pc' := 66) rfl (hb hby d1_35) rfl (teq hc).1 (by decide) (by decide) ?_
    exact b1t_66 X hx hZ hw hby hown v0 hret hr
  · rw [show (F1t_31 v0) = (F1t_38 v0) from if_neg hc] at hr
    refine XS.icmpNo X.here hx rfl (hb hby d1_35) rfl (feq hc).1 ?_
    exact b1t_38 X hx hZ hw hby hown v0 hret hr
def F1t_25 (v0 : Int32) : Int32 := if (57 : Int32) < v0 then (F1t_31 v0) else F1t_66
theorem b1t_25 {p : Program} {l : Launch} {e : Env} {R : Room} {s : State} {m : MethodId} {args : Array Value} {below : List Frame} {meth : Method} {c : Code} {T : State} {locs : List Loc} {cells slots : Nat} {Z : State} {a0 : Array Value} (X : Stand p l e R s m args below meth c T locs cells slots) (hx : p.tables.exec = Jvm.exec) (hZ : Z.Warmed39 s.vm) (hw : ∀ d ∈ tables_1, d.before a0 Z = true) (hby : c.code = prog_5_method_3_code) (hown : s.vm.findClass "shapewright/NameCharacters" = some m.cls) (v0 : Int32) (hret : meth.sig.returnType = some .boolean) {fs : List Frame} (hr : ∀ (f : JFrame) (acts : List Action), f.method = m → f.locked = none → f.entered = [] → (doReturn e (T.setTop f) acts (some (.int (F1t_25 v0)))).1 = T.setFrames fs) : Steps p.tables e below (T.setTop (mkF m 25 #[.val (.int v0)] [])) (T.setFrames fs) := by
  show Steps p.tables e below (T.setTop (mkF m 25 #[.val (.int v0)] [])) _
  refine XS.iloadN X.here hx rfl (hb hby d1_25) rfl ?_
  show Steps p.tables e below (T.setTop (mkF m 26 #[.val (.int v0)] [(.int v0)])) _
  refine XS.bipush X.here hx rfl (hb hby d1_26) ?_
  show Steps p.tables e below (T.setTop (mkF m 28 #[.val (.int v0)] [(.int (57 : Int32)), (.int v0)])) _
  by_cases hc : (57 : Int32) < v0
  · rw [show (F1t_25 v0) = (F1t_31 v0) from if_pos hc] at hr
    refine XS.icmpNo X.here hx rfl (hb hby d1_28) rfl (tlt hc).2.2.2 ?_
    exact b1t_31 X hx hZ hw hby hown v0 hret hr
  · rw [show (F1t_25 v0) = F1t_66 from if_neg hc] at hr
    refine XS.icmpYes X.here hx rfl (pc0 := 28) (pc' := 66) rfl (hb hby d1_28) rfl (flt hc).2.2.2 (by decide) (by decide) ?_
    exact b1t_66 X hx hZ hw hby hown v0 hret hr
def F1t_19 (v0 : Int32) : Int32 := if v0 < (48 : Int32) then (F1t_31 v0) else (F1t_25 v0)
theorem b1t_19 {p : Program} {l : Launch} {e : Env} {R : Room} {s : State} {m : MethodId} {args : Array Value} {below : List Frame} {meth : Method} {c : Code} {T : State} {locs : List Loc} {cells slots : Nat} {Z : State} {a0 : Array Value} (X : Stand p l e R s m args below meth c T locs cells slots) (hx : p.tables.exec = Jvm.exec) (hZ : Z.Warmed39 s.vm) (hw : ∀ d ∈ tables_1, d.before a0 Z = true) (hby : c.code = prog_5_method_3_code) (hown : s.vm.findClass "shapewright/NameCharacters" = some m.cls) (v0 : Int32) (hret : meth.sig.returnType = some .boolean) {fs : List Frame} (hr : ∀ (f : JFrame) (acts : List Action), f.method = m → f.locked = none → f.entered = [] → (doReturn e (T.setTop f) acts (some (.int (F1t_19 v0)))).1 = T.setFrames fs) : Steps p.tables e below (T.setTop (mkF m 19 #[.val (.int v0)] [])) (T.setFrames fs) := by
  show Steps p.tables e below (T.setTop (mkF m 19 #[.val (.int v0)] [])) _
  refine XS.iloadN X.here hx rfl (hb hby d1_19) rfl ?_
  show Steps p.tables e below (T.setTop (mkF m 20 #[.val (.int v0)] [(.int v0)])) _
  refine XS.bipush X.here hx rfl (hb hby d1_20) ?_
  show Steps p.tables e below (T.setTop (mkF m 22 #[.val (.int v0)] [(.int (48 : Int32)), (.int v0)])) _
  by_cases hc : v0 < (48 : Int32)
  · rw [show (F1t_19 v0) = (F1t_31 v0) from if_pos hc] at hr
    refine XS.icmpYes X.here hx rfl (pc0 := 22) (pc' := 31) rfl (hb hby d1_22) rfl (tlt hc).1 (by decide) (by decide) ?_
    exact b1t_31 X hx hZ hw hby hown v0 hret hr
  · rw [show (F1t_19 v0) = (F1t_25 v0) from if_neg hc] at hr
    refine XS.icmpNo X.here hx rfl (hb hby d1_22) rfl (flt hc).1 ?_
    exact b1t_25 X hx hZ hw hby hown v0 hret hr
def F1t_13 (v0 : Int32) : Int32 := if v0 = (45 : Int32) then F1t_66 else (F1t_19 v0)
theorem b1t_13 {p : Program} {l : Launch} {e : Env} {R : Room} {s : State} {m : MethodId} {args : Array Value} {below : List Frame} {meth : Method} {c : Code} {T : State} {locs : List Loc} {cells slots : Nat} {Z : State} {a0 : Array Value} (X : Stand p l e R s m args below meth c T locs cells slots) (hx : p.tables.exec = Jvm.exec) (hZ : Z.Warmed39 s.vm) (hw : ∀ d ∈ tables_1, d.before a0 Z = true) (hby : c.code = prog_5_method_3_code) (hown : s.vm.findClass "shapewright/NameCharacters" = some m.cls) (v0 : Int32) (hret : meth.sig.returnType = some .boolean) {fs : List Frame} (hr : ∀ (f : JFrame) (acts : List Action), f.method = m → f.locked = none → f.entered = [] → (doReturn e (T.setTop f) acts (some (.int (F1t_13 v0)))).1 = T.setFrames fs) : Steps p.tables e below (T.setTop (mkF m 13 #[.val (.int v0)] [])) (T.setFrames fs) := by
  show Steps p.tables e below (T.setTop (mkF m 13 #[.val (.int v0)] [])) _
  refine XS.iloadN X.here hx rfl (hb hby d1_13) rfl ?_
  show Steps p.tables e below (T.setTop (mkF m 14 #[.val (.int v0)] [(.int v0)])) _
  refine XS.bipush X.here hx rfl (hb hby d1_14) ?_
  show Steps p.tables e below (T.setTop (mkF m 16 #[.val (.int v0)] [(.int (45 : Int32)), (.int v0)])) _
  by_cases hc : v0 = (45 : Int32)
  · rw [show (F1t_13 v0) = F1t_66 from if_pos hc] at hr
    refine XS.icmpYes X.here hx rfl (pc0 := 16) (pc' := 66) rfl (hb hby d1_16) rfl (teq hc).1 (by decide) (by decide) ?_
    exact b1t_66 X hx hZ hw hby hown v0 hret hr
  · rw [show (F1t_13 v0) = (F1t_19 v0) from if_neg hc] at hr
    refine XS.icmpNo X.here hx rfl (hb hby d1_16) rfl (feq hc).1 ?_
    exact b1t_19 X hx hZ hw hby hown v0 hret hr
def F1t_7 (v0 : Int32) : Int32 := if v0 = (95 : Int32) then F1t_66 else (F1t_13 v0)
theorem b1t_7 {p : Program} {l : Launch} {e : Env} {R : Room} {s : State} {m : MethodId} {args : Array Value} {below : List Frame} {meth : Method} {c : Code} {T : State} {locs : List Loc} {cells slots : Nat} {Z : State} {a0 : Array Value} (X : Stand p l e R s m args below meth c T locs cells slots) (hx : p.tables.exec = Jvm.exec) (hZ : Z.Warmed39 s.vm) (hw : ∀ d ∈ tables_1, d.before a0 Z = true) (hby : c.code = prog_5_method_3_code) (hown : s.vm.findClass "shapewright/NameCharacters" = some m.cls) (v0 : Int32) (hret : meth.sig.returnType = some .boolean) {fs : List Frame} (hr : ∀ (f : JFrame) (acts : List Action), f.method = m → f.locked = none → f.entered = [] → (doReturn e (T.setTop f) acts (some (.int (F1t_7 v0)))).1 = T.setFrames fs) : Steps p.tables e below (T.setTop (mkF m 7 #[.val (.int v0)] [])) (T.setFrames fs) := by
  show Steps p.tables e below (T.setTop (mkF m 7 #[.val (.int v0)] [])) _
  refine XS.iloadN X.here hx rfl (hb hby d1_7) rfl ?_
  show Steps p.tables e below (T.setTop (mkF m 8 #[.val (.int v0)] [(.int v0)])) _
  refine XS.bipush X.here hx rfl (hb hby d1_8) ?_
  show Steps p.tables e below (T.setTop (mkF m 10 #[.val (.int v0)] [(.int (95 : Int32)), (.int v0)])) _
  by_cases hc : v0 = (95 : Int32)
  · rw [show (F1t_7 v0) = F1t_66 from if_pos hc] at hr
    refine XS.icmpYes X.here hx rfl (pc0 := 10) (pc' := 66) rfl (hb hby d1_10) rfl (teq hc).1 (by decide) (by decide) ?_
    exact b1t_66 X hx hZ hw hby hown v0 hret hr
  · rw [show (F1t_7 v0) = (F1t_13 v0) from if_neg hc] at hr
    refine XS.icmpNo X.here hx rfl (hb hby d1_10) rfl (feq hc).1 ?_
    exact b1t_13 X hx hZ hw hby hown v0 hret hr
def F1t_4 (v0 : Int32) (s0 : Int32) : Int32 := if s0 = (0 : Int32) then (F1t_7 v0) else F1t_66
theorem b1t_4 {p : Program} {l : Launch} {e : Env} {R : Room} {s : State} {m : MethodId} {args : Array Value} {below : List Frame} {meth : Method} {c : Code} {T : State} {locs : List Loc} {cells slots : Nat} {Z : State} {a0 : Array Value} (X : Stand p l e R s m args below meth c T locs cells slots) (hx : p.tables.exec = Jvm.exec) (hZ : Z.Warmed39 s.vm) (hw : ∀ d ∈ tables_1, d.before a0 Z = true) (hby : c.code = prog_5_method_3_code) (hown : s.vm.findClass "shapewright/NameCharacters" = some m.cls) (v0 : Int32) (s0 : Int32) (hret : meth.sig.returnType = some .boolean) {fs : List Frame} (hr : ∀ (f : JFrame) (acts : List Action), f.method = m → f.locked = none → f.entered = [] → (doReturn e (T.setTop f) acts (some (.int (F1t_4 v0 s0)))).1 = T.setFrames fs) : Steps p.tables e below (T.setTop (mkF m 4 #[.val (.int v0)] [(.int s0)])) (T.setFrames fs) := by
  show Steps p.tables e below (T.setTop (mkF m 4 #[.val (.int v0)] [(.int s0)])) _
  by_cases hc : s0 = (0 : Int32)
  · rw [show (F1t_4 v0 s0) = (F1t_7 v0) from if_pos hc] at hr
    refine XS.ifNo X.here hx rfl (hb hby d1_4) rfl ((if0 _ _).trans (teq hc).2) ?_
    exact b1t_7 X hx hZ hw hby hown v0 hret hr
  · rw [show (F1t_4 v0 s0) = F1t_66 from if_neg hc] at hr
    refine XS.ifYes X.here hx rfl (pc0 := 4) (pc' := 66) rfl (hb hby d1_4) rfl ((if0 _ _).trans (feq hc).2) (by decide) (by decide) ?_
    exact b1t_66 X hx hZ hw hby hown v0 hret hr
def F1_0 (p0 : Int32) : Int32 := (F1t_4 p0 (F2_0 p0))
theorem pn_1 : plainName "shapewright/NameCharacters" = true := by first | (simp [plainName, overriddenIn]; done) | decide +kernel
theorem ef_1 (m : MethodId) (p0 : Int32) : entryFrame m #[(.int p0)] 1 = mkF m 0 #[.val (.int p0)] [] := by first | (simp [entryFrame, mkF, argsToLocals, Value.category]; done) | rfl
def Q_rm1 (Z : State) (p0 : Int32) (h0 : Heap) (n0 : Nat) (v : Option Value) (h : Heap) (L : List Loc) : Prop := (v = some (.int (F1_0 p0)) ∧ Fr n0 L ∧ h = h0)
set_option maxRecDepth 65536 in
set_option maxHeartbeats 40000000 in
theorem rm1 (l : Launch) (Z : State) (a0 : Array Value) (hw : ∀ d ∈ tables_1, d.before a0 Z = true) (ws : List Jvm.Cond) (p0 : Int32) (h0 : Heap) (n0 : Nat) (Z0 : n0 ≤ h0.size) :
    MetFree l (⟨"shapewright/NameCharacters", "isPart", "(I)Z"⟩ : MethodName) (head1 (Jvm.Cond.code (⟨"shapewright/NameCharacters", "isPart", "(I)Z"⟩ : MethodName) prog_5_method_3_code 1 (some .boolean) :: ws) ({ frames := 1, cells := 0, slots := 0, locals := 12 } : Room)) (fun a U => a = #[(.int p0)] ∧ Z.Warmed39 U.vm ∧ U.heap = h0) (fun _ _ _ _ _ => True) (fun _ U o U' => ∃ v L, o = .returned v ∧ Q_rm1 Z p0 h0 n0 v U'.heap L ∧ FrameEnd U o U' L ({ frames := 1, cells := 0, slots := 0, locals := 12 } : Room).cells ({ frames := 1, cells := 0, slots := 0, locals := 12 } : Room).slots) := by
  refine MetFree.of_bodySF (plainFor_of_name pn_1) hisR ?_
  intro p e s m args below meth c s₁ Bd hml0 hP hK
  obtain ⟨rfl, hZ, hh⟩ := hP
  have hx := Bd.exec
  have hby := Bd.bytes
  have hml : c.maxLocals = 1 := hml0
  have hown : s.vm.findClass "shapewright/NameCharacters" = some m.cls := findClass_of_methodNamed Bd.named
  have hnm := (name_of_methodNamed Bd.named Bd.method).1
  have X0 : Stand p l e ({ frames := 1, cells := 0, slots := 0, locals := 12 } : Room) s m #[(.int p0)] below meth c s₁ [] 0 0 := Stand.of_body Bd
  have e0 : s₁.heap = h0 := by rw [← hh, Bd.state]; rfl
  have N0 := Fr.nil n0
  have pre0 : ∀ t, Steps p.tables e below (s₁.setTop (mkF m 0 #[.val (.int p0)] [])) t → Steps p.tables e below (s₁.setTop (entryFrame m #[(.int p0)] 1)) t := fun t k => castTop (ef_1 m p0) k
  obtain ⟨_, _, ⟨T1, L1, k1, n1⟩, -, X1, ⟨Lc1, hQ1, l1, y1, z1⟩, st1⟩ := Jvm.LawKit.callS X0 hx (y := (⟨"shapewright/NameCharacters", "isBase", "(I)Z"⟩ : MethodName)) hown (mvT hZ (hw _ (List.mem_of_getElem? (i := 13) rfl))) (mvT hZ (hw _ (List.mem_of_getElem? (i := 14) rfl))) (mvT hZ (hw _ (List.mem_of_getElem? (i := 11) rfl))) (mvT hZ (hw _ (List.mem_of_getElem? (i := 15) rfl))) (by decide) (backOf (W := 0) (rm2 l Z a0 hw [] p0 h0 n0 Z0) hZ (hw _ (List.mem_of_getElem? (i := 15) rfl)) (hw _ (List.mem_of_getElem? (i := 11) rfl)) (by decide) (by decide)) (g := (mkF m 1 #[.val (.int p0)] [(.int p0)])) rfl (by rw [hml]; rfl) (argsL := [(.int p0)]) (rest := []) (lenOf pd0 rfl) rfl (by show 2 * 0 + _ ≤ _; exact Nat.le_of_eq rfl) (hb hby d1_1) (fun _ _ => ⟨rfl, e0, (by decide : 0 + 0 ≤ _), (by decide : 0 + 0 ≤ _)⟩)
  dsimp only [Pt.U, Pt.locs, Pt.cells, Pt.slots] at X1 l1 y1 z1 st1 hQ1
  subst l1 y1 z1
  obtain ⟨rfl, N1q, e1⟩ := hQ1
  have N1 := Fr.app N0 N1q
  obtain ⟨fs, hr, hrun, hended, hW, hsame⟩ := X1.leave (v := some (.int (F1t_4 p0 (F2_0 p0)))) (fun h => by rw [Bd.returns] at h; cases h)
  refine ⟨_, _, pre0 _ ?_, hrun, hended, _, _, rfl, ⟨rfl, N1, e1⟩, ⟨_, rfl⟩, hW, hsame.mono (by decide) (by decide)⟩
  show Steps p.tables e below (s₁.setTop (mkF m 0 #[.val (.int p0)] [])) _
  refine XS.iloadN X0.here hx rfl (hb hby d1_0) rfl ?_
  show Steps p.tables e below (s₁.setTop (mkF m 1 #[.val (.int p0)] [(.int p0)])) _
  refine st1 _ ?_
  show Steps p.tables e below (T1.setTop (mkF m 4 #[.val (.int p0)] [(.int (F2_0 p0))])) _
  exact b1t_4 X1 hx hZ hw hby hown p0 (F2_0 p0) Bd.returns hr
theorem d3_0 : decode method_3_code 0 = .ok (.iload_n 0, 1) := by decide +kernel
theorem d3_1 : decode method_3_code 1 = .ok (.bipush 45, 2) := by decide +kernel
theorem d3_3 : decode method_3_code 3 = .ok (.if_icmp .ge 5, 3) := by decide +kernel
theorem d3_6 : decode method_3_code 6 = .ok (.iconst 0, 1) := by decide +kernel
theorem d3_7 : decode method_3_code 7 = .ok (.ireturn, 1) := by decide +kernel
theorem d3_8 : decode method_3_code 8 = .ok (.iload_n 0, 1) := by decide +kernel
theorem d3_9 : decode method_3_code 9 = .ok (.bipush 45, 2) := by decide +kernel
theorem d3_11 : decode method_3_code 11 = .ok (.if_icmp .ne 5, 3) := by decide +kernel
theorem d3_14 : decode method_3_code 14 = .ok (.iconst 1, 1) := by decide +kernel
theorem d3_15 : decode method_3_code 15 = .ok (.ireturn, 1) := by decide +kernel
theorem d3_16 : decode method_3_code 16 = .ok (.iload_n 0, 1) := by decide +kernel
theorem d3_17 : decode method_3_code 17 = .ok (.bipush 48, 2) := by decide +kernel
theorem d3_19 : decode method_3_code 19 = .ok (.if_icmp .ge 5, 3) := by decide +kernel
theorem d3_22 : decode method_3_code 22 = .ok (.iconst 0, 1) := by decide +kernel
theorem d3_23 : decode method_3_code 23 = .ok (.ireturn, 1) := by decide +kernel
theorem d3_24 : decode method_3_code 24 = .ok (.iload_n 0, 1) := by decide +kernel
theorem d3_25 : decode method_3_code 25 = .ok (.bipush 57, 2) := by decide +kernel
theorem d3_27 : decode method_3_code 27 = .ok (.if_icmp .gt 5, 3) := by decide +kernel
theorem d3_30 : decode method_3_code 30 = .ok (.iconst 1, 1) := by decide +kernel
theorem d3_31 : decode method_3_code 31 = .ok (.ireturn, 1) := by decide +kernel
theorem d3_32 : decode method_3_code 32 = .ok (.iload_n 0, 1) := by decide +kernel
theorem d3_33 : decode method_3_code 33 = .ok (.bipush 65, 2) := by decide +kernel
theorem d3_35 : decode method_3_code 35 = .ok (.if_icmp .ge 5, 3) := by decide +kernel
theorem d3_38 : decode method_3_code 38 = .ok (.iconst 0, 1) := by decide +kernel
theorem d3_39 : decode method_3_code 39 = .ok (.ireturn, 1) := by decide +kernel
theorem d3_40 : decode method_3_code 40 = .ok (.iload_n 0, 1) := by decide +kernel
theorem d3_41 : decode method_3_code 41 = .ok (.bipush 90, 2) := by decide +kernel
theorem d3_43 : decode method_3_code 43 = .ok (.if_icmp .gt 5, 3) := by decide +kernel
theorem d3_46 : decode method_3_code 46 = .ok (.iconst 1, 1) := by decide +kernel
theorem d3_47 : decode method_3_code 47 = .ok (.ireturn, 1) := by decide +kernel
theorem d3_48 : decode method_3_code 48 = .ok (.iload_n 0, 1) := by decide +kernel
theorem d3_49 : decode method_3_code 49 = .ok (.bipush 95, 2) := by decide +kernel
theorem d3_51 : decode method_3_code 51 = .ok (.if_icmp .ne 5, 3) := by decide +kernel
theorem d3_54 : decode method_3_code 54 = .ok (.iconst 1, 1) := by decide +kernel
theorem d3_55 : decode method_3_code 55 = .ok (.ireturn, 1) := by decide +kernel
theorem d3_56 : decode method_3_code 56 = .ok (.iload_n 0, 1) := by decide +kernel
theorem d3_57 : decode method_3_code 57 = .ok (.bipush 97, 2) := by decide +kernel
theorem d3_59 : decode method_3_code 59 = .ok (.if_icmp .ge 5, 3) := by decide +kernel
theorem d3_62 : decode method_3_code 62 = .ok (.iconst 0, 1) := by decide +kernel
theorem d3_63 : decode method_3_code 63 = .ok (.ireturn, 1) := by decide +kernel
theorem d3_64 : decode method_3_code 64 = .ok (.iload_n 0, 1) := by decide +kernel
theorem d3_65 : decode method_3_code 65 = .ok (.bipush 122, 2) := by decide +kernel
theorem d3_67 : decode method_3_code 67 = .ok (.if_icmp .gt 5, 3) := by decide +kernel
theorem d3_70 : decode method_3_code 70 = .ok (.iconst 1, 1) := by decide +kernel
theorem d3_71 : decode method_3_code 71 = .ok (.ireturn, 1) := by decide +kernel
theorem d3_72 : decode method_3_code 72 = .ok (.iload_n 0, 1) := by decide +kernel
theorem d3_73 : decode method_3_code 73 = .ok (.sipush 183, 3) := by decide +kernel
theorem d3_76 : decode method_3_code 76 = .ok (.if_icmp .ge 5, 3) := by decide +kernel
theorem d3_79 : decode method_3_code 79 = .ok (.iconst 0, 1) := by decide +kernel
theorem d3_80 : decode method_3_code 80 = .ok (.ireturn, 1) := by decide +kernel
theorem d3_81 : decode method_3_code 81 = .ok (.iload_n 0, 1) := by decide +kernel
theorem d3_82 : decode method_3_code 82 = .ok (.sipush 183, 3) := by decide +kernel
theorem d3_85 : decode method_3_code 85 = .ok (.if_icmp .ne 5, 3) := by decide +kernel
theorem d3_88 : decode method_3_code 88 = .ok (.iconst 1, 1) := by decide +kernel
theorem d3_89 : decode method_3_code 89 = .ok (.ireturn, 1) := by decide +kernel
theorem d3_90 : decode method_3_code 90 = .ok (.iload_n 0, 1) := by decide +kernel
theorem d3_91 : decode method_3_code 91 = .ok (.sipush 192, 3) := by decide +kernel
theorem d3_94 : decode method_3_code 94 = .ok (.if_icmp .ge 5, 3) := by decide +kernel
theorem d3_97 : decode method_3_code 97 = .ok (.iconst 0, 1) := by decide +kernel
theorem d3_98 : decode method_3_code 98 = .ok (.ireturn, 1) := by decide +kernel
theorem d3_99 : decode method_3_code 99 = .ok (.iload_n 0, 1) := by decide +kernel
theorem d3_100 : decode method_3_code 100 = .ok (.sipush 214, 3) := by decide +kernel
theorem d3_103 : decode method_3_code 103 = .ok (.if_icmp .gt 5, 3) := by decide +kernel
theorem d3_106 : decode method_3_code 106 = .ok (.iconst 1, 1) := by decide +kernel
theorem d3_107 : decode method_3_code 107 = .ok (.ireturn, 1) := by decide +kernel
theorem d3_108 : decode method_3_code 108 = .ok (.iload_n 0, 1) := by decide +kernel
theorem d3_109 : decode method_3_code 109 = .ok (.sipush 215, 3) := by decide +kernel
theorem d3_112 : decode method_3_code 112 = .ok (.if_icmp .ne 5, 3) := by decide +kernel
theorem d3_115 : decode method_3_code 115 = .ok (.iconst 0, 1) := by decide +kernel
theorem d3_116 : decode method_3_code 116 = .ok (.ireturn, 1) := by decide +kernel
theorem d3_117 : decode method_3_code 117 = .ok (.iload_n 0, 1) := by decide +kernel
theorem d3_118 : decode method_3_code 118 = .ok (.sipush 246, 3) := by decide +kernel
theorem d3_121 : decode method_3_code 121 = .ok (.if_icmp .gt 5, 3) := by decide +kernel
theorem d3_124 : decode method_3_code 124 = .ok (.iconst 1, 1) := by decide +kernel
theorem d3_125 : decode method_3_code 125 = .ok (.ireturn, 1) := by decide +kernel
theorem d3_126 : decode method_3_code 126 = .ok (.iload_n 0, 1) := by decide +kernel
theorem d3_127 : decode method_3_code 127 = .ok (.sipush 247, 3) := by decide +kernel
theorem d3_130 : decode method_3_code 130 = .ok (.if_icmp .ne 5, 3) := by decide +kernel
theorem d3_133 : decode method_3_code 133 = .ok (.iconst 0, 1) := by decide +kernel
theorem d3_134 : decode method_3_code 134 = .ok (.ireturn, 1) := by decide +kernel
theorem d3_135 : decode method_3_code 135 = .ok (.iload_n 0, 1) := by decide +kernel
theorem d3_136 : decode method_3_code 136 = .ok (.sipush 893, 3) := by decide +kernel
theorem d3_139 : decode method_3_code 139 = .ok (.if_icmp .gt 5, 3) := by decide +kernel
theorem d3_142 : decode method_3_code 142 = .ok (.iconst 1, 1) := by decide +kernel
theorem d3_143 : decode method_3_code 143 = .ok (.ireturn, 1) := by decide +kernel
theorem d3_144 : decode method_3_code 144 = .ok (.iload_n 0, 1) := by decide +kernel
theorem d3_145 : decode method_3_code 145 = .ok (.sipush 894, 3) := by decide +kernel
theorem d3_148 : decode method_3_code 148 = .ok (.if_icmp .ne 5, 3) := by decide +kernel
theorem d3_151 : decode method_3_code 151 = .ok (.iconst 0, 1) := by decide +kernel
theorem d3_152 : decode method_3_code 152 = .ok (.ireturn, 1) := by decide +kernel
theorem d3_153 : decode method_3_code 153 = .ok (.iload_n 0, 1) := by decide +kernel
theorem d3_154 : decode method_3_code 154 = .ok (.sipush 8191, 3) := by decide +kernel
theorem d3_157 : decode method_3_code 157 = .ok (.if_icmp .gt 5, 3) := by decide +kernel
theorem d3_160 : decode method_3_code 160 = .ok (.iconst 1, 1) := by decide +kernel
theorem d3_161 : decode method_3_code 161 = .ok (.ireturn, 1) := by decide +kernel
theorem d3_162 : decode method_3_code 162 = .ok (.iload_n 0, 1) := by decide +kernel
theorem d3_163 : decode method_3_code 163 = .ok (.sipush 8204, 3) := by decide +kernel
theorem d3_166 : decode method_3_code 166 = .ok (.if_icmp .ge 5, 3) := by decide +kernel
theorem d3_169 : decode method_3_code 169 = .ok (.iconst 0, 1) := by decide +kernel
theorem d3_170 : decode method_3_code 170 = .ok (.ireturn, 1) := by decide +kernel
theorem d3_171 : decode method_3_code 171 = .ok (.iload_n 0, 1) := by decide +kernel
theorem d3_172 : decode method_3_code 172 = .ok (.sipush 8205, 3) := by decide +kernel
theorem d3_175 : decode method_3_code 175 = .ok (.if_icmp .gt 5, 3) := by decide +kernel
theorem d3_178 : decode method_3_code 178 = .ok (.iconst 1, 1) := by decide +kernel
theorem d3_179 : decode method_3_code 179 = .ok (.ireturn, 1) := by decide +kernel
theorem d3_180 : decode method_3_code 180 = .ok (.iload_n 0, 1) := by decide +kernel
theorem d3_181 : decode method_3_code 181 = .ok (.sipush 8255, 3) := by decide +kernel
theorem d3_184 : decode method_3_code 184 = .ok (.if_icmp .ge 5, 3) := by decide +kernel
theorem d3_187 : decode method_3_code 187 = .ok (.iconst 0, 1) := by decide +kernel
theorem d3_188 : decode method_3_code 188 = .ok (.ireturn, 1) := by decide +kernel
theorem d3_189 : decode method_3_code 189 = .ok (.iload_n 0, 1) := by decide +kernel
theorem d3_190 : decode method_3_code 190 = .ok (.sipush 8256, 3) := by decide +kernel
theorem d3_193 : decode method_3_code 193 = .ok (.if_icmp .gt 5, 3) := by decide +kernel
theorem d3_196 : decode method_3_code 196 = .ok (.iconst 1, 1) := by decide +kernel
theorem d3_197 : decode method_3_code 197 = .ok (.ireturn, 1) := by decide +kernel
theorem d3_198 : decode method_3_code 198 = .ok (.iload_n 0, 1) := by decide +kernel
theorem d3_199 : decode method_3_code 199 = .ok (.sipush 8304, 3) := by decide +kernel
theorem d3_202 : decode method_3_code 202 = .ok (.if_icmp .ge 5, 3) := by decide +kernel
theorem d3_205 : decode method_3_code 205 = .ok (.iconst 0, 1) := by decide +kernel
theorem d3_206 : decode method_3_code 206 = .ok (.ireturn, 1) := by decide +kernel
theorem d3_207 : decode method_3_code 207 = .ok (.iload_n 0, 1) := by decide +kernel
theorem d3_208 : decode method_3_code 208 = .ok (.sipush 8591, 3) := by decide +kernel
theorem d3_211 : decode method_3_code 211 = .ok (.if_icmp .gt 5, 3) := by decide +kernel
theorem d3_214 : decode method_3_code 214 = .ok (.iconst 1, 1) := by decide +kernel
theorem d3_215 : decode method_3_code 215 = .ok (.ireturn, 1) := by decide +kernel
theorem d3_216 : decode method_3_code 216 = .ok (.iload_n 0, 1) := by decide +kernel
theorem d3_217 : decode method_3_code 217 = .ok (.sipush 11264, 3) := by decide +kernel
theorem d3_220 : decode method_3_code 220 = .ok (.if_icmp .ge 5, 3) := by decide +kernel
theorem d3_223 : decode method_3_code 223 = .ok (.iconst 0, 1) := by decide +kernel
theorem d3_224 : decode method_3_code 224 = .ok (.ireturn, 1) := by decide +kernel
theorem d3_225 : decode method_3_code 225 = .ok (.iload_n 0, 1) := by decide +kernel
theorem d3_226 : decode method_3_code 226 = .ok (.sipush 12271, 3) := by decide +kernel
theorem d3_229 : decode method_3_code 229 = .ok (.if_icmp .gt 5, 3) := by decide +kernel
theorem d3_232 : decode method_3_code 232 = .ok (.iconst 1, 1) := by decide +kernel
theorem d3_233 : decode method_3_code 233 = .ok (.ireturn, 1) := by decide +kernel
theorem d3_234 : decode method_3_code 234 = .ok (.iload_n 0, 1) := by decide +kernel
theorem d3_235 : decode method_3_code 235 = .ok (.sipush 12289, 3) := by decide +kernel
theorem d3_238 : decode method_3_code 238 = .ok (.if_icmp .ge 5, 3) := by decide +kernel
theorem d3_241 : decode method_3_code 241 = .ok (.iconst 0, 1) := by decide +kernel
theorem d3_242 : decode method_3_code 242 = .ok (.ireturn, 1) := by decide +kernel
theorem d3_243 : decode method_3_code 243 = .ok (.iload_n 0, 1) := by decide +kernel
theorem d3_244 : decode method_3_code 244 = .ok (.ldc 7, 2) := by decide +kernel
theorem d3_246 : decode method_3_code 246 = .ok (.if_icmp .gt 5, 3) := by decide +kernel
theorem d3_249 : decode method_3_code 249 = .ok (.iconst 1, 1) := by decide +kernel
theorem d3_250 : decode method_3_code 250 = .ok (.ireturn, 1) := by decide +kernel
theorem d3_251 : decode method_3_code 251 = .ok (.iload_n 0, 1) := by decide +kernel
theorem d3_252 : decode method_3_code 252 = .ok (.ldc 8, 2) := by decide +kernel
theorem d3_254 : decode method_3_code 254 = .ok (.if_icmp .ge 5, 3) := by decide +kernel
theorem d3_257 : decode method_3_code 257 = .ok (.iconst 0, 1) := by decide +kernel
theorem d3_258 : decode method_3_code 258 = .ok (.ireturn, 1) := by decide +kernel
theorem d3_259 : decode method_3_code 259 = .ok (.iload_n 0, 1) := by decide +kernel
theorem d3_260 : decode method_3_code 260 = .ok (.ldc 9, 2) := by decide +kernel
theorem d3_262 : decode method_3_code 262 = .ok (.if_icmp .gt 5, 3) := by decide +kernel
theorem d3_265 : decode method_3_code 265 = .ok (.iconst 1, 1) := by decide +kernel
theorem d3_266 : decode method_3_code 266 = .ok (.ireturn, 1) := by decide +kernel
theorem d3_267 : decode method_3_code 267 = .ok (.iload_n 0, 1) := by decide +kernel
theorem d3_268 : decode method_3_code 268 = .ok (.ldc 10, 2) := by decide +kernel
theorem d3_270 : decode method_3_code 270 = .ok (.if_icmp .ge 5, 3) := by decide +kernel
theorem d3_273 : decode method_3_code 273 = .ok (.iconst 0, 1) := by decide +kernel
theorem d3_274 : decode method_3_code 274 = .ok (.ireturn, 1) := by decide +kernel
theorem d3_275 : decode method_3_code 275 = .ok (.iload_n 0, 1) := by decide +kernel
theorem d3_276 : decode method_3_code 276 = .ok (.ldc 11, 2) := by decide +kernel
theorem d3_278 : decode method_3_code 278 = .ok (.if_icmp .gt 5, 3) := by decide +kernel
theorem d3_281 : decode method_3_code 281 = .ok (.iconst 1, 1) := by decide +kernel
theorem d3_282 : decode method_3_code 282 = .ok (.ireturn, 1) := by decide +kernel
theorem d3_283 : decode method_3_code 283 = .ok (.iload_n 0, 1) := by decide +kernel
theorem d3_284 : decode method_3_code 284 = .ok (.ldc 12, 2) := by decide +kernel
theorem d3_286 : decode method_3_code 286 = .ok (.if_icmp .ge 5, 3) := by decide +kernel
theorem d3_289 : decode method_3_code 289 = .ok (.iconst 0, 1) := by decide +kernel
theorem d3_290 : decode method_3_code 290 = .ok (.ireturn, 1) := by decide +kernel
theorem d3_291 : decode method_3_code 291 = .ok (.iload_n 0, 1) := by decide +kernel
theorem d3_292 : decode method_3_code 292 = .ok (.ldc 13, 2) := by decide +kernel
theorem d3_294 : decode method_3_code 294 = .ok (.if_icmp .gt 7, 3) := by decide +kernel
theorem d3_297 : decode method_3_code 297 = .ok (.iconst 1, 1) := by decide +kernel
theorem d3_298 : decode method_3_code 298 = .ok (.goto 4, 3) := by decide +kernel
theorem d3_301 : decode method_3_code 301 = .ok (.iconst 0, 1) := by decide +kernel
theorem d3_302 : decode method_3_code 302 = .ok (.ireturn, 1) := by decide +kernel
def F3_301 : Int32 := (0 : Int32)
theorem b3_301 {p : Program} {l : Launch} {e : Env} {R : Room} {s : State} {m : MethodId} {args : Array Value} {below : List Frame} {meth : Method} {c : Code} {T : State} {locs : List Loc} {cells slots : Nat} {Z : State} {a0 : Array Value} (X : Stand p l e R s m args below meth c T locs cells slots) (hx : p.tables.exec = Jvm.exec) (hZ : Z.Warmed39 s.vm) (hw : ∀ d ∈ tables_1, d.before a0 Z = true) (hby : c.code = method_3_code) (hown : s.vm.findClass "shapewright/NameCharactersIsPartPinLaw" = some m.cls) (v0 : Int32) (hret : meth.sig.returnType = some .boolean) {fs : List Frame} (hr : ∀ (f : JFrame) (acts : List Action), f.method = m → f.locked = none → f.entered = [] → (doReturn e (T.setTop f) acts (some (.int F3_301))).1 = T.setFrames fs) : Steps p.tables e below (T.setTop (mkF m 301 #[.val (.int v0)] [])) (T.setFrames fs) := by
  show Steps p.tables e below (T.setTop (mkF m 301 #[.val (.int v0)] [])) _
  refine XS.iconst X.here hx rfl (hb hby d3_301) ?_
  show Steps p.tables e below (T.setTop (mkF m 302 #[.val (.int v0)] [(.int (0 : Int32))])) _
  rw [show F3_301 = nar .boolean (0 : Int32) from rfl] at hr
  exact retN X hx (t := .boolean) hret (by simp) (hb hby d3_302) hr
def F3_297 : Int32 := (1 : Int32)
theorem b3_297 {p : Program} {l : Launch} {e : Env} {R : Room} {s : State} {m : MethodId} {args : Array Value} {below : List Frame} {meth : Method} {c : Code} {T : State} {locs : List Loc} {cells slots : Nat} {Z : State} {a0 : Array Value} (X : Stand p l e R s m args below meth c T locs cells slots) (hx : p.tables.exec = Jvm.exec) (hZ : Z.Warmed39 s.vm) (hw : ∀ d ∈ tables_1, d.before a0 Z = true) (hby : c.code = method_3_code) (hown : s.vm.findClass "shapewright/NameCharactersIsPartPinLaw" = some m.cls) (v0 : Int32) (hret : meth.sig.returnType = some .boolean) {fs : List Frame} (hr : ∀ (f : JFrame) (acts : List Action), f.method = m → f.locked = none → f.entered = [] → (doReturn e (T.setTop f) acts (some (.int F3_297))).1 = T.setFrames fs) : Steps p.tables e below (T.setTop (mkF m 297 #[.val (.int v0)] [])) (T.setFrames fs) := by
  show Steps p.tables e below (T.setTop (mkF m 297 #[.val (.int v0)] [])) _
  refine XS.iconst X.here hx rfl (hb hby d3_297) ?_
  show Steps p.tables e below (T.setTop (mkF m 298 #[.val (.int v0)] [(.int (1 : Int32))])) _
  refine XS.goto X.here hx rfl (pc0 := 298) (pc' := 302) rfl (hb hby d3_298) (by decide) (by decide) ?_
  show Steps p.tables e below (T.setTop (mkF m 302 #[.val (.int v0)] [(.int (1 : Int32))])) _
  rw [show F3_297 = nar .boolean (1 : Int32) from rfl] at hr
  exact retN X hx (t := .boolean) hret (by simp) (hb hby d3_302) hr
def F3_291 (v0 : Int32) : Int32 := if (983039 : Int32) < v0 then F3_301 else F3_297
theorem b3_291 {p : Program} {l : Launch} {e : Env} {R : Room} {s : State} {m : MethodId} {args : Array Value} {below : List Frame} {meth : Method} {c : Code} {T : State} {locs : List Loc} {cells slots : Nat} {Z : State} {a0 : Array Value} (X : Stand p l e R s m args below meth c T locs cells slots) (hx : p.tables.exec = Jvm.exec) (hZ : Z.Warmed39 s.vm) (hw : ∀ d ∈ tables_1, d.before a0 Z = true) (hby : c.code = method_3_code) (hown : s.vm.findClass "shapewright/NameCharactersIsPartPinLaw" = some m.cls) (v0 : Int32) (hret : meth.sig.returnType = some .boolean) {fs : List Frame} (hr : ∀ (f : JFrame) (acts : List Action), f.method = m → f.locked = none → f.entered = [] → (doReturn e (T.setTop f) acts (some (.int (F3_291 v0)))).1 = T.setFrames fs) : Steps p.tables e below (T.setTop (mkF m 291 #[.val (.int v0)] [])) (T.setFrames fs) := by
  show Steps p.tables e below (T.setTop (mkF m 291 #[.val (.int v0)] [])) _
  refine XS.iloadN X.here hx rfl (hb hby d3_291) rfl ?_
  show Steps p.tables e below (T.setTop (mkF m 292 #[.val (.int v0)] [(.int v0)])) _
  refine X.ldcInt hx hown (mvT hZ (hw _ (List.mem_of_getElem? (i := 7) rfl))) (g := (mkF m 292 #[.val (.int v0)] [(.int v0)])) rfl (hb hby d3_292) _ ?_
  show Steps p.tables e below (T.setTop (mkF m 294 #[.val (.int v0)] [(.int (983039 : Int32)), (.int v0)])) _
  by_cases hc : (983039 : Int32) < v0
  · rw [show (F3_291 v0) = F3_301 from if_pos hc] at hr
    refine XS.icmpYes X.here hx rfl (pc0 := 294) (pc' := 301) rfl (hb hby d3_294) rfl (tlt hc).2.2.1 (by decide) (by decide) ?_
    exact b3_301 X hx hZ hw hby hown v0 hret hr
  · rw [show (F3_291 v0) = F3_297 from if_neg hc] at hr
    refine XS.icmpNo X.here hx rfl (hb hby d3_294) rfl (flt hc).2.2.1 ?_
    exact b3_297 X hx hZ hw hby hown v0 hret hr
def F3_289 : Int32 := (0 : Int32)
theorem b3_289 {p : Program} {l : Launch} {e : Env} {R : Room} {s : State} {m : MethodId} {args : Array Value} {below : List Frame} {meth : Method} {c : Code} {T : State} {locs : List Loc} {cells slots : Nat} {Z : State} {a0 : Array Value} (X : Stand p l e R s m args below meth c T locs cells slots) (hx : p.tables.exec = Jvm.exec) (hZ : Z.Warmed39 s.vm) (hw : ∀ d ∈ tables_1, d.before a0 Z = true) (hby : c.code = method_3_code) (hown : s.vm.findClass "shapewright/NameCharactersIsPartPinLaw" = some m.cls) (v0 : Int32) (hret : meth.sig.returnType = some .boolean) {fs : List Frame} (hr : ∀ (f : JFrame) (acts : List Action), f.method = m → f.locked = none → f.entered = [] → (doReturn e (T.setTop f) acts (some (.int F3_289))).1 = T.setFrames fs) : Steps p.tables e below (T.setTop (mkF m 289 #[.val (.int v0)] [])) (T.setFrames fs) := by
  show Steps p.tables e below (T.setTop (mkF m 289 #[.val (.int v0)] [])) _
  refine XS.iconst X.here hx rfl (hb hby d3_289) ?_
  show Steps p.tables e below (T.setTop (mkF m 290 #[.val (.int v0)] [(.int (0 : Int32))])) _
  rw [show F3_289 = nar .boolean (0 : Int32) from rfl] at hr
  exact retN X hx (t := .boolean) hret (by simp) (hb hby d3_290) hr
def F3_283 (v0 : Int32) : Int32 := if v0 < (65536 : Int32) then F3_289 else (F3_291 v0)
theorem b3_283 {p : Program} {l : Launch} {e : Env} {R : Room} {s : State} {m : MethodId} {args : Array Value} {below : List Frame} {meth : Method} {c : Code} {T : State} {locs : List Loc} {cells slots : Nat} {Z : State} {a0 : Array Value} (X : Stand p l e R s m args below meth c T locs cells slots) (hx : p.tables.exec = Jvm.exec) (hZ : Z.Warmed39 s.vm) (hw : ∀ d ∈ tables_1, d.before a0 Z = true) (hby : c.code = method_3_code) (hown : s.vm.findClass "shapewright/NameCharactersIsPartPinLaw" = some m.cls) (v0 : Int32) (hret : meth.sig.returnType = some .boolean) {fs : List Frame} (hr : ∀ (f : JFrame) (acts : List Action), f.method = m → f.locked = none → f.entered = [] → (doReturn e (T.setTop f) acts (some (.int (F3_283 v0)))).1 = T.setFrames fs) : Steps p.tables e below (T.setTop (mkF m 283 #[.val (.int v0)] [])) (T.setFrames fs) := by
  show Steps p.tables e below (T.setTop (mkF m 283 #[.val (.int v0)] [])) _
  refine XS.iloadN X.here hx rfl (hb hby d3_283) rfl ?_
  show Steps p.tables e below (T.setTop (mkF m 284 #[.val (.int v0)] [(.int v0)])) _
  refine X.ldcInt hx hown (mvT hZ (hw _ (List.mem_of_getElem? (i := 6) rfl))) (g := (mkF m 284 #[.val (.int v0)] [(.int v0)])) rfl (hb hby d3_284) _ ?_
  show Steps p.tables e below (T.setTop (mkF m 286 #[.val (.int v0)] [(.int (65536 : Int32)), (.int v0)])) _
  by_cases hc : v0 < (65536 : Int32)
  · rw [show (F3_283 v0) = F3_289 from if_pos hc] at hr
    refine XS.icmpNo X.here hx rfl (hb hby d3_286) rfl (tlt hc).2.1 ?_
    exact b3_289 X hx hZ hw hby hown v0 hret hr
  · rw [show (F3_283 v0) = (F3_291 v0) from if_neg hc] at hr
    refine XS.icmpYes X.here hx rfl (pc0 := 286) (pc' := 291) rfl (hb hby d3_286) rfl (flt hc).2.1 (by decide) (by decide) ?_
    exact b3_291 X hx hZ hw hby hown v0 hret hr
def F3_281 : Int32 := (1 : Int32)
theorem b3_281 {p : Program} {l : Launch} {e : Env} {R : Room} {s : State} {m : MethodId} {args : Array Value} {below : List Frame} {meth : Method} {c : Code} {T : State} {locs : List Loc} {cells slots : Nat} {Z : State} {a0 : Array Value} (X : Stand p l e R s m args below meth c T locs cells slots) (hx : p.tables.exec = Jvm.exec) (hZ : Z.Warmed39 s.vm) (hw : ∀ d ∈ tables_1, d.before a0 Z = true) (hby : c.code = method_3_code) (hown : s.vm.findClass "shapewright/NameCharactersIsPartPinLaw" = some m.cls) (v0 : Int32) (hret : meth.sig.returnType = some .boolean) {fs : List Frame} (hr : ∀ (f : JFrame) (acts : List Action), f.method = m → f.locked = none → f.entered = [] → (doReturn e (T.setTop f) acts (some (.int F3_281))).1 = T.setFrames fs) : Steps p.tables e below (T.setTop (mkF m 281 #[.val (.int v0)] [])) (T.setFrames fs) := by
  show Steps p.tables e below (T.setTop (mkF m 281 #[.val (.int v0)] [])) _
  refine XS.iconst X.here hx rfl (hb hby d3_281) ?_
  show Steps p.tables e below (T.setTop (mkF m 282 #[.val (.int v0)] [(.int (1 : Int32))])) _
  rw [show F3_281 = nar .boolean (1 : Int32) from rfl] at hr
  exact retN X hx (t := .boolean) hret (by simp) (hb hby d3_282) hr
def F3_275 (v0 : Int32) : Int32 := if (65533 : Int32) < v0 then (F3_283 v0) else F3_281
theorem b3_275 {p : Program} {l : Launch} {e : Env} {R : Room} {s : State} {m : MethodId} {args : Array Value} {below : List Frame} {meth : Method} {c : Code} {T : State} {locs : List Loc} {cells slots : Nat} {Z : State} {a0 : Array Value} (X : Stand p l e R s m args below meth c T locs cells slots) (hx : p.tables.exec = Jvm.exec) (hZ : Z.Warmed39 s.vm) (hw : ∀ d ∈ tables_1, d.before a0 Z = true) (hby : c.code = method_3_code) (hown : s.vm.findClass "shapewright/NameCharactersIsPartPinLaw" = some m.cls) (v0 : Int32) (hret : meth.sig.returnType = some .boolean) {fs : List Frame} (hr : ∀ (f : JFrame) (acts : List Action), f.method = m → f.locked = none → f.entered = [] → (doReturn e (T.setTop f) acts (some (.int (F3_275 v0)))).1 = T.setFrames fs) : Steps p.tables e below (T.setTop (mkF m 275 #[.val (.int v0)] [])) (T.setFrames fs) := by
  show Steps p.tables e below (T.setTop (mkF m 275 #[.val (.int v0)] [])) _
  refine XS.iloadN X.here hx rfl (hb hby d3_275) rfl ?_
  show Steps p.tables e below (T.setTop (mkF m 276 #[.val (.int v0)] [(.int v0)])) _
  refine X.ldcInt hx hown (mvT hZ (hw _ (List.mem_of_getElem? (i := 5) rfl))) (g := (mkF m 276 #[.val (.int v0)] [(.int v0)])) rfl (hb hby d3_276) _ ?_
  show Steps p.tables e below (T.setTop (mkF m 278 #[.val (.int v0)] [(.int (65533 : Int32)), (.int v0)])) _
  by_cases hc : (65533 : Int32) < v0
  · rw [show (F3_275 v0) = (F3_283 v0) from if_pos hc] at hr
    refine XS.icmpYes X.here hx rfl (pc0 := 278) (pc' := 283) rfl (hb hby d3_278) rfl (tlt hc).2.2.1 (by decide) (by decide) ?_
    exact b3_283 X hx hZ hw hby hown v0 hret hr
  · rw [show (F3_275 v0) = F3_281 from if_neg hc] at hr
    refine XS.icmpNo X.here hx rfl (hb hby d3_278) rfl (flt hc).2.2.1 ?_
    exact b3_281 X hx hZ hw hby hown v0 hret hr
def F3_273 : Int32 := (0 : Int32)
theorem b3_273 {p : Program} {l : Launch} {e : Env} {R : Room} {s : State} {m : MethodId} {args : Array Value} {below : List Frame} {meth : Method} {c : Code} {T : State} {locs : List Loc} {cells slots : Nat} {Z : State} {a0 : Array Value} (X : Stand p l e R s m args below meth c T locs cells slots) (hx : p.tables.exec = Jvm.exec) (hZ : Z.Warmed39 s.vm) (hw : ∀ d ∈ tables_1, d.before a0 Z = true) (hby : c.code = method_3_code) (hown : s.vm.findClass "shapewright/NameCharactersIsPartPinLaw" = some m.cls) (v0 : Int32) (hret : meth.sig.returnType = some .boolean) {fs : List Frame} (hr : ∀ (f : JFrame) (acts : List Action), f.method = m → f.locked = none → f.entered = [] → (doReturn e (T.setTop f) acts (some (.int F3_273))).1 = T.setFrames fs) : Steps p.tables e below (T.setTop (mkF m 273 #[.val (.int v0)] [])) (T.setFrames fs) := by
  show Steps p.tables e below (T.setTop (mkF m 273 #[.val (.int v0)] [])) _
  refine XS.iconst X.here hx rfl (hb hby d3_273) ?_
  show Steps p.tables e below (T.setTop (mkF m 274 #[.val (.int v0)] [(.int (0 : Int32))])) _
  rw [show F3_273 = nar .boolean (0 : Int32) from rfl] at hr
  exact retN X hx (t := .boolean) hret (by simp) (hb hby d3_274) hr
def F3_267 (v0 : Int32) : Int32 := if v0 < (65008 : Int32) then F3_273 else (F3_275 v0)
theorem b3_267 {p : Program} {l : Launch} {e : Env} {R : Room} {s : State} {m : MethodId} {args : Array Value} {below : List Frame} {meth : Method} {c : Code} {T : State} {locs : List Loc} {cells slots : Nat} {Z : State} {a0 : Array Value} (X : Stand p l e R s m args below meth c T locs cells slots) (hx : p.tables.exec = Jvm.exec) (hZ : Z.Warmed39 s.vm) (hw : ∀ d ∈ tables_1, d.before a0 Z = true) (hby : c.code = method_3_code) (hown : s.vm.findClass "shapewright/NameCharactersIsPartPinLaw" = some m.cls) (v0 : Int32) (hret : meth.sig.returnType = some .boolean) {fs : List Frame} (hr : ∀ (f : JFrame) (acts : List Action), f.method = m → f.locked = none → f.entered = [] → (doReturn e (T.setTop f) acts (some (.int (F3_267 v0)))).1 = T.setFrames fs) : Steps p.tables e below (T.setTop (mkF m 267 #[.val (.int v0)] [])) (T.setFrames fs) := by
  show Steps p.tables e below (T.setTop (mkF m 267 #[.val (.int v0)] [])) _
  refine XS.iloadN X.here hx rfl (hb hby d3_267) rfl ?_
  show Steps p.tables e below (T.setTop (mkF m 268 #[.val (.int v0)] [(.int v0)])) _
  refine X.ldcInt hx hown (mvT hZ (hw _ (List.mem_of_getElem? (i := 4) rfl))) (g := (mkF m 268 #[.val (.int v0)] [(.int v0)])) rfl (hb hby d3_268) _ ?_
  show Steps p.tables e below (T.setTop (mkF m 270 #[.val (.int v0)] [(.int (65008 : Int32)), (.int v0)])) _
  by_cases hc : v0 < (65008 : Int32)
  · rw [show (F3_267 v0) = F3_273 from if_pos hc] at hr
    refine XS.icmpNo X.here hx rfl (hb hby d3_270) rfl (tlt hc).2.1 ?_
    exact b3_273 X hx hZ hw hby hown v0 hret hr
  · rw [show (F3_267 v0) = (F3_275 v0) from if_neg hc] at hr
    refine XS.icmpYes X.here hx rfl (pc0 := 270) (pc' := 275) rfl (hb hby d3_270) rfl (flt hc).2.1 (by decide) (by decide) ?_
    exact b3_275 X hx hZ hw hby hown v0 hret hr
def F3_265 : Int32 := (1 : Int32)
theorem b3_265 {p : Program} {l : Launch} {e : Env} {R : Room} {s : State} {m : MethodId} {args : Array Value} {below : List Frame} {meth : Method} {c : Code} {T : State} {locs : List Loc} {cells slots : Nat} {Z : State} {a0 : Array Value} (X : Stand p l e R s m args below meth c T locs cells slots) (hx : p.tables.exec = Jvm.exec) (hZ : Z.Warmed39 s.vm) (hw : ∀ d ∈ tables_1, d.before a0 Z = true) (hby : c.code = method_3_code) (hown : s.vm.findClass "shapewright/NameCharactersIsPartPinLaw" = some m.cls) (v0 : Int32) (hret : meth.sig.returnType = some .boolean) {fs : List Frame} (hr : ∀ (f : JFrame) (acts : List Action), f.method = m → f.locked = none → f.entered = [] → (doReturn e (T.setTop f) acts (some (.int F3_265))).1 = T.setFrames fs) : Steps p.tables e below (T.setTop (mkF m 265 #[.val (.int v0)] [])) (T.setFrames fs) := by
  show Steps p.tables e below (T.setTop (mkF m 265 #[.val (.int v0)] [])) _
  refine XS.iconst X.here hx rfl (hb hby d3_265) ?_
  show Steps p.tables e below (T.setTop (mkF m 266 #[.val (.int v0)] [(.int (1 : Int32))])) _
  rw [show F3_265 = nar .boolean (1 : Int32) from rfl] at hr
  exact retN X hx (t := .boolean) hret (by simp) (hb hby d3_266) hr
def F3_259 (v0 : Int32) : Int32 := if (64975 : Int32) < v0 then (F3_267 v0) else F3_265
theorem b3_259 {p : Program} {l : Launch} {e : Env} {R : Room} {s : State} {m : MethodId} {args : Array Value} {below : List Frame} {meth : Method} {c : Code} {T : State} {locs : List Loc} {cells slots : Nat} {Z : State} {a0 : Array Value} (X : Stand p l e R s m args below meth c T locs cells slots) (hx : p.tables.exec = Jvm.exec) (hZ : Z.Warmed39 s.vm) (hw : ∀ d ∈ tables_1, d.before a0 Z = true) (hby : c.code = method_3_code) (hown : s.vm.findClass "shapewright/NameCharactersIsPartPinLaw" = some m.cls) (v0 : Int32) (hret : meth.sig.returnType = some .boolean) {fs : List Frame} (hr : ∀ (f : JFrame) (acts : List Action), f.method = m → f.locked = none → f.entered = [] → (doReturn e (T.setTop f) acts (some (.int (F3_259 v0)))).1 = T.setFrames fs) : Steps p.tables e below (T.setTop (mkF m 259 #[.val (.int v0)] [])) (T.setFrames fs) := by
  show Steps p.tables e below (T.setTop (mkF m 259 #[.val (.int v0)] [])) _
  refine XS.iloadN X.here hx rfl (hb hby d3_259) rfl ?_
  show Steps p.tables e below (T.setTop (mkF m 260 #[.val (.int v0)] [(.int v0)])) _
  refine X.ldcInt hx hown (mvT hZ (hw _ (List.mem_of_getElem? (i := 3) rfl))) (g := (mkF m 260 #[.val (.int v0)] [(.int v0)])) rfl (hb hby d3_260) _ ?_
  show Steps p.tables e below (T.setTop (mkF m 262 #[.val (.int v0)] [(.int (64975 : Int32)), (.int v0)])) _
  by_cases hc : (64975 : Int32) < v0
  · rw [show (F3_259 v0) = (F3_267 v0) from if_pos hc] at hr
    refine XS.icmpYes X.here hx rfl (pc0 := 262) (pc' := 267) rfl (hb hby d3_262) rfl (tlt hc).2.2.1 (by decide) (by decide) ?_
    exact b3_267 X hx hZ hw hby hown v0 hret hr
  · rw [show (F3_259 v0) = F3_265 from if_neg hc] at hr
    refine XS.icmpNo X.here hx rfl (hb hby d3_262) rfl (flt hc).2.2.1 ?_
    exact b3_265 X hx hZ hw hby hown v0 hret hr
def F3_257 : Int32 := (0 : Int32)
theorem b3_257 {p : Program} {l : Launch} {e : Env} {R : Room} {s : State} {m : MethodId} {args : Array Value} {below : List Frame} {meth : Method} {c : Code} {T : State} {locs : List Loc} {cells slots : Nat} {Z : State} {a0 : Array Value} (X : Stand p l e R s m args below meth c T locs cells slots) (hx : p.tables.exec = Jvm.exec) (hZ : Z.Warmed39 s.vm) (hw : ∀ d ∈ tables_1, d.before a0 Z = true) (hby : c.code = method_3_code) (hown : s.vm.findClass "shapewright/NameCharactersIsPartPinLaw" = some m.cls) (v0 : Int32) (hret : meth.sig.returnType = some .boolean) {fs : List Frame} (hr : ∀ (f : JFrame) (acts : List Action), f.method = m → f.locked = none → f.entered = [] → (doReturn e (T.setTop f) acts (some (.int F3_257))).1 = T.setFrames fs) : Steps p.tables e below (T.setTop (mkF m 257 #[.val (.int v0)] [])) (T.setFrames fs) := by
  show Steps p.tables e below (T.setTop (mkF m 257 #[.val (.int v0)] [])) _
  refine XS.iconst X.here hx rfl (hb hby d3_257) ?_
  show Steps p.tables e below (T.setTop (mkF m 258 #[.val (.int v0)] [(.int (0 : Int32))])) _
  rw [show F3_257 = nar .boolean (0 : Int32) from rfl] at hr
  exact retN X hx (t := .boolean) hret (by simp) (hb hby d3_258) hr
def F3_251 (v0 : Int32) : Int32 := if v0 < (63744 : Int32) then F3_257 else (F3_259 v0)
theorem b3_251 {p : Program} {l : Launch} {e : Env} {R : Room} {s : State} {m : MethodId} {args : Array Value} {below : List Frame} {meth : Method} {c : Code} {T : State} {locs : List Loc} {cells slots : Nat} {Z : State} {a0 : Array Value} (X : Stand p l e R s m args below meth c T locs cells slots) (hx : p.tables.exec = Jvm.exec) (hZ : Z.Warmed39 s.vm) (hw : ∀ d ∈ tables_1, d.before a0 Z = true) (hby : c.code = method_3_code) (hown : s.vm.findClass "shapewright/NameCharactersIsPartPinLaw" = some m.cls) (v0 : Int32) (hret : meth.sig.returnType = some .boolean) {fs : List Frame} (hr : ∀ (f : JFrame) (acts : List Action), f.method = m → f.locked = none → f.entered = [] → (doReturn e (T.setTop f) acts (some (.int (F3_251 v0)))).1 = T.setFrames fs) : Steps p.tables e below (T.setTop (mkF m 251 #[.val (.int v0)] [])) (T.setFrames fs) := by
  show Steps p.tables e below (T.setTop (mkF m 251 #[.val (.int v0)] [])) _
  refine XS.iloadN X.here hx rfl (hb hby d3_251) rfl ?_
  show Steps p.tables e below (T.setTop (mkF m 252 #[.val (.int v0)] [(.int v0)])) _
  refine X.ldcInt hx hown (mvT hZ (hw _ (List.mem_of_getElem? (i := 2) rfl))) (g := (mkF m 252 #[.val (.int v0)] [(.int v0)])) rfl (hb hby d3_252) _ ?_
  show Steps p.tables e below (T.setTop (mkF m 254 #[.val (.int v0)] [(.int (63744 : Int32)), (.int v0)])) _
  by_cases hc : v0 < (63744 : Int32)
  · rw [show (F3_251 v0) = F3_257 from if_pos hc] at hr
    refine XS.icmpNo X.here hx rfl (hb hby d3_254) rfl (tlt hc).2.1 ?_
    exact b3_257 X hx hZ hw hby hown v0 hret hr
  · rw [show (F3_251 v0) = (F3_259 v0) from if_neg hc] at hr
    refine XS.icmpYes X.here hx rfl (pc0 := 254) (pc' := 259) rfl (hb hby d3_254) rfl (flt hc).2.1 (by decide) (by decide) ?_
    exact b3_259 X hx hZ hw hby hown v0 hret hr
def F3_249 : Int32 := (1 : Int32)
theorem b3_249 {p : Program} {l : Launch} {e : Env} {R : Room} {s : State} {m : MethodId} {args : Array Value} {below : List Frame} {meth : Method} {c : Code} {T : State} {locs : List Loc} {cells slots : Nat} {Z : State} {a0 : Array Value} (X : Stand p l e R s m args below meth c T locs cells slots) (hx : p.tables.exec = Jvm.exec) (hZ : Z.Warmed39 s.vm) (hw : ∀ d ∈ tables_1, d.before a0 Z = true) (hby : c.code = method_3_code) (hown : s.vm.findClass "shapewright/NameCharactersIsPartPinLaw" = some m.cls) (v0 : Int32) (hret : meth.sig.returnType = some .boolean) {fs : List Frame} (hr : ∀ (f : JFrame) (acts : List Action), f.method = m → f.locked = none → f.entered = [] → (doReturn e (T.setTop f) acts (some (.int F3_249))).1 = T.setFrames fs) : Steps p.tables e below (T.setTop (mkF m 249 #[.val (.int v0)] [])) (T.setFrames fs) := by
  show Steps p.tables e below (T.setTop (mkF m 249 #[.val (.int v0)] [])) _
  refine XS.iconst X.here hx rfl (hb hby d3_249) ?_
  show Steps p.tables e below (T.setTop (mkF m 250 #[.val (.int v0)] [(.int (1 : Int32))])) _
  rw [show F3_249 = nar .boolean (1 : Int32) from rfl] at hr
  exact retN X hx (t := .boolean) hret (by simp) (hb hby d3_250) hr
def F3_243 (v0 : Int32) : Int32 := if (55295 : Int32) < v0 then (F3_251 v0) else F3_249
theorem b3_243 {p : Program} {l : Launch} {e : Env} {R : Room} {s : State} {m : MethodId} {args : Array Value} {below : List Frame} {meth : Method} {c : Code} {T : State} {locs : List Loc} {cells slots : Nat} {Z : State} {a0 : Array Value} (X : Stand p l e R s m args below meth c T locs cells slots) (hx : p.tables.exec = Jvm.exec) (hZ : Z.Warmed39 s.vm) (hw : ∀ d ∈ tables_1, d.before a0 Z = true) (hby : c.code = method_3_code) (hown : s.vm.findClass "shapewright/NameCharactersIsPartPinLaw" = some m.cls) (v0 : Int32) (hret : meth.sig.returnType = some .boolean) {fs : List Frame} (hr : ∀ (f : JFrame) (acts : List Action), f.method = m → f.locked = none → f.entered = [] → (doReturn e (T.setTop f) acts (some (.int (F3_243 v0)))).1 = T.setFrames fs) : Steps p.tables e below (T.setTop (mkF m 243 #[.val (.int v0)] [])) (T.setFrames fs) := by
  show Steps p.tables e below (T.setTop (mkF m 243 #[.val (.int v0)] [])) _
  refine XS.iloadN X.here hx rfl (hb hby d3_243) rfl ?_
  show Steps p.tables e below (T.setTop (mkF m 244 #[.val (.int v0)] [(.int v0)])) _
  refine X.ldcInt hx hown (mvT hZ (hw _ (List.mem_of_getElem? (i := 1) rfl))) (g := (mkF m 244 #[.val (.int v0)] [(.int v0)])) rfl (hb hby d3_244) _ ?_
  show Steps p.tables e below (T.setTop (mkF m 246 #[.val (.int v0)] [(.int (55295 : Int32)), (.int v0)])) _
  by_cases hc : (55295 : Int32) < v0
  · rw [show (F3_243 v0) = (F3_251 v0) from if_pos hc] at hr
    refine XS.icmpYes X.here hx rfl (pc0 := 246) (pc' := 251) rfl (hb hby d3_246) rfl (tlt hc).2.2.1 (by decide) (by decide) ?_
    exact b3_251 X hx hZ hw hby hown v0 hret hr
  · rw [show (F3_243 v0) = F3_249 from if_neg hc] at hr
    refine XS.icmpNo X.here hx rfl (hb hby d3_246) rfl (flt hc).2.2.1 ?_
    exact b3_249 X hx hZ hw hby hown v0 hret hr
def F3_241 : Int32 := (0 : Int32)
theorem b3_241 {p : Program} {l : Launch} {e : Env} {R : Room} {s : State} {m : MethodId} {args : Array Value} {below : List Frame} {meth : Method} {c : Code} {T : State} {locs : List Loc} {cells slots : Nat} {Z : State} {a0 : Array Value} (X : Stand p l e R s m args below meth c T locs cells slots) (hx : p.tables.exec = Jvm.exec) (hZ : Z.Warmed39 s.vm) (hw : ∀ d ∈ tables_1, d.before a0 Z = true) (hby : c.code = method_3_code) (hown : s.vm.findClass "shapewright/NameCharactersIsPartPinLaw" = some m.cls) (v0 : Int32) (hret : meth.sig.returnType = some .boolean) {fs : List Frame} (hr : ∀ (f : JFrame) (acts : List Action), f.method = m → f.locked = none → f.entered = [] → (doReturn e (T.setTop f) acts (some (.int F3_241))).1 = T.setFrames fs) : Steps p.tables e below (T.setTop (mkF m 241 #[.val (.int v0)] [])) (T.setFrames fs) := by
  show Steps p.tables e below (T.setTop (mkF m 241 #[.val (.int v0)] [])) _
  refine XS.iconst X.here hx rfl (hb hby d3_241) ?_
  show Steps p.tables e below (T.setTop (mkF m 242 #[.val (.int v0)] [(.int (0 : Int32))])) _
  rw [show F3_241 = nar .boolean (0 : Int32) from rfl] at hr
  exact retN X hx (t := .boolean) hret (by simp) (hb hby d3_242) hr
def F3_234 (v0 : Int32) : Int32 := if v0 < (12289 : Int32) then F3_241 else (F3_243 v0)
theorem b3_234 {p : Program} {l : Launch} {e : Env} {R : Room} {s : State} {m : MethodId} {args : Array Value} {below : List Frame} {meth : Method} {c : Code} {T : State} {locs : List Loc} {cells slots : Nat} {Z : State} {a0 : Array Value} (X : Stand p l e R s m args below meth c T locs cells slots) (hx : p.tables.exec = Jvm.exec) (hZ : Z.Warmed39 s.vm) (hw : ∀ d ∈ tables_1, d.before a0 Z = true) (hby : c.code = method_3_code) (hown : s.vm.findClass "shapewright/NameCharactersIsPartPinLaw" = some m.cls) (v0 : Int32) (hret : meth.sig.returnType = some .boolean) {fs : List Frame} (hr : ∀ (f : JFrame) (acts : List Action), f.method = m → f.locked = none → f.entered = [] → (doReturn e (T.setTop f) acts (some (.int (F3_234 v0)))).1 = T.setFrames fs) : Steps p.tables e below (T.setTop (mkF m 234 #[.val (.int v0)] [])) (T.setFrames fs) := by
  show Steps p.tables e below (T.setTop (mkF m 234 #[.val (.int v0)] [])) _
  refine XS.iloadN X.here hx rfl (hb hby d3_234) rfl ?_
  show Steps p.tables e below (T.setTop (mkF m 235 #[.val (.int v0)] [(.int v0)])) _
  refine XS.sipush X.here hx rfl (hb hby d3_235) ?_
  show Steps p.tables e below (T.setTop (mkF m 238 #[.val (.int v0)] [(.int (12289 : Int32)), (.int v0)])) _
  by_cases hc : v0 < (12289 : Int32)
  · rw [show (F3_234 v0) = F3_241 from if_pos hc] at hr
    refine XS.icmpNo X.here hx rfl (hb hby d3_238) rfl (tlt hc).2.1 ?_
    exact b3_241 X hx hZ hw hby hown v0 hret hr
  · rw [show (F3_234 v0) = (F3_243 v0) from if_neg hc] at hr
    refine XS.icmpYes X.here hx rfl (pc0 := 238) (pc' := 243) rfl (hb hby d3_238) rfl (flt hc).2.1 (by decide) (by decide) ?_
    exact b3_243 X hx hZ hw hby hown v0 hret hr
def F3_232 : Int32 := (1 : Int32)
theorem b3_232 {p : Program} {l : Launch} {e : Env} {R : Room} {s : State} {m : MethodId} {args : Array Value} {below : List Frame} {meth : Method} {c : Code} {T : State} {locs : List Loc} {cells slots : Nat} {Z : State} {a0 : Array Value} (X : Stand p l e R s m args below meth c T locs cells slots) (hx : p.tables.exec = Jvm.exec) (hZ : Z.Warmed39 s.vm) (hw : ∀ d ∈ tables_1, d.before a0 Z = true) (hby : c.code = method_3_code) (hown : s.vm.findClass "shapewright/NameCharactersIsPartPinLaw" = some m.cls) (v0 : Int32) (hret : meth.sig.returnType = some .boolean) {fs : List Frame} (hr : ∀ (f : JFrame) (acts : List Action), f.method = m → f.locked = none → f.entered = [] → (doReturn e (T.setTop f) acts (some (.int F3_232))).1 = T.setFrames fs) : Steps p.tables e below (T.setTop (mkF m 232 #[.val (.int v0)] [])) (T.setFrames fs) := by
  show Steps p.tables e below (T.setTop (mkF m 232 #[.val (.int v0)] [])) _
  refine XS.iconst X.here hx rfl (hb hby d3_232) ?_
  show Steps p.tables e below (T.setTop (mkF m 233 #[.val (.int v0)] [(.int (1 : Int32))])) _
  rw [show F3_232 = nar .boolean (1 : Int32) from rfl] at hr
  exact retN X hx (t := .boolean) hret (by simp) (hb hby d3_233) hr
def F3_225 (v0 : Int32) : Int32 := if (12271 : Int32) < v0 then (F3_234 v0) else F3_232
theorem b3_225 {p : Program} {l : Launch} {e : Env} {R : Room} {s : State} {m : MethodId} {args : Array Value} {below : List Frame} {meth : Method} {c : Code} {T : State} {locs : List Loc} {cells slots : Nat} {Z : State} {a0 : Array Value} (X : Stand p l e R s m args below meth c T locs cells slots) (hx : p.tables.exec = Jvm.exec) (hZ : Z.Warmed39 s.vm) (hw : ∀ d ∈ tables_1, d.before a0 Z = true) (hby : c.code = method_3_code) (hown : s.vm.findClass "shapewright/NameCharactersIsPartPinLaw" = some m.cls) (v0 : Int32) (hret : meth.sig.returnType = some .boolean) {fs : List Frame} (hr : ∀ (f : JFrame) (acts : List Action), f.method = m → f.locked = none → f.entered = [] → (doReturn e (T.setTop f) acts (some (.int (F3_225 v0)))).1 = T.setFrames fs) : Steps p.tables e below (T.setTop (mkF m 225 #[.val (.int v0)] [])) (T.setFrames fs) := by
  show Steps p.tables e below (T.setTop (mkF m 225 #[.val (.int v0)] [])) _
  refine XS.iloadN X.here hx rfl (hb hby d3_225) rfl ?_
  show Steps p.tables e below (T.setTop (mkF m 226 #[.val (.int v0)] [(.int v0)])) _
  refine XS.sipush X.here hx rfl (hb hby d3_226) ?_
  show Steps p.tables e below (T.setTop (mkF m 229 #[.val (.int v0)] [(.int (12271 : Int32)), (.int v0)])) _
  by_cases hc : (12271 : Int32) < v0
  · rw [show (F3_225 v0) = (F3_234 v0) from if_pos hc] at hr
    refine XS.icmpYes X.here hx rfl (pc0 := 229) (pc' := 234) rfl (hb hby d3_229) rfl (tlt hc).2.2.1 (by decide) (by decide) ?_
    exact b3_234 X hx hZ hw hby hown v0 hret hr
  · rw [show (F3_225 v0) = F3_232 from if_neg hc] at hr
    refine XS.icmpNo X.here hx rfl (hb hby d3_229) rfl (flt hc).2.2.1 ?_
    exact b3_232 X hx hZ hw hby hown v0 hret hr
def F3_223 : Int32 := (0 : Int32)
theorem b3_223 {p : Program} {l : Launch} {e : Env} {R : Room} {s : State} {m : MethodId} {args : Array Value} {below : List Frame} {meth : Method} {c : Code} {T : State} {locs : List Loc} {cells slots : Nat} {Z : State} {a0 : Array Value} (X : Stand p l e R s m args below meth c T locs cells slots) (hx : p.tables.exec = Jvm.exec) (hZ : Z.Warmed39 s.vm) (hw : ∀ d ∈ tables_1, d.before a0 Z = true) (hby : c.code = method_3_code) (hown : s.vm.findClass "shapewright/NameCharactersIsPartPinLaw" = some m.cls) (v0 : Int32) (hret : meth.sig.returnType = some .boolean) {fs : List Frame} (hr : ∀ (f : JFrame) (acts : List Action), f.method = m → f.locked = none → f.entered = [] → (doReturn e (T.setTop f) acts (some (.int F3_223))).1 = T.setFrames fs) : Steps p.tables e below (T.setTop (mkF m 223 #[.val (.int v0)] [])) (T.setFrames fs) := by
  show Steps p.tables e below (T.setTop (mkF m 223 #[.val (.int v0)] [])) _
  refine XS.iconst X.here hx rfl (hb hby d3_223) ?_
  show Steps p.tables e below (T.setTop (mkF m 224 #[.val (.int v0)] [(.int (0 : Int32))])) _
  rw [show F3_223 = nar .boolean (0 : Int32) from rfl] at hr
  exact retN X hx (t := .boolean) hret (by simp) (hb hby d3_224) hr
def F3_216 (v0 : Int32) : Int32 := if v0 < (11264 : Int32) then F3_223 else (F3_225 v0)
theorem b3_216 {p : Program} {l : Launch} {e : Env} {R : Room} {s : State} {m : MethodId} {args : Array Value} {below : List Frame} {meth : Method} {c : Code} {T : State} {locs : List Loc} {cells slots : Nat} {Z : State} {a0 : Array Value} (X : Stand p l e R s m args below meth c T locs cells slots) (hx : p.tables.exec = Jvm.exec) (hZ : Z.Warmed39 s.vm) (hw : ∀ d ∈ tables_1, d.before a0 Z = true) (hby : c.code = method_3_code) (hown : s.vm.findClass "shapewright/NameCharactersIsPartPinLaw" = some m.cls) (v0 : Int32) (hret : meth.sig.returnType = some .boolean) {fs : List Frame} (hr : ∀ (f : JFrame) (acts : List Action), f.method = m → f.locked = none → f.entered = [] → (doReturn e (T.setTop f) acts (some (.int (F3_216 v0)))).1 = T.setFrames fs) : Steps p.tables e below (T.setTop (mkF m 216 #[.val (.int v0)] [])) (T.setFrames fs) := by
  show Steps p.tables e below (T.setTop (mkF m 216 #[.val (.int v0)] [])) _
  refine XS.iloadN X.here hx rfl (hb hby d3_216) rfl ?_
  show Steps p.tables e below (T.setTop (mkF m 217 #[.val (.int v0)] [(.int v0)])) _
  refine XS.sipush X.here hx rfl (hb hby d3_217) ?_
  show Steps p.tables e below (T.setTop (mkF m 220 #[.val (.int v0)] [(.int (11264 : Int32)), (.int v0)])) _
  by_cases hc : v0 < (11264 : Int32)
  · rw [show (F3_216 v0) = F3_223 from if_pos hc] at hr
    refine XS.icmpNo X.here hx rfl (hb hby d3_220) rfl (tlt hc).2.1 ?_
    exact b3_223 X hx hZ hw hby hown v0 hret hr
  · rw [show (F3_216 v0) = (F3_225 v0) from if_neg hc] at hr
    refine XS.icmpYes X.here hx rfl (pc0 := 220) (pc' := 225) rfl (hb hby d3_220) rfl (flt hc).2.1 (by decide) (by decide) ?_
    exact b3_225 X hx hZ hw hby hown v0 hret hr
def F3_214 : Int32 := (1 : Int32)
theorem b3_214 {p : Program} {l : Launch} {e : Env} {R : Room} {s : State} {m : MethodId} {args : Array Value} {below : List Frame} {meth : Method} {c : Code} {T : State} {locs : List Loc} {cells slots : Nat} {Z : State} {a0 : Array Value} (X : Stand p l e R s m args below meth c T locs cells slots) (hx : p.tables.exec = Jvm.exec) (hZ : Z.Warmed39 s.vm) (hw : ∀ d ∈ tables_1, d.before a0 Z = true) (hby : c.code = method_3_code) (hown : s.vm.findClass "shapewright/NameCharactersIsPartPinLaw" = some m.cls) (v0 : Int32) (hret : meth.sig.returnType = some .boolean) {fs : List Frame} (hr : ∀ (f : JFrame) (acts : List Action), f.method = m → f.locked = none → f.entered = [] → (doReturn e (T.setTop f) acts (some (.int F3_214))).1 = T.setFrames fs) : Steps p.tables e below (T.setTop (mkF m 214 #[.val (.int v0)] [])) (T.setFrames fs) := by
  show Steps p.tables e below (T.setTop (mkF m 214 #[.val (.int v0)] [])) _
  refine XS.iconst X.here hx rfl (hb hby d3_214) ?_
  show Steps p.tables e below (T.setTop (mkF m 215 #[.val (.int v0)] [(.int (1 : Int32))])) _
  rw [show F3_214 = nar .boolean (1 : Int32) from rfl] at hr
  exact retN X hx (t := .boolean) hret (by simp) (hb hby d3_215) hr
def F3_207 (v0 : Int32) : Int32 := if (8591 : Int32) < v0 then (F3_216 v0) else F3_214
theorem b3_207 {p : Program} {l : Launch} {e : Env} {R : Room} {s : State} {m : MethodId} {args : Array Value} {below : List Frame} {meth : Method} {c : Code} {T : State} {locs : List Loc} {cells slots : Nat} {Z : State} {a0 : Array Value} (X : Stand p l e R s m args below meth c T locs cells slots) (hx : p.tables.exec = Jvm.exec) (hZ : Z.Warmed39 s.vm) (hw : ∀ d ∈ tables_1, d.before a0 Z = true) (hby : c.code = method_3_code) (hown : s.vm.findClass "shapewright/NameCharactersIsPartPinLaw" = some m.cls) (v0 : Int32) (hret : meth.sig.returnType = some .boolean) {fs : List Frame} (hr : ∀ (f : JFrame) (acts : List Action), f.method = m → f.locked = none → f.entered = [] → (doReturn e (T.setTop f) acts (some (.int (F3_207 v0)))).1 = T.setFrames fs) : Steps p.tables e below (T.setTop (mkF m 207 #[.val (.int v0)] [])) (T.setFrames fs) := by
  show Steps p.tables e below (T.setTop (mkF m 207 #[.val (.int v0)] [])) _
  refine XS.iloadN X.here hx rfl (hb hby d3_207) rfl ?_
  show Steps p.tables e below (T.setTop (mkF m 208 #[.val (.int v0)] [(.int v0)])) _
  refine XS.sipush X.here hx rfl (hb hby d3_208) ?_
  show Steps p.tables e below (T.setTop (mkF m 211 #[.val (.int v0)] [(.int (8591 : Int32)), (.int v0)])) _
  by_cases hc : (8591 : Int32) < v0
  · rw [show (F3_207 v0) = (F3_216 v0) from if_pos hc] at hr
    refine XS.icmpYes X.here hx rfl (pc0 := 211) (pc' := 216) rfl (hb hby d3_211) rfl (tlt hc).2.2.1 (by decide) (by decide) ?_
    exact b3_216 X hx hZ hw hby hown v0 hret hr
  · rw [show (F3_207 v0) = F3_214 from if_neg hc] at hr
    refine XS.icmpNo X.here hx rfl (hb hby d3_211) rfl (flt hc).2.2.1 ?_
    exact b3_214 X hx hZ hw hby hown v0 hret hr
def F3_205 : Int32 := (0 : Int32)
theorem b3_205 {p : Program} {l : Launch} {e : Env} {R : Room} {s : State} {m : MethodId} {args : Array Value} {below : List Frame} {meth : Method} {c : Code} {T : State} {locs : List Loc} {cells slots : Nat} {Z : State} {a0 : Array Value} (X : Stand p l e R s m args below meth c T locs cells slots) (hx : p.tables.exec = Jvm.exec) (hZ : Z.Warmed39 s.vm) (hw : ∀ d ∈ tables_1, d.before a0 Z = true) (hby : c.code = method_3_code) (hown : s.vm.findClass "shapewright/NameCharactersIsPartPinLaw" = some m.cls) (v0 : Int32) (hret : meth.sig.returnType = some .boolean) {fs : List Frame} (hr : ∀ (f : JFrame) (acts : List Action), f.method = m → f.locked = none → f.entered = [] → (doReturn e (T.setTop f) acts (some (.int F3_205))).1 = T.setFrames fs) : Steps p.tables e below (T.setTop (mkF m 205 #[.val (.int v0)] [])) (T.setFrames fs) := by
  show Steps p.tables e below (T.setTop (mkF m 205 #[.val (.int v0)] [])) _
  refine XS.iconst X.here hx rfl (hb hby d3_205) ?_
  show Steps p.tables e below (T.setTop (mkF m 206 #[.val (.int v0)] [(.int (0 : Int32))])) _
  rw [show F3_205 = nar .boolean (0 : Int32) from rfl] at hr
  exact retN X hx (t := .boolean) hret (by simp) (hb hby d3_206) hr
def F3_198 (v0 : Int32) : Int32 := if v0 < (8304 : Int32) then F3_205 else (F3_207 v0)
theorem b3_198 {p : Program} {l : Launch} {e : Env} {R : Room} {s : State} {m : MethodId} {args : Array Value} {below : List Frame} {meth : Method} {c : Code} {T : State} {locs : List Loc} {cells slots : Nat} {Z : State} {a0 : Array Value} (X : Stand p l e R s m args below meth c T locs cells slots) (hx : p.tables.exec = Jvm.exec) (hZ : Z.Warmed39 s.vm) (hw : ∀ d ∈ tables_1, d.before a0 Z = true) (hby : c.code = method_3_code) (hown : s.vm.findClass "shapewright/NameCharactersIsPartPinLaw" = some m.cls) (v0 : Int32) (hret : meth.sig.returnType = some .boolean) {fs : List Frame} (hr : ∀ (f : JFrame) (acts : List Action), f.method = m → f.locked = none → f.entered = [] → (doReturn e (T.setTop f) acts (some (.int (F3_198 v0)))).1 = T.setFrames fs) : Steps p.tables e below (T.setTop (mkF m 198 #[.val (.int v0)] [])) (T.setFrames fs) := by
  show Steps p.tables e below (T.setTop (mkF m 198 #[.val (.int v0)] [])) _
  refine XS.iloadN X.here hx rfl (hb hby d3_198) rfl ?_
  show Steps p.tables e below (T.setTop (mkF m 199 #[.val (.int v0)] [(.int v0)])) _
  refine XS.sipush X.here hx rfl (hb hby d3_199) ?_
  show Steps p.tables e below (T.setTop (mkF m 202 #[.val (.int v0)] [(.int (8304 : Int32)), (.int v0)])) _
  by_cases hc : v0 < (8304 : Int32)
  · rw [show (F3_198 v0) = F3_205 from if_pos hc] at hr
    refine XS.icmpNo X.here hx rfl (hb hby d3_202) rfl (tlt hc).2.1 ?_
    exact b3_205 X hx hZ hw hby hown v0 hret hr
  · rw [show (F3_198 v0) = (F3_207 v0) from if_neg hc] at hr
    refine XS.icmpYes X.here hx rfl (pc0 := 202) (pc' := 207) rfl (hb hby d3_202) rfl (flt hc).2.1 (by decide) (by decide) ?_
    exact b3_207 X hx hZ hw hby hown v0 hret hr
def F3_196 : Int32 := (1 : Int32)
theorem b3_196 {p : Program} {l : Launch} {e : Env} {R : Room} {s : State} {m : MethodId} {args : Array Value} {below : List Frame} {meth : Method} {c : Code} {T : State} {locs : List Loc} {cells slots : Nat} {Z : State} {a0 : Array Value} (X : Stand p l e R s m args below meth c T locs cells slots) (hx : p.tables.exec = Jvm.exec) (hZ : Z.Warmed39 s.vm) (hw : ∀ d ∈ tables_1, d.before a0 Z = true) (hby : c.code = method_3_code) (hown : s.vm.findClass "shapewright/NameCharactersIsPartPinLaw" = some m.cls) (v0 : Int32) (hret : meth.sig.returnType = some .boolean) {fs : List Frame} (hr : ∀ (f : JFrame) (acts : List Action), f.method = m → f.locked = none → f.entered = [] → (doReturn e (T.setTop f) acts (some (.int F3_196))).1 = T.setFrames fs) : Steps p.tables e below (T.setTop (mkF m 196 #[.val (.int v0)] [])) (T.setFrames fs) := by
  show Steps p.tables e below (T.setTop (mkF m 196 #[.val (.int v0)] [])) _
  refine XS.iconst X.here hx rfl (hb hby d3_196) ?_
  show Steps p.tables e below (T.setTop (mkF m 197 #[.val (.int v0)] [(.int (1 : Int32))])) _
  rw [show F3_196 = nar .boolean (1 : Int32) from rfl] at hr
  exact retN X hx (t := .boolean) hret (by simp) (hb hby d3_197) hr
def F3_189 (v0 : Int32) : Int32 := if (8256 : Int32) < v0 then (F3_198 v0) else F3_196
theorem b3_189 {p : Program} {l : Launch} {e : Env} {R : Room} {s : State} {m : MethodId} {args : Array Value} {below : List Frame} {meth : Method} {c : Code} {T : State} {locs : List Loc} {cells slots : Nat} {Z : State} {a0 : Array Value} (X : Stand p l e R s m args below meth c T locs cells slots) (hx : p.tables.exec = Jvm.exec) (hZ : Z.Warmed39 s.vm) (hw : ∀ d ∈ tables_1, d.before a0 Z = true) (hby : c.code = method_3_code) (hown : s.vm.findClass "shapewright/NameCharactersIsPartPinLaw" = some m.cls) (v0 : Int32) (hret : meth.sig.returnType = some .boolean) {fs : List Frame} (hr : ∀ (f : JFrame) (acts : List Action), f.method = m → f.locked = none → f.entered = [] → (doReturn e (T.setTop f) acts (some (.int (F3_189 v0)))).1 = T.setFrames fs) : Steps p.tables e below (T.setTop (mkF m 189 #[.val (.int v0)] [])) (T.setFrames fs) := by
  show Steps p.tables e below (T.setTop (mkF m 189 #[.val (.int v0)] [])) _
  refine XS.iloadN X.here hx rfl (hb hby d3_189) rfl ?_
  show Steps p.tables e below (T.setTop (mkF m 190 #[.val (.int v0)] [(.int v0)])) _
  refine XS.sipush X.here hx rfl (hb hby d3_190) ?_
  show Steps p.tables e below (T.setTop (mkF m 193 #[.val (.int v0)] [(.int (8256 : Int32)), (.int v0)])) _
  by_cases hc : (8256 : Int32) < v0
  · rw [show (F3_189 v0) = (F3_198 v0) from if_pos hc] at hr
    refine XS.icmpYes X.here hx rfl (pc0 := 193) (pc' := 198) rfl (hb hby d3_193) rfl (tlt hc).2.2.1 (by decide) (by decide) ?_
    exact b3_198 X hx hZ hw hby hown v0 hret hr
  · rw [show (F3_189 v0) = F3_196 from if_neg hc] at hr
    refine XS.icmpNo X.here hx rfl (hb hby d3_193) rfl (flt hc).2.2.1 ?_
    exact b3_196 X hx hZ hw hby hown v0 hret hr
def F3_187 : Int32 := (0 : Int32)
theorem b3_187 {p : Program} {l : Launch} {e : Env} {R : Room} {s : State} {m : MethodId} {args : Array Value} {below : List Frame} {meth : Method} {c : Code} {T : State} {locs : List Loc} {cells slots : Nat} {Z : State} {a0 : Array Value} (X : Stand p l e R s m args below meth c T locs cells slots) (hx : p.tables.exec = Jvm.exec) (hZ : Z.Warmed39 s.vm) (hw : ∀ d ∈ tables_1, d.before a0 Z = true) (hby : c.code = method_3_code) (hown : s.vm.findClass "shapewright/NameCharactersIsPartPinLaw" = some m.cls) (v0 : Int32) (hret : meth.sig.returnType = some .boolean) {fs : List Frame} (hr : ∀ (f : JFrame) (acts : List Action), f.method = m → f.locked = none → f.entered = [] → (doReturn e (T.setTop f) acts (some (.int F3_187))).1 = T.setFrames fs) : Steps p.tables e below (T.setTop (mkF m 187 #[.val (.int v0)] [])) (T.setFrames fs) := by
  show Steps p.tables e below (T.setTop (mkF m 187 #[.val (.int v0)] [])) _
  refine XS.iconst X.here hx rfl (hb hby d3_187) ?_
  show Steps p.tables e below (T.setTop (mkF m 188 #[.val (.int v0)] [(.int (0 : Int32))])) _
  rw [show F3_187 = nar .boolean (0 : Int32) from rfl] at hr
  exact retN X hx (t := .boolean) hret (by simp) (hb hby d3_188) hr
def F3_180 (v0 : Int32) : Int32 := if v0 < (8255 : Int32) then F3_187 else (F3_189 v0)
theorem b3_180 {p : Program} {l : Launch} {e : Env} {R : Room} {s : State} {m : MethodId} {args : Array Value} {below : List Frame} {meth : Method} {c : Code} {T : State} {locs : List Loc} {cells slots : Nat} {Z : State} {a0 : Array Value} (X : Stand p l e R s m args below meth c T locs cells slots) (hx : p.tables.exec = Jvm.exec) (hZ : Z.Warmed39 s.vm) (hw : ∀ d ∈ tables_1, d.before a0 Z = true) (hby : c.code = method_3_code) (hown : s.vm.findClass "shapewright/NameCharactersIsPartPinLaw" = some m.cls) (v0 : Int32) (hret : meth.sig.returnType = some .boolean) {fs : List Frame} (hr : ∀ (f : JFrame) (acts : List Action), f.method = m → f.locked = none → f.entered = [] → (doReturn e (T.setTop f) acts (some (.int (F3_180 v0)))).1 = T.setFrames fs) : Steps p.tables e below (T.setTop (mkF m 180 #[.val (.int v0)] [])) (T.setFrames fs) := by
  show Steps p.tables e below (T.setTop (mkF m 180 #[.val (.int v0)] [])) _
  refine XS.iloadN X.here hx rfl (hb hby d3_180) rfl ?_
  show Steps p.tables e below (T.setTop (mkF m 181 #[.val (.int v0)] [(.int v0)])) _
  refine XS.sipush X.here hx rfl (hb hby d3_181) ?_
  show Steps p.tables e below (T.setTop (mkF m 184 #[.val (.int v0)] [(.int (8255 : Int32)), (.int v0)])) _
  by_cases hc : v0 < (8255 : Int32)
  · rw [show (F3_180 v0) = F3_187 from if_pos hc] at hr
    refine XS.icmpNo X.here hx rfl (hb hby d3_184) rfl (tlt hc).2.1 ?_
    exact b3_187 X hx hZ hw hby hown v0 hret hr
  · rw [show (F3_180 v0) = (F3_189 v0) from if_neg hc] at hr
    refine XS.icmpYes X.here hx rfl (pc0 := 184) (pc' := 189) rfl (hb hby d3_184) rfl (flt hc).2.1 (by decide) (by decide) ?_
    exact b3_189 X hx hZ hw hby hown v0 hret hr
def F3_178 : Int32 := (1 : Int32)
theorem b3_178 {p : Program} {l : Launch} {e : Env} {R : Room} {s : State} {m : MethodId} {args : Array Value} {below : List Frame} {meth : Method} {c : Code} {T : State} {locs : List Loc} {cells slots : Nat} {Z : State} {a0 : Array Value} (X : Stand p l e R s m args below meth c T locs cells slots) (hx : p.tables.exec = Jvm.exec) (hZ : Z.Warmed39 s.vm) (hw : ∀ d ∈ tables_1, d.before a0 Z = true) (hby : c.code = method_3_code) (hown : s.vm.findClass "shapewright/NameCharactersIsPartPinLaw" = some m.cls) (v0 : Int32) (hret : meth.sig.returnType = some .boolean) {fs : List Frame} (hr : ∀ (f : JFrame) (acts : List Action), f.method = m → f.locked = none → f.entered = [] → (doReturn e (T.setTop f) acts (some (.int F3_178))).1 = T.setFrames fs) : Steps p.tables e below (T.setTop (mkF m 178 #[.val (.int v0)] [])) (T.setFrames fs) := by
  show Steps p.tables e below (T.setTop (mkF m 178 #[.val (.int v0)] [])) _
  refine XS.iconst X.here hx rfl (hb hby d3_178) ?_
  show Steps p.tables e below (T.setTop (mkF m 179 #[.val (.int v0)] [(.int (1 : Int32))])) _
  rw [show F3_178 = nar .boolean (1 : Int32) from rfl] at hr
  exact retN X hx (t := .boolean) hret (by simp) (hb hby d3_179) hr
def F3_171 (v0 : Int32) : Int32 := if (8205 : Int32) < v0 then (F3_180 v0) else F3_178
theorem b3_171 {p : Program} {l : Launch} {e : Env} {R : Room} {s : State} {m : MethodId} {args : Array Value} {below : List Frame} {meth : Method} {c : Code} {T : State} {locs : List Loc} {cells slots : Nat} {Z : State} {a0 : Array Value} (X : Stand p l e R s m args below meth c T locs cells slots) (hx : p.tables.exec = Jvm.exec) (hZ : Z.Warmed39 s.vm) (hw : ∀ d ∈ tables_1, d.before a0 Z = true) (hby : c.code = method_3_code) (hown : s.vm.findClass "shapewright/NameCharactersIsPartPinLaw" = some m.cls) (v0 : Int32) (hret : meth.sig.returnType = some .boolean) {fs : List Frame} (hr : ∀ (f : JFrame) (acts : List Action), f.method = m → f.locked = none → f.entered = [] → (doReturn e (T.setTop f) acts (some (.int (F3_171 v0)))).1 = T.setFrames fs) : Steps p.tables e below (T.setTop (mkF m 171 #[.val (.int v0)] [])) (T.setFrames fs) := by
  show Steps p.tables e below (T.setTop (mkF m 171 #[.val (.int v0)] [])) _
  refine XS.iloadN X.here hx rfl (hb hby d3_171) rfl ?_
  show Steps p.tables e below (T.setTop (mkF m 172 #[.val (.int v0)] [(.int v0)])) _
  refine XS.sipush X.here hx rfl (hb hby d3_172) ?_
  show Steps p.tables e below (T.setTop (mkF m 175 #[.val (.int v0)] [(.int (8205 : Int32)), (.int v0)])) _
  by_cases hc : (8205 : Int32) < v0
  · rw [show (F3_171 v0) = (F3_180 v0) from if_pos hc] at hr
    refine XS.icmpYes X.here hx rfl (pc0 := 175) (pc' := 180) rfl (hb hby d3_175) rfl (tlt hc).2.2.1 (by decide) (by decide) ?_
    exact b3_180 X hx hZ hw hby hown v0 hret hr
  · rw [show (F3_171 v0) = F3_178 from if_neg hc] at hr
    refine XS.icmpNo X.here hx rfl (hb hby d3_175) rfl (flt hc).2.2.1 ?_
    exact b3_178 X hx hZ hw hby hown v0 hret hr
def F3_169 : Int32 := (0 : Int32)
theorem b3_169 {p : Program} {l : Launch} {e : Env} {R : Room} {s : State} {m : MethodId} {args : Array Value} {below : List Frame} {meth : Method} {c : Code} {T : State} {locs : List Loc} {cells slots : Nat} {Z : State} {a0 : Array Value} (X : Stand p l e R s m args below meth c T locs cells slots) (hx : p.tables.exec = Jvm.exec) (hZ : Z.Warmed39 s.vm) (hw : ∀ d ∈ tables_1, d.before a0 Z = true) (hby : c.code = method_3_code) (hown : s.vm.findClass "shapewright/NameCharactersIsPartPinLaw" = some m.cls) (v0 : Int32) (hret : meth.sig.returnType = some .boolean) {fs : List Frame} (hr : ∀ (f : JFrame) (acts : List Action), f.method = m → f.locked = none → f.entered = [] → (doReturn e (T.setTop f) acts (some (.int F3_169))).1 = T.setFrames fs) : Steps p.tables e below (T.setTop (mkF m 169 #[.val (.int v0)] [])) (T.setFrames fs) := by
  show Steps p.tables e below (T.setTop (mkF m 169 #[.val (.int v0)] [])) _
  refine XS.iconst X.here hx rfl (hb hby d3_169) ?_
  show Steps p.tables e below (T.setTop (mkF m 170 #[.val (.int v0)] [(.int (0 : Int32))])) _
  rw [show F3_169 = nar .boolean (0 : Int32) from rfl] at hr
  exact retN X hx (t := .boolean) hret (by simp) (hb hby d3_170) hr
def F3_162 (v0 : Int32) : Int32 := if v0 < (8204 : Int32) then F3_169 else (F3_171 v0)
theorem b3_162 {p : Program} {l : Launch} {e : Env} {R : Room} {s : State} {m : MethodId} {args : Array Value} {below : List Frame} {meth : Method} {c : Code} {T : State} {locs : List Loc} {cells slots : Nat} {Z : State} {a0 : Array Value} (X : Stand p l e R s m args below meth c T locs cells slots) (hx : p.tables.exec = Jvm.exec) (hZ : Z.Warmed39 s.vm) (hw : ∀ d ∈ tables_1, d.before a0 Z = true) (hby : c.code = method_3_code) (hown : s.vm.findClass "shapewright/NameCharactersIsPartPinLaw" = some m.cls) (v0 : Int32) (hret : meth.sig.returnType = some .boolean) {fs : List Frame} (hr : ∀ (f : JFrame) (acts : List Action), f.method = m → f.locked = none → f.entered = [] → (doReturn e (T.setTop f) acts (some (.int (F3_162 v0)))).1 = T.setFrames fs) : Steps p.tables e below (T.setTop (mkF m 162 #[.val (.int v0)] [])) (T.setFrames fs) := by
  show Steps p.tables e below (T.setTop (mkF m 162 #[.val (.int v0)] [])) _
  refine XS.iloadN X.here hx rfl (hb hby d3_162) rfl ?_
  show Steps p.tables e below (T.setTop (mkF m 163 #[.val (.int v0)] [(.int v0)])) _
  refine XS.sipush X.here hx rfl (hb hby d3_163) ?_
  show Steps p.tables e below (T.setTop (mkF m 166 #[.val (.int v0)] [(.int (8204 : Int32)), (.int v0)])) _
  by_cases hc : v0 < (8204 : Int32)
  · rw [show (F3_162 v0) = F3_169 from if_pos hc] at hr
    refine XS.icmpNo X.here hx rfl (hb hby d3_166) rfl (tlt hc).2.1 ?_
    exact b3_169 X hx hZ hw hby hown v0 hret hr
  · rw [show (F3_162 v0) = (F3_171 v0) from if_neg hc] at hr
    refine XS.icmpYes X.here hx rfl (pc0 := 166) (pc' := 171) rfl (hb hby d3_166) rfl (flt hc).2.1 (by decide) (by decide) ?_
    exact b3_171 X hx hZ hw hby hown v0 hret hr
def F3_160 : Int32 := (1 : Int32)
theorem b3_160 {p : Program} {l : Launch} {e : Env} {R : Room} {s : State} {m : MethodId} {args : Array Value} {below : List Frame} {meth : Method} {c : Code} {T : State} {locs : List Loc} {cells slots : Nat} {Z : State} {a0 : Array Value} (X : Stand p l e R s m args below meth c T locs cells slots) (hx : p.tables.exec = Jvm.exec) (hZ : Z.Warmed39 s.vm) (hw : ∀ d ∈ tables_1, d.before a0 Z = true) (hby : c.code = method_3_code) (hown : s.vm.findClass "shapewright/NameCharactersIsPartPinLaw" = some m.cls) (v0 : Int32) (hret : meth.sig.returnType = some .boolean) {fs : List Frame} (hr : ∀ (f : JFrame) (acts : List Action), f.method = m → f.locked = none → f.entered = [] → (doReturn e (T.setTop f) acts (some (.int F3_160))).1 = T.setFrames fs) : Steps p.tables e below (T.setTop (mkF m 160 #[.val (.int v0)] [])) (T.setFrames fs) := by
  show Steps p.tables e below (T.setTop (mkF m 160 #[.val (.int v0)] [])) _
  refine XS.iconst X.here hx rfl (hb hby d3_160) ?_
  show Steps p.tables e below (T.setTop (mkF m 161 #[.val (.int v0)] [(.int (1 : Int32))])) _
  rw [show F3_160 = nar .boolean (1 : Int32) from rfl] at hr
  exact retN X hx (t := .boolean) hret (by simp) (hb hby d3_161) hr
def F3_153 (v0 : Int32) : Int32 := if (8191 : Int32) < v0 then (F3_162 v0) else F3_160
theorem b3_153 {p : Program} {l : Launch} {e : Env} {R : Room} {s : State} {m : MethodId} {args : Array Value} {below : List Frame} {meth : Method} {c : Code} {T : State} {locs : List Loc} {cells slots : Nat} {Z : State} {a0 : Array Value} (X : Stand p l e R s m args below meth c T locs cells slots) (hx : p.tables.exec = Jvm.exec) (hZ : Z.Warmed39 s.vm) (hw : ∀ d ∈ tables_1, d.before a0 Z = true) (hby : c.code = method_3_code) (hown : s.vm.findClass "shapewright/NameCharactersIsPartPinLaw" = some m.cls) (v0 : Int32) (hret : meth.sig.returnType = some .boolean) {fs : List Frame} (hr : ∀ (f : JFrame) (acts : List Action), f.method = m → f.locked = none → f.entered = [] → (doReturn e (T.setTop f) acts (some (.int (F3_153 v0)))).1 = T.setFrames fs) : Steps p.tables e below (T.setTop (mkF m 153 #[.val (.int v0)] [])) (T.setFrames fs) := by
  show Steps p.tables e below (T.setTop (mkF m 153 #[.val (.int v0)] [])) _
  refine XS.iloadN X.here hx rfl (hb hby d3_153) rfl ?_
  show Steps p.tables e below (T.setTop (mkF m 154 #[.val (.int v0)] [(.int v0)])) _
  refine XS.sipush X.here hx rfl (hb hby d3_154) ?_
  show Steps p.tables e below (T.setTop (mkF m 157 #[.val (.int v0)] [(.int (8191 : Int32)), (.int v0)])) _
  by_cases hc : (8191 : Int32) < v0
  · rw [show (F3_153 v0) = (F3_162 v0) from if_pos hc] at hr
    refine XS.icmpYes X.here hx rfl (pc0 := 157) (pc' := 162) rfl (hb hby d3_157) rfl (tlt hc).2.2.1 (by decide) (by decide) ?_
    exact b3_162 X hx hZ hw hby hown v0 hret hr
  · rw [show (F3_153 v0) = F3_160 from if_neg hc] at hr
    refine XS.icmpNo X.here hx rfl (hb hby d3_157) rfl (flt hc).2.2.1 ?_
    exact b3_160 X hx hZ hw hby hown v0 hret hr
def F3_151 : Int32 := (0 : Int32)
theorem b3_151 {p : Program} {l : Launch} {e : Env} {R : Room} {s : State} {m : MethodId} {args : Array Value} {below : List Frame} {meth : Method} {c : Code} {T : State} {locs : List Loc} {cells slots : Nat} {Z : State} {a0 : Array Value} (X : Stand p l e R s m args below meth c T locs cells slots) (hx : p.tables.exec = Jvm.exec) (hZ : Z.Warmed39 s.vm) (hw : ∀ d ∈ tables_1, d.before a0 Z = true) (hby : c.code = method_3_code) (hown : s.vm.findClass "shapewright/NameCharactersIsPartPinLaw" = some m.cls) (v0 : Int32) (hret : meth.sig.returnType = some .boolean) {fs : List Frame} (hr : ∀ (f : JFrame) (acts : List Action), f.method = m → f.locked = none → f.entered = [] → (doReturn e (T.setTop f) acts (some (.int F3_151))).1 = T.setFrames fs) : Steps p.tables e below (T.setTop (mkF m 151 #[.val (.int v0)] [])) (T.setFrames fs) := by
  show Steps p.tables e below (T.setTop (mkF m 151 #[.val (.int v0)] [])) _
  refine XS.iconst X.here hx rfl (hb hby d3_151) ?_
  show Steps p.tables e below (T.setTop (mkF m 152 #[.val (.int v0)] [(.int (0 : Int32))])) _
  rw [show F3_151 = nar .boolean (0 : Int32) from rfl] at hr
  exact retN X hx (t := .boolean) hret (by simp) (hb hby d3_152) hr
def F3_144 (v0 : Int32) : Int32 := if v0 = (894 : Int32) then F3_151 else (F3_153 v0)
theorem b3_144 {p : Program} {l : Launch} {e : Env} {R : Room} {s : State} {m : MethodId} {args : Array Value} {below : List Frame} {meth : Method} {c : Code} {T : State} {locs : List Loc} {cells slots : Nat} {Z : State} {a0 : Array Value} (X : Stand p l e R s m args below meth c T locs cells slots) (hx : p.tables.exec = Jvm.exec) (hZ : Z.Warmed39 s.vm) (hw : ∀ d ∈ tables_1, d.before a0 Z = true) (hby : c.code = method_3_code) (hown : s.vm.findClass "shapewright/NameCharactersIsPartPinLaw" = some m.cls) (v0 : Int32) (hret : meth.sig.returnType = some .boolean) {fs : List Frame} (hr : ∀ (f : JFrame) (acts : List Action), f.method = m → f.locked = none → f.entered = [] → (doReturn e (T.setTop f) acts (some (.int (F3_144 v0)))).1 = T.setFrames fs) : Steps p.tables e below (T.setTop (mkF m 144 #[.val (.int v0)] [])) (T.setFrames fs) := by
  show Steps p.tables e below (T.setTop (mkF m 144 #[.val (.int v0)] [])) _
  refine XS.iloadN X.here hx rfl (hb hby d3_144) rfl ?_
  show Steps p.tables e below (T.setTop (mkF m 145 #[.val (.int v0)] [(.int v0)])) _
  refine XS.sipush X.here hx rfl (hb hby d3_145) ?_
  show Steps p.tables e below (T.setTop (mkF m 148 #[.val (.int v0)] [(.int (894 : Int32)), (.int v0)])) _
  by_cases hc : v0 = (894 : Int32)
  · rw [show (F3_144 v0) = F3_151 from if_pos hc] at hr
    refine XS.icmpNo X.here hx rfl (hb hby d3_148) rfl (teq hc).2 ?_
    exact b3_151 X hx hZ hw hby hown v0 hret hr
  · rw [show (F3_144 v0) = (F3_153 v0) from if_neg hc] at hr
    refine XS.icmpYes X.here hx rfl (pc0 := 148) (pc' := 153) rfl (hb hby d3_148) rfl (feq hc).2 (by decide) (by decide) ?_
    exact b3_153 X hx hZ hw hby hown v0 hret hr
def F3_142 : Int32 := (1 : Int32)
theorem b3_142 {p : Program} {l : Launch} {e : Env} {R : Room} {s : State} {m : MethodId} {args : Array Value} {below : List Frame} {meth : Method} {c : Code} {T : State} {locs : List Loc} {cells slots : Nat} {Z : State} {a0 : Array Value} (X : Stand p l e R s m args below meth c T locs cells slots) (hx : p.tables.exec = Jvm.exec) (hZ : Z.Warmed39 s.vm) (hw : ∀ d ∈ tables_1, d.before a0 Z = true) (hby : c.code = method_3_code) (hown : s.vm.findClass "shapewright/NameCharactersIsPartPinLaw" = some m.cls) (v0 : Int32) (hret : meth.sig.returnType = some .boolean) {fs : List Frame} (hr : ∀ (f : JFrame) (acts : List Action), f.method = m → f.locked = none → f.entered = [] → (doReturn e (T.setTop f) acts (some (.int F3_142))).1 = T.setFrames fs) : Steps p.tables e below (T.setTop (mkF m 142 #[.val (.int v0)] [])) (T.setFrames fs) := by
  show Steps p.tables e below (T.setTop (mkF m 142 #[.val (.int v0)] [])) _
  refine XS.iconst X.here hx rfl (hb hby d3_142) ?_
  show Steps p.tables e below (T.setTop (mkF m 143 #[.val (.int v0)] [(.int (1 : Int32))])) _
  rw [show F3_142 = nar .boolean (1 : Int32) from rfl] at hr
  exact retN X hx (t := .boolean) hret (by simp) (hb hby d3_143) hr
def F3_135 (v0 : Int32) : Int32 := if (893 : Int32) < v0 then (F3_144 v0) else F3_142
theorem b3_135 {p : Program} {l : Launch} {e : Env} {R : Room} {s : State} {m : MethodId} {args : Array Value} {below : List Frame} {meth : Method} {c : Code} {T : State} {locs : List Loc} {cells slots : Nat} {Z : State} {a0 : Array Value} (X : Stand p l e R s m args below meth c T locs cells slots) (hx : p.tables.exec = Jvm.exec) (hZ : Z.Warmed39 s.vm) (hw : ∀ d ∈ tables_1, d.before a0 Z = true) (hby : c.code = method_3_code) (hown : s.vm.findClass "shapewright/NameCharactersIsPartPinLaw" = some m.cls) (v0 : Int32) (hret : meth.sig.returnType = some .boolean) {fs : List Frame} (hr : ∀ (f : JFrame) (acts : List Action), f.method = m → f.locked = none → f.entered = [] → (doReturn e (T.setTop f) acts (some (.int (F3_135 v0)))).1 = T.setFrames fs) : Steps p.tables e below (T.setTop (mkF m 135 #[.val (.int v0)] [])) (T.setFrames fs) := by
  show Steps p.tables e below (T.setTop (mkF m 135 #[.val (.int v0)] [])) _
  refine XS.iloadN X.here hx rfl (hb hby d3_135) rfl ?_
  show Steps p.tables e below (T.setTop (mkF m 136 #[.val (.int v0)] [(.int v0)])) _
  refine XS.sipush X.here hx rfl (hb hby d3_136) ?_
  show Steps p.tables e below (T.setTop (mkF m 139 #[.val (.int v0)] [(.int (893 : Int32)), (.int v0)])) _
  by_cases hc : (893 : Int32) < v0
  · rw [show (F3_135 v0) = (F3_144 v0) from if_pos hc] at hr
    refine XS.icmpYes X.here hx rfl (pc0 := 139) (pc' := 144) rfl (hb hby d3_139) rfl (tlt hc).2.2.1 (by decide) (by decide) ?_
    exact b3_144 X hx hZ hw hby hown v0 hret hr
  · rw [show (F3_135 v0) = F3_142 from if_neg hc] at hr
    refine XS.icmpNo X.here hx rfl (hb hby d3_139) rfl (flt hc).2.2.1 ?_
    exact b3_142 X hx hZ hw hby hown v0 hret hr
def F3_133 : Int32 := (0 : Int32)
theorem b3_133 {p : Program} {l : Launch} {e : Env} {R : Room} {s : State} {m : MethodId} {args : Array Value} {below : List Frame} {meth : Method} {c : Code} {T : State} {locs : List Loc} {cells slots : Nat} {Z : State} {a0 : Array Value} (X : Stand p l e R s m args below meth c T locs cells slots) (hx : p.tables.exec = Jvm.exec) (hZ : Z.Warmed39 s.vm) (hw : ∀ d ∈ tables_1, d.before a0 Z = true) (hby : c.code = method_3_code) (hown : s.vm.findClass "shapewright/NameCharactersIsPartPinLaw" = some m.cls) (v0 : Int32) (hret : meth.sig.returnType = some .boolean) {fs : List Frame} (hr : ∀ (f : JFrame) (acts : List Action), f.method = m → f.locked = none → f.entered = [] → (doReturn e (T.setTop f) acts (some (.int F3_133))).1 = T.setFrames fs) : Steps p.tables e below (T.setTop (mkF m 133 #[.val (.int v0)] [])) (T.setFrames fs) := by
  show Steps p.tables e below (T.setTop (mkF m 133 #[.val (.int v0)] [])) _
  refine XS.iconst X.here hx rfl (hb hby d3_133) ?_
  show Steps p.tables e below (T.setTop (mkF m 134 #[.val (.int v0)] [(.int (0 : Int32))])) _
  rw [show F3_133 = nar .boolean (0 : Int32) from rfl] at hr
  exact retN X hx (t := .boolean) hret (by simp) (hb hby d3_134) hr
def F3_126 (v0 : Int32) : Int32 := if v0 = (247 : Int32) then F3_133 else (F3_135 v0)
theorem b3_126 {p : Program} {l : Launch} {e : Env} {R : Room} {s : State} {m : MethodId} {args : Array Value} {below : List Frame} {meth : Method} {c : Code} {T : State} {locs : List Loc} {cells slots : Nat} {Z : State} {a0 : Array Value} (X : Stand p l e R s m args below meth c T locs cells slots) (hx : p.tables.exec = Jvm.exec) (hZ : Z.Warmed39 s.vm) (hw : ∀ d ∈ tables_1, d.before a0 Z = true) (hby : c.code = method_3_code) (hown : s.vm.findClass "shapewright/NameCharactersIsPartPinLaw" = some m.cls) (v0 : Int32) (hret : meth.sig.returnType = some .boolean) {fs : List Frame} (hr : ∀ (f : JFrame) (acts : List Action), f.method = m → f.locked = none → f.entered = [] → (doReturn e (T.setTop f) acts (some (.int (F3_126 v0)))).1 = T.setFrames fs) : Steps p.tables e below (T.setTop (mkF m 126 #[.val (.int v0)] [])) (T.setFrames fs) := by
  show Steps p.tables e below (T.setTop (mkF m 126 #[.val (.int v0)] [])) _
  refine XS.iloadN X.here hx rfl (hb hby d3_126) rfl ?_
  show Steps p.tables e below (T.setTop (mkF m 127 #[.val (.int v0)] [(.int v0)])) _
  refine XS.sipush X.here hx rfl (hb hby d3_127) ?_
  show Steps p.tables e below (T.setTop (mkF m 130 #[.val (.int v0)] [(.int (247 : Int32)), (.int v0)])) _
  by_cases hc : v0 = (247 : Int32)
  · rw [show (F3_126 v0) = F3_133 from if_pos hc] at hr
    refine XS.icmpNo X.here hx rfl (hb hby d3_130) rfl (teq hc).2 ?_
    exact b3_133 X hx hZ hw hby hown v0 hret hr
  · rw [show (F3_126 v0) = (F3_135 v0) from if_neg hc] at hr
    refine XS.icmpYes X.here hx rfl (pc0 := 130) (pc' := 135) rfl (hb hby d3_130) rfl (feq hc).2 (by decide) (by decide) ?_
    exact b3_135 X hx hZ hw hby hown v0 hret hr
def F3_124 : Int32 := (1 : Int32)
theorem b3_124 {p : Program} {l : Launch} {e : Env} {R : Room} {s : State} {m : MethodId} {args : Array Value} {below : List Frame} {meth : Method} {c : Code} {T : State} {locs : List Loc} {cells slots : Nat} {Z : State} {a0 : Array Value} (X : Stand p l e R s m args below meth c T locs cells slots) (hx : p.tables.exec = Jvm.exec) (hZ : Z.Warmed39 s.vm) (hw : ∀ d ∈ tables_1, d.before a0 Z = true) (hby : c.code = method_3_code) (hown : s.vm.findClass "shapewright/NameCharactersIsPartPinLaw" = some m.cls) (v0 : Int32) (hret : meth.sig.returnType = some .boolean) {fs : List Frame} (hr : ∀ (f : JFrame) (acts : List Action), f.method = m → f.locked = none → f.entered = [] → (doReturn e (T.setTop f) acts (some (.int F3_124))).1 = T.setFrames fs) : Steps p.tables e below (T.setTop (mkF m 124 #[.val (.int v0)] [])) (T.setFrames fs) := by
  show Steps p.tables e below (T.setTop (mkF m 124 #[.val (.int v0)] [])) _
  refine XS.iconst X.here hx rfl (hb hby d3_124) ?_
  show Steps p.tables e below (T.setTop (mkF m 125 #[.val (.int v0)] [(.int (1 : Int32))])) _
  rw [show F3_124 = nar .boolean (1 : Int32) from rfl] at hr
  exact retN X hx (t := .boolean) hret (by simp) (hb hby d3_125) hr
def F3_117 (v0 : Int32) : Int32 := if (246 : Int32) < v0 then (F3_126 v0) else F3_124
theorem b3_117 {p : Program} {l : Launch} {e : Env} {R : Room} {s : State} {m : MethodId} {args : Array Value} {below : List Frame} {meth : Method} {c : Code} {T : State} {locs : List Loc} {cells slots : Nat} {Z : State} {a0 : Array Value} (X : Stand p l e R s m args below meth c T locs cells slots) (hx : p.tables.exec = Jvm.exec) (hZ : Z.Warmed39 s.vm) (hw : ∀ d ∈ tables_1, d.before a0 Z = true) (hby : c.code = method_3_code) (hown : s.vm.findClass "shapewright/NameCharactersIsPartPinLaw" = some m.cls) (v0 : Int32) (hret : meth.sig.returnType = some .boolean) {fs : List Frame} (hr : ∀ (f : JFrame) (acts : List Action), f.method = m → f.locked = none → f.entered = [] → (doReturn e (T.setTop f) acts (some (.int (F3_117 v0)))).1 = T.setFrames fs) : Steps p.tables e below (T.setTop (mkF m 117 #[.val (.int v0)] [])) (T.setFrames fs) := by
  show Steps p.tables e below (T.setTop (mkF m 117 #[.val (.int v0)] [])) _
  refine XS.iloadN X.here hx rfl (hb hby d3_117) rfl ?_
  show Steps p.tables e below (T.setTop (mkF m 118 #[.val (.int v0)] [(.int v0)])) _
  refine XS.sipush X.here hx rfl (hb hby d3_118) ?_
  show Steps p.tables e below (T.setTop (mkF m 121 #[.val (.int v0)] [(.int (246 : Int32)), (.int v0)])) _
  by_cases hc : (246 : Int32) < v0
  · rw [show (F3_117 v0) = (F3_126 v0) from if_pos hc] at hr
    refine XS.icmpYes X.here hx rfl (pc0 := 121) (pc' := 126) rfl (hb hby d3_121) rfl (tlt hc).2.2.1 (by decide) (by decide) ?_
    exact b3_126 X hx hZ hw hby hown v0 hret hr
  · rw [show (F3_117 v0) = F3_124 from if_neg hc] at hr
    refine XS.icmpNo X.here hx rfl (hb hby d3_121) rfl (flt hc).2.2.1 ?_
    exact b3_124 X hx hZ hw hby hown v0 hret hr
def F3_115 : Int32 := (0 : Int32)
theorem b3_115 {p : Program} {l : Launch} {e : Env} {R : Room} {s : State} {m : MethodId} {args : Array Value} {below : List Frame} {meth : Method} {c : Code} {T : State} {locs : List Loc} {cells slots : Nat} {Z : State} {a0 : Array Value} (X : Stand p l e R s m args below meth c T locs cells slots) (hx : p.tables.exec = Jvm.exec) (hZ : Z.Warmed39 s.vm) (hw : ∀ d ∈ tables_1, d.before a0 Z = true) (hby : c.code = method_3_code) (hown : s.vm.findClass "shapewright/NameCharactersIsPartPinLaw" = some m.cls) (v0 : Int32) (hret : meth.sig.returnType = some .boolean) {fs : List Frame} (hr : ∀ (f : JFrame) (acts : List Action), f.method = m → f.locked = none → f.entered = [] → (doReturn e (T.setTop f) acts (some (.int F3_115))).1 = T.setFrames fs) : Steps p.tables e below (T.setTop (mkF m 115 #[.val (.int v0)] [])) (T.setFrames fs) := by
  show Steps p.tables e below (T.setTop (mkF m 115 #[.val (.int v0)] [])) _
  refine XS.iconst X.here hx rfl (hb hby d3_115) ?_
  show Steps p.tables e below (T.setTop (mkF m 116 #[.val (.int v0)] [(.int (0 : Int32))])) _
  rw [show F3_115 = nar .boolean (0 : Int32) from rfl] at hr
  exact retN X hx (t := .boolean) hret (by simp) (hb hby d3_116) hr
def F3_108 (v0 : Int32) : Int32 := if v0 = (215 : Int32) then F3_115 else (F3_117 v0)
theorem b3_108 {p : Program} {l : Launch} {e : Env} {R : Room} {s : State} {m : MethodId} {args : Array Value} {below : List Frame} {meth : Method} {c : Code} {T : State} {locs : List Loc} {cells slots : Nat} {Z : State} {a0 : Array Value} (X : Stand p l e R s m args below meth c T locs cells slots) (hx : p.tables.exec = Jvm.exec) (hZ : Z.Warmed39 s.vm) (hw : ∀ d ∈ tables_1, d.before a0 Z = true) (hby : c.code = method_3_code) (hown : s.vm.findClass "shapewright/NameCharactersIsPartPinLaw" = some m.cls) (v0 : Int32) (hret : meth.sig.returnType = some .boolean) {fs : List Frame} (hr : ∀ (f : JFrame) (acts : List Action), f.method = m → f.locked = none → f.entered = [] → (doReturn e (T.setTop f) acts (some (.int (F3_108 v0)))).1 = T.setFrames fs) : Steps p.tables e below (T.setTop (mkF m 108 #[.val (.int v0)] [])) (T.setFrames fs) := by
  show Steps p.tables e below (T.setTop (mkF m 108 #[.val (.int v0)] [])) _
  refine XS.iloadN X.here hx rfl (hb hby d3_108) rfl ?_
  show Steps p.tables e below (T.setTop (mkF m 109 #[.val (.int v0)] [(.int v0)])) _
  refine XS.sipush X.here hx rfl (hb hby d3_109) ?_
  show Steps p.tables e below (T.setTop (mkF m 112 #[.val (.int v0)] [(.int (215 : Int32)), (.int v0)])) _
  by_cases hc : v0 = (215 : Int32)
  · rw [show (F3_108 v0) = F3_115 from if_pos hc] at hr
    refine XS.icmpNo X.here hx rfl (hb hby d3_112) rfl (teq hc).2 ?_
    exact b3_115 X hx hZ hw hby hown v0 hret hr
  · rw [show (F3_108 v0) = (F3_117 v0) from if_neg hc] at hr
    refine XS.icmpYes X.here hx rfl (pc0 := 112) (pc' := 117) rfl (hb hby d3_112) rfl (feq hc).2 (by decide) (by decide) ?_
    exact b3_117 X hx hZ hw hby hown v0 hret hr
def F3_106 : Int32 := (1 : Int32)
theorem b3_106 {p : Program} {l : Launch} {e : Env} {R : Room} {s : State} {m : MethodId} {args : Array Value} {below : List Frame} {meth : Method} {c : Code} {T : State} {locs : List Loc} {cells slots : Nat} {Z : State} {a0 : Array Value} (X : Stand p l e R s m args below meth c T locs cells slots) (hx : p.tables.exec = Jvm.exec) (hZ : Z.Warmed39 s.vm) (hw : ∀ d ∈ tables_1, d.before a0 Z = true) (hby : c.code = method_3_code) (hown : s.vm.findClass "shapewright/NameCharactersIsPartPinLaw" = some m.cls) (v0 : Int32) (hret : meth.sig.returnType = some .boolean) {fs : List Frame} (hr : ∀ (f : JFrame) (acts : List Action), f.method = m → f.locked = none → f.entered = [] → (doReturn e (T.setTop f) acts (some (.int F3_106))).1 = T.setFrames fs) : Steps p.tables e below (T.setTop (mkF m 106 #[.val (.int v0)] [])) (T.setFrames fs) := by
  show Steps p.tables e below (T.setTop (mkF m 106 #[.val (.int v0)] [])) _
  refine XS.iconst X.here hx rfl (hb hby d3_106) ?_
  show Steps p.tables e below (T.setTop (mkF m 107 #[.val (.int v0)] [(.int (1 : Int32))])) _
  rw [show F3_106 = nar .boolean (1 : Int32) from rfl] at hr
  exact retN X hx (t := .boolean) hret (by simp) (hb hby d3_107) hr
def F3_99 (v0 : Int32) : Int32 := if (214 : Int32) < v0 then (F3_108 v0) else F3_106
theorem b3_99 {p : Program} {l : Launch} {e : Env} {R : Room} {s : State} {m : MethodId} {args : Array Value} {below : List Frame} {meth : Method} {c : Code} {T : State} {locs : List Loc} {cells slots : Nat} {Z : State} {a0 : Array Value} (X : Stand p l e R s m args below meth c T locs cells slots) (hx : p.tables.exec = Jvm.exec) (hZ : Z.Warmed39 s.vm) (hw : ∀ d ∈ tables_1, d.before a0 Z = true) (hby : c.code = method_3_code) (hown : s.vm.findClass "shapewright/NameCharactersIsPartPinLaw" = some m.cls) (v0 : Int32) (hret : meth.sig.returnType = some .boolean) {fs : List Frame} (hr : ∀ (f : JFrame) (acts : List Action), f.method = m → f.locked = none → f.entered = [] → (doReturn e (T.setTop f) acts (some (.int (F3_99 v0)))).1 = T.setFrames fs) : Steps p.tables e below (T.setTop (mkF m 99 #[.val (.int v0)] [])) (T.setFrames fs) := by
  show Steps p.tables e below (T.setTop (mkF m 99 #[.val (.int v0)] [])) _
  refine XS.iloadN X.here hx rfl (hb hby d3_99) rfl ?_
  show Steps p.tables e below (T.setTop (mkF m 100 #[.val (.int v0)] [(.int v0)])) _
  refine XS.sipush X.here hx rfl (hb hby d3_100) ?_
  show Steps p.tables e below (T.setTop (mkF m 103 #[.val (.int v0)] [(.int (214 : Int32)), (.int v0)])) _
  by_cases hc : (214 : Int32) < v0
  · rw [show (F3_99 v0) = (F3_108 v0) from if_pos hc] at hr
    refine XS.icmpYes X.here hx rfl (pc0 := 103) (pc' := 108) rfl (hb hby d3_103) rfl (tlt hc).2.2.1 (by decide) (by decide) ?_
    exact b3_108 X hx hZ hw hby hown v0 hret hr
  · rw [show (F3_99 v0) = F3_106 from if_neg hc] at hr
    refine XS.icmpNo X.here hx rfl (hb hby d3_103) rfl (flt hc).2.2.1 ?_
    exact b3_106 X hx hZ hw hby hown v0 hret hr
def F3_97 : Int32 := (0 : Int32)
theorem b3_97 {p : Program} {l : Launch} {e : Env} {R : Room} {s : State} {m : MethodId} {args : Array Value} {below : List Frame} {meth : Method} {c : Code} {T : State} {locs : List Loc} {cells slots : Nat} {Z : State} {a0 : Array Value} (X : Stand p l e R s m args below meth c T locs cells slots) (hx : p.tables.exec = Jvm.exec) (hZ : Z.Warmed39 s.vm) (hw : ∀ d ∈ tables_1, d.before a0 Z = true) (hby : c.code = method_3_code) (hown : s.vm.findClass "shapewright/NameCharactersIsPartPinLaw" = some m.cls) (v0 : Int32) (hret : meth.sig.returnType = some .boolean) {fs : List Frame} (hr : ∀ (f : JFrame) (acts : List Action), f.method = m → f.locked = none → f.entered = [] → (doReturn e (T.setTop f) acts (some (.int F3_97))).1 = T.setFrames fs) : Steps p.tables e below (T.setTop (mkF m 97 #[.val (.int v0)] [])) (T.setFrames fs) := by
  show Steps p.tables e below (T.setTop (mkF m 97 #[.val (.int v0)] [])) _
  refine XS.iconst X.here hx rfl (hb hby d3_97) ?_
  show Steps p.tables e below (T.setTop (mkF m 98 #[.val (.int v0)] [(.int (0 : Int32))])) _
  rw [show F3_97 = nar .boolean (0 : Int32) from rfl] at hr
  exact retN X hx (t := .boolean) hret (by simp) (hb hby d3_98) hr
def F3_90 (v0 : Int32) : Int32 := if v0 < (192 : Int32) then F3_97 else (F3_99 v0)
theorem b3_90 {p : Program} {l : Launch} {e : Env} {R : Room} {s : State} {m : MethodId} {args : Array Value} {below : List Frame} {meth : Method} {c : Code} {T : State} {locs : List Loc} {cells slots : Nat} {Z : State} {a0 : Array Value} (X : Stand p l e R s m args below meth c T locs cells slots) (hx : p.tables.exec = Jvm.exec) (hZ : Z.Warmed39 s.vm) (hw : ∀ d ∈ tables_1, d.before a0 Z = true) (hby : c.code = method_3_code) (hown : s.vm.findClass "shapewright/NameCharactersIsPartPinLaw" = some m.cls) (v0 : Int32) (hret : meth.sig.returnType = some .boolean) {fs : List Frame} (hr : ∀ (f : JFrame) (acts : List Action), f.method = m → f.locked = none → f.entered = [] → (doReturn e (T.setTop f) acts (some (.int (F3_90 v0)))).1 = T.setFrames fs) : Steps p.tables e below (T.setTop (mkF m 90 #[.val (.int v0)] [])) (T.setFrames fs) := by
  show Steps p.tables e below (T.setTop (mkF m 90 #[.val (.int v0)] [])) _
  refine XS.iloadN X.here hx rfl (hb hby d3_90) rfl ?_
  show Steps p.tables e below (T.setTop (mkF m 91 #[.val (.int v0)] [(.int v0)])) _
  refine XS.sipush X.here hx rfl (hb hby d3_91) ?_
  show Steps p.tables e below (T.setTop (mkF m 94 #[.val (.int v0)] [(.int (192 : Int32)), (.int v0)])) _
  by_cases hc : v0 < (192 : Int32)
  · rw [show (F3_90 v0) = F3_97 from if_pos hc] at hr
    refine XS.icmpNo X.here hx rfl (hb hby d3_94) rfl (tlt hc).2.1 ?_
    exact b3_97 X hx hZ hw hby hown v0 hret hr
  · rw [show (F3_90 v0) = (F3_99 v0) from if_neg hc] at hr
    refine XS.icmpYes X.here hx rfl (pc0 := 94) (pc' := 99) rfl (hb hby d3_94) rfl (flt hc).2.1 (by decide) (by decide) ?_
    exact b3_99 X hx hZ hw hby hown v0 hret hr
def F3_88 : Int32 := (1 : Int32)
theorem b3_88 {p : Program} {l : Launch} {e : Env} {R : Room} {s : State} {m : MethodId} {args : Array Value} {below : List Frame} {meth : Method} {c : Code} {T : State} {locs : List Loc} {cells slots : Nat} {Z : State} {a0 : Array Value} (X : Stand p l e R s m args below meth c T locs cells slots) (hx : p.tables.exec = Jvm.exec) (hZ : Z.Warmed39 s.vm) (hw : ∀ d ∈ tables_1, d.before a0 Z = true) (hby : c.code = method_3_code) (hown : s.vm.findClass "shapewright/NameCharactersIsPartPinLaw" = some m.cls) (v0 : Int32) (hret : meth.sig.returnType = some .boolean) {fs : List Frame} (hr : ∀ (f : JFrame) (acts : List Action), f.method = m → f.locked = none → f.entered = [] → (doReturn e (T.setTop f) acts (some (.int F3_88))).1 = T.setFrames fs) : Steps p.tables e below (T.setTop (mkF m 88 #[.val (.int v0)] [])) (T.setFrames fs) := by
  show Steps p.tables e below (T.setTop (mkF m 88 #[.val (.int v0)] [])) _
  refine XS.iconst X.here hx rfl (hb hby d3_88) ?_
  show Steps p.tables e below (T.setTop (mkF m 89 #[.val (.int v0)] [(.int (1 : Int32))])) _
  rw [show F3_88 = nar .boolean (1 : Int32) from rfl] at hr
  exact retN X hx (t := .boolean) hret (by simp) (hb hby d3_89) hr
def F3_81 (v0 : Int32) : Int32 := if v0 = (183 : Int32) then F3_88 else (F3_90 v0)
theorem b3_81 {p : Program} {l : Launch} {e : Env} {R : Room} {s : State} {m : MethodId} {args : Array Value} {below : List Frame} {meth : Method} {c : Code} {T : State} {locs : List Loc} {cells slots : Nat} {Z : State} {a0 : Array Value} (X : Stand p l e R s m args below meth c T locs cells slots) (hx : p.tables.exec = Jvm.exec) (hZ : Z.Warmed39 s.vm) (hw : ∀ d ∈ tables_1, d.before a0 Z = true) (hby : c.code = method_3_code) (hown : s.vm.findClass "shapewright/NameCharactersIsPartPinLaw" = some m.cls) (v0 : Int32) (hret : meth.sig.returnType = some .boolean) {fs : List Frame} (hr : ∀ (f : JFrame) (acts : List Action), f.method = m → f.locked = none → f.entered = [] → (doReturn e (T.setTop f) acts (some (.int (F3_81 v0)))).1 = T.setFrames fs) : Steps p.tables e below (T.setTop (mkF m 81 #[.val (.int v0)] [])) (T.setFrames fs) := by
  show Steps p.tables e below (T.setTop (mkF m 81 #[.val (.int v0)] [])) _
  refine XS.iloadN X.here hx rfl (hb hby d3_81) rfl ?_
  show Steps p.tables e below (T.setTop (mkF m 82 #[.val (.int v0)] [(.int v0)])) _
  refine XS.sipush X.here hx rfl (hb hby d3_82) ?_
  show Steps p.tables e below (T.setTop (mkF m 85 #[.val (.int v0)] [(.int (183 : Int32)), (.int v0)])) _
  by_cases hc : v0 = (183 : Int32)
  · rw [show (F3_81 v0) = F3_88 from if_pos hc] at hr
    refine XS.icmpNo X.here hx rfl (hb hby d3_85) rfl (teq hc).2 ?_
    exact b3_88 X hx hZ hw hby hown v0 hret hr
  · rw [show (F3_81 v0) = (F3_90 v0) from if_neg hc] at hr
    refine XS.icmpYes X.here hx rfl (pc0 := 85) (pc' := 90) rfl (hb hby d3_85) rfl (feq hc).2 (by decide) (by decide) ?_
    exact b3_90 X hx hZ hw hby hown v0 hret hr
def F3_79 : Int32 := (0 : Int32)
theorem b3_79 {p : Program} {l : Launch} {e : Env} {R : Room} {s : State} {m : MethodId} {args : Array Value} {below : List Frame} {meth : Method} {c : Code} {T : State} {locs : List Loc} {cells slots : Nat} {Z : State} {a0 : Array Value} (X : Stand p l e R s m args below meth c T locs cells slots) (hx : p.tables.exec = Jvm.exec) (hZ : Z.Warmed39 s.vm) (hw : ∀ d ∈ tables_1, d.before a0 Z = true) (hby : c.code = method_3_code) (hown : s.vm.findClass "shapewright/NameCharactersIsPartPinLaw" = some m.cls) (v0 : Int32) (hret : meth.sig.returnType = some .boolean) {fs : List Frame} (hr : ∀ (f : JFrame) (acts : List Action), f.method = m → f.locked = none → f.entered = [] → (doReturn e (T.setTop f) acts (some (.int F3_79))).1 = T.setFrames fs) : Steps p.tables e below (T.setTop (mkF m 79 #[.val (.int v0)] [])) (T.setFrames fs) := by
  show Steps p.tables e below (T.setTop (mkF m 79 #[.val (.int v0)] [])) _
  refine XS.iconst X.here hx rfl (hb hby d3_79) ?_
  show Steps p.tables e below (T.setTop (mkF m 80 #[.val (.int v0)] [(.int (0 : Int32))])) _
  rw [show F3_79 = nar .boolean (0 : Int32) from rfl] at hr
  exact retN X hx (t := .boolean) hret (by simp) (hb hby d3_80) hr
def F3_72 (v0 : Int32) : Int32 := if v0 < (183 : Int32) then F3_79 else (F3_81 v0)
theorem b3_72 {p : Program} {l : Launch} {e : Env} {R : Room} {s : State} {m : MethodId} {args : Array Value} {below : List Frame} {meth : Method} {c : Code} {T : State} {locs : List Loc} {cells slots : Nat} {Z : State} {a0 : Array Value} (X : Stand p l e R s m args below meth c T locs cells slots) (hx : p.tables.exec = Jvm.exec) (hZ : Z.Warmed39 s.vm) (hw : ∀ d ∈ tables_1, d.before a0 Z = true) (hby : c.code = method_3_code) (hown : s.vm.findClass "shapewright/NameCharactersIsPartPinLaw" = some m.cls) (v0 : Int32) (hret : meth.sig.returnType = some .boolean) {fs : List Frame} (hr : ∀ (f : JFrame) (acts : List Action), f.method = m → f.locked = none → f.entered = [] → (doReturn e (T.setTop f) acts (some (.int (F3_72 v0)))).1 = T.setFrames fs) : Steps p.tables e below (T.setTop (mkF m 72 #[.val (.int v0)] [])) (T.setFrames fs) := by
  show Steps p.tables e below (T.setTop (mkF m 72 #[.val (.int v0)] [])) _
  refine XS.iloadN X.here hx rfl (hb hby d3_72) rfl ?_
  show Steps p.tables e below (T.setTop (mkF m 73 #[.val (.int v0)] [(.int v0)])) _
  refine XS.sipush X.here hx rfl (hb hby d3_73) ?_
  show Steps p.tables e below (T.setTop (mkF m 76 #[.val (.int v0)] [(.int (183 : Int32)), (.int v0)])) _
  by_cases hc : v0 < (183 : Int32)
  · rw [show (F3_72 v0) = F3_79 from if_pos hc] at hr
    refine XS.icmpNo X.here hx rfl (hb hby d3_76) rfl (tlt hc).2.1 ?_
    exact b3_79 X hx hZ hw hby hown v0 hret hr
  · rw [show (F3_72 v0) = (F3_81 v0) from if_neg hc] at hr
    refine XS.icmpYes X.here hx rfl (pc0 := 76) (pc' := 81) rfl (hb hby d3_76) rfl (flt hc).2.1 (by decide) (by decide) ?_
    exact b3_81 X hx hZ hw hby hown v0 hret hr
def F3_70 : Int32 := (1 : Int32)
theorem b3_70 {p : Program} {l : Launch} {e : Env} {R : Room} {s : State} {m : MethodId} {args : Array Value} {below : List Frame} {meth : Method} {c : Code} {T : State} {locs : List Loc} {cells slots : Nat} {Z : State} {a0 : Array Value} (X : Stand p l e R s m args below meth c T locs cells slots) (hx : p.tables.exec = Jvm.exec) (hZ : Z.Warmed39 s.vm) (hw : ∀ d ∈ tables_1, d.before a0 Z = true) (hby : c.code = method_3_code) (hown : s.vm.findClass "shapewright/NameCharactersIsPartPinLaw" = some m.cls) (v0 : Int32) (hret : meth.sig.returnType = some .boolean) {fs : List Frame} (hr : ∀ (f : JFrame) (acts : List Action), f.method = m → f.locked = none → f.entered = [] → (doReturn e (T.setTop f) acts (some (.int F3_70))).1 = T.setFrames fs) : Steps p.tables e below (T.setTop (mkF m 70 #[.val (.int v0)] [])) (T.setFrames fs) := by
  show Steps p.tables e below (T.setTop (mkF m 70 #[.val (.int v0)] [])) _
  refine XS.iconst X.here hx rfl (hb hby d3_70) ?_
  show Steps p.tables e below (T.setTop (mkF m 71 #[.val (.int v0)] [(.int (1 : Int32))])) _
  rw [show F3_70 = nar .boolean (1 : Int32) from rfl] at hr
  exact retN X hx (t := .boolean) hret (by simp) (hb hby d3_71) hr
def F3_64 (v0 : Int32) : Int32 := if (122 : Int32) < v0 then (F3_72 v0) else F3_70
theorem b3_64 {p : Program} {l : Launch} {e : Env} {R : Room} {s : State} {m : MethodId} {args : Array Value} {below : List Frame} {meth : Method} {c : Code} {T : State} {locs : List Loc} {cells slots : Nat} {Z : State} {a0 : Array Value} (X : Stand p l e R s m args below meth c T locs cells slots) (hx : p.tables.exec = Jvm.exec) (hZ : Z.Warmed39 s.vm) (hw : ∀ d ∈ tables_1, d.before a0 Z = true) (hby : c.code = method_3_code) (hown : s.vm.findClass "shapewright/NameCharactersIsPartPinLaw" = some m.cls) (v0 : Int32) (hret : meth.sig.returnType = some .boolean) {fs : List Frame} (hr : ∀ (f : JFrame) (acts : List Action), f.method = m → f.locked = none → f.entered = [] → (doReturn e (T.setTop f) acts (some (.int (F3_64 v0)))).1 = T.setFrames fs) : Steps p.tables e below (T.setTop (mkF m 64 #[.val (.int v0)] [])) (T.setFrames fs) := by
  show Steps p.tables e below (T.setTop (mkF m 64 #[.val (.int v0)] [])) _
  refine XS.iloadN X.here hx rfl (hb hby d3_64) rfl ?_
  show Steps p.tables e below (T.setTop (mkF m 65 #[.val (.int v0)] [(.int v0)])) _
  refine XS.bipush X.here hx rfl (hb hby d3_65) ?_
  show Steps p.tables e below (T.setTop (mkF m 67 #[.val (.int v0)] [(.int (122 : Int32)), (.int v0)])) _
  by_cases hc : (122 : Int32) < v0
  · rw [show (F3_64 v0) = (F3_72 v0) from if_pos hc] at hr
    refine XS.icmpYes X.here hx rfl (pc0 := 67) (pc' := 72) rfl (hb hby d3_67) rfl (tlt hc).2.2.1 (by decide) (by decide) ?_
    exact b3_72 X hx hZ hw hby hown v0 hret hr
  · rw [show (F3_64 v0) = F3_70 from if_neg hc] at hr
    refine XS.icmpNo X.here hx rfl (hb hby d3_67) rfl (flt hc).2.2.1 ?_
    exact b3_70 X hx hZ hw hby hown v0 hret hr
def F3_62 : Int32 := (0 : Int32)
theorem b3_62 {p : Program} {l : Launch} {e : Env} {R : Room} {s : State} {m : MethodId} {args : Array Value} {below : List Frame} {meth : Method} {c : Code} {T : State} {locs : List Loc} {cells slots : Nat} {Z : State} {a0 : Array Value} (X : Stand p l e R s m args below meth c T locs cells slots) (hx : p.tables.exec = Jvm.exec) (hZ : Z.Warmed39 s.vm) (hw : ∀ d ∈ tables_1, d.before a0 Z = true) (hby : c.code = method_3_code) (hown : s.vm.findClass "shapewright/NameCharactersIsPartPinLaw" = some m.cls) (v0 : Int32) (hret : meth.sig.returnType = some .boolean) {fs : List Frame} (hr : ∀ (f : JFrame) (acts : List Action), f.method = m → f.locked = none → f.entered = [] → (doReturn e (T.setTop f) acts (some (.int F3_62))).1 = T.setFrames fs) : Steps p.tables e below (T.setTop (mkF m 62 #[.val (.int v0)] [])) (T.setFrames fs) := by
  show Steps p.tables e below (T.setTop (mkF m 62 #[.val (.int v0)] [])) _
  refine XS.iconst X.here hx rfl (hb hby d3_62) ?_
  show Steps p.tables e below (T.setTop (mkF m 63 #[.val (.int v0)] [(.int (0 : Int32))])) _
  rw [show F3_62 = nar .boolean (0 : Int32) from rfl] at hr
  exact retN X hx (t := .boolean) hret (by simp) (hb hby d3_63) hr
def F3_56 (v0 : Int32) : Int32 := if v0 < (97 : Int32) then F3_62 else (F3_64 v0)
theorem b3_56 {p : Program} {l : Launch} {e : Env} {R : Room} {s : State} {m : MethodId} {args : Array Value} {below : List Frame} {meth : Method} {c : Code} {T : State} {locs : List Loc} {cells slots : Nat} {Z : State} {a0 : Array Value} (X : Stand p l e R s m args below meth c T locs cells slots) (hx : p.tables.exec = Jvm.exec) (hZ : Z.Warmed39 s.vm) (hw : ∀ d ∈ tables_1, d.before a0 Z = true) (hby : c.code = method_3_code) (hown : s.vm.findClass "shapewright/NameCharactersIsPartPinLaw" = some m.cls) (v0 : Int32) (hret : meth.sig.returnType = some .boolean) {fs : List Frame} (hr : ∀ (f : JFrame) (acts : List Action), f.method = m → f.locked = none → f.entered = [] → (doReturn e (T.setTop f) acts (some (.int (F3_56 v0)))).1 = T.setFrames fs) : Steps p.tables e below (T.setTop (mkF m 56 #[.val (.int v0)] [])) (T.setFrames fs) := by
  show Steps p.tables e below (T.setTop (mkF m 56 #[.val (.int v0)] [])) _
  refine XS.iloadN X.here hx rfl (hb hby d3_56) rfl ?_
  show Steps p.tables e below (T.setTop (mkF m 57 #[.val (.int v0)] [(.int v0)])) _
  refine XS.bipush X.here hx rfl (hb hby d3_57) ?_
  show Steps p.tables e below (T.setTop (mkF m 59 #[.val (.int v0)] [(.int (97 : Int32)), (.int v0)])) _
  by_cases hc : v0 < (97 : Int32)
  · rw [show (F3_56 v0) = F3_62 from if_pos hc] at hr
    refine XS.icmpNo X.here hx rfl (hb hby d3_59) rfl (tlt hc).2.1 ?_
    exact b3_62 X hx hZ hw hby hown v0 hret hr
  · rw [show (F3_56 v0) = (F3_64 v0) from if_neg hc] at hr
    refine XS.icmpYes X.here hx rfl (pc0 := 59) (pc' := 64) rfl (hb hby d3_59) rfl (flt hc).2.1 (by decide) (by decide) ?_
    exact b3_64 X hx hZ hw hby hown v0 hret hr
def F3_54 : Int32 := (1 : Int32)
theorem b3_54 {p : Program} {l : Launch} {e : Env} {R : Room} {s : State} {m : MethodId} {args : Array Value} {below : List Frame} {meth : Method} {c : Code} {T : State} {locs : List Loc} {cells slots : Nat} {Z : State} {a0 : Array Value} (X : Stand p l e R s m args below meth c T locs cells slots) (hx : p.tables.exec = Jvm.exec) (hZ : Z.Warmed39 s.vm) (hw : ∀ d ∈ tables_1, d.before a0 Z = true) (hby : c.code = method_3_code) (hown : s.vm.findClass "shapewright/NameCharactersIsPartPinLaw" = some m.cls) (v0 : Int32) (hret : meth.sig.returnType = some .boolean) {fs : List Frame} (hr : ∀ (f : JFrame) (acts : List Action), f.method = m → f.locked = none → f.entered = [] → (doReturn e (T.setTop f) acts (some (.int F3_54))).1 = T.setFrames fs) : Steps p.tables e below (T.setTop (mkF m 54 #[.val (.int v0)] [])) (T.setFrames fs) := by
  show Steps p.tables e below (T.setTop (mkF m 54 #[.val (.int v0)] [])) _
  refine XS.iconst X.here hx rfl (hb hby d3_54) ?_
  show Steps p.tables e below (T.setTop (mkF m 55 #[.val (.int v0)] [(.int (1 : Int32))])) _
  rw [show F3_54 = nar .boolean (1 : Int32) from rfl] at hr
  exact retN X hx (t := .boolean) hret (by simp) (hb hby d3_55) hr
def F3_48 (v0 : Int32) : Int32 := if v0 = (95 : Int32) then F3_54 else (F3_56 v0)
theorem b3_48 {p : Program} {l : Launch} {e : Env} {R : Room} {s : State} {m : MethodId} {args : Array Value} {below : List Frame} {meth : Method} {c : Code} {T : State} {locs : List Loc} {cells slots : Nat} {Z : State} {a0 : Array Value} (X : Stand p l e R s m args below meth c T locs cells slots) (hx : p.tables.exec = Jvm.exec) (hZ : Z.Warmed39 s.vm) (hw : ∀ d ∈ tables_1, d.before a0 Z = true) (hby : c.code = method_3_code) (hown : s.vm.findClass "shapewright/NameCharactersIsPartPinLaw" = some m.cls) (v0 : Int32) (hret : meth.sig.returnType = some .boolean) {fs : List Frame} (hr : ∀ (f : JFrame) (acts : List Action), f.method = m → f.locked = none → f.entered = [] → (doReturn e (T.setTop f) acts (some (.int (F3_48 v0)))).1 = T.setFrames fs) : Steps p.tables e below (T.setTop (mkF m 48 #[.val (.int v0)] [])) (T.setFrames fs) := by
  show Steps p.tables e below (T.setTop (mkF m 48 #[.val (.int v0)] [])) _
  refine XS.iloadN X.here hx rfl (hb hby d3_48) rfl ?_
  show Steps p.tables e below (T.setTop (mkF m 49 #[.val (.int v0)] [(.int v0)])) _
  refine XS.bipush X.here hx rfl (hb hby d3_49) ?_
  show Steps p.tables e below (T.setTop (mkF m 51 #[.val (.int v0)] [(.int (95 : Int32)), (.int v0)])) _
  by_cases hc : v0 = (95 : Int32)
  · rw [show (F3_48 v0) = F3_54 from if_pos hc] at hr
    refine XS.icmpNo X.here hx rfl (hb hby d3_51) rfl (teq hc).2 ?_
    exact b3_54 X hx hZ hw hby hown v0 hret hr
  · rw [show (F3_48 v0) = (F3_56 v0) from if_neg hc] at hr
    refine XS.icmpYes X.here hx rfl (pc0 := 51) (pc' := 56) rfl (hb hby d3_51) rfl (feq hc).2 (by decide) (by decide) ?_
    exact b3_56 X hx hZ hw hby hown v0 hret hr
def F3_46 : Int32 := (1 : Int32)
theorem b3_46 {p : Program} {l : Launch} {e : Env} {R : Room} {s : State} {m : MethodId} {args : Array Value} {below : List Frame} {meth : Method} {c : Code} {T : State} {locs : List Loc} {cells slots : Nat} {Z : State} {a0 : Array Value} (X : Stand p l e R s m args below meth c T locs cells slots) (hx : p.tables.exec = Jvm.exec) (hZ : Z.Warmed39 s.vm) (hw : ∀ d ∈ tables_1, d.before a0 Z = true) (hby : c.code = method_3_code) (hown : s.vm.findClass "shapewright/NameCharactersIsPartPinLaw" = some m.cls) (v0 : Int32) (hret : meth.sig.returnType = some .boolean) {fs : List Frame} (hr : ∀ (f : JFrame) (acts : List Action), f.method = m → f.locked = none → f.entered = [] → (doReturn e (T.setTop f) acts (some (.int F3_46))).1 = T.setFrames fs) : Steps p.tables e below (T.setTop (mkF m 46 #[.val (.int v0)] [])) (T.setFrames fs) := by
  show Steps p.tables e below (T.setTop (mkF m 46 #[.val (.int v0)] [])) _
  refine XS.iconst X.here hx rfl (hb hby d3_46) ?_
  show Steps p.tables e below (T.setTop (mkF m 47 #[.val (.int v0)] [(.int (1 : Int32))])) _
  rw [show F3_46 = nar .boolean (1 : Int32) from rfl] at hr
  exact retN X hx (t := .boolean) hret (by simp) (hb hby d3_47) hr
def F3_40 (v0 : Int32) : Int32 := if (90 : Int32) < v0 then (F3_48 v0) else F3_46
theorem b3_40 {p : Program} {l : Launch} {e : Env} {R : Room} {s : State} {m : MethodId} {args : Array Value} {below : List Frame} {meth : Method} {c : Code} {T : State} {locs : List Loc} {cells slots : Nat} {Z : State} {a0 : Array Value} (X : Stand p l e R s m args below meth c T locs cells slots) (hx : p.tables.exec = Jvm.exec) (hZ : Z.Warmed39 s.vm) (hw : ∀ d ∈ tables_1, d.before a0 Z = true) (hby : c.code = method_3_code) (hown : s.vm.findClass "shapewright/NameCharactersIsPartPinLaw" = some m.cls) (v0 : Int32) (hret : meth.sig.returnType = some .boolean) {fs : List Frame} (hr : ∀ (f : JFrame) (acts : List Action), f.method = m → f.locked = none → f.entered = [] → (doReturn e (T.setTop f) acts (some (.int (F3_40 v0)))).1 = T.setFrames fs) : Steps p.tables e below (T.setTop (mkF m 40 #[.val (.int v0)] [])) (T.setFrames fs) := by
  show Steps p.tables e below (T.setTop (mkF m 40 #[.val (.int v0)] [])) _
  refine XS.iloadN X.here hx rfl (hb hby d3_40) rfl ?_
  show Steps p.tables e below (T.setTop (mkF m 41 #[.val (.int v0)] [(.int v0)])) _
  refine XS.bipush X.here hx rfl (hb hby d3_41) ?_
  show Steps p.tables e below (T.setTop (mkF m 43 #[.val (.int v0)] [(.int (90 : Int32)), (.int v0)])) _
  by_cases hc : (90 : Int32) < v0
  · rw [show (F3_40 v0) = (F3_48 v0) from if_pos hc] at hr
    refine XS.icmpYes X.here hx rfl (pc0 := 43) (pc' := 48) rfl (hb hby d3_43) rfl (tlt hc).2.2.1 (by decide) (by decide) ?_
    exact b3_48 X hx hZ hw hby hown v0 hret hr
  · rw [show (F3_40 v0) = F3_46 from if_neg hc] at hr
    refine XS.icmpNo X.here hx rfl (hb hby d3_43) rfl (flt hc).2.2.1 ?_
    exact b3_46 X hx hZ hw hby hown v0 hret hr
def F3_38 : Int32 := (0 : Int32)
theorem b3_38 {p : Program} {l : Launch} {e : Env} {R : Room} {s : State} {m : MethodId} {args : Array Value} {below : List Frame} {meth : Method} {c : Code} {T : State} {locs : List Loc} {cells slots : Nat} {Z : State} {a0 : Array Value} (X : Stand p l e R s m args below meth c T locs cells slots) (hx : p.tables.exec = Jvm.exec) (hZ : Z.Warmed39 s.vm) (hw : ∀ d ∈ tables_1, d.before a0 Z = true) (hby : c.code = method_3_code) (hown : s.vm.findClass "shapewright/NameCharactersIsPartPinLaw" = some m.cls) (v0 : Int32) (hret : meth.sig.returnType = some .boolean) {fs : List Frame} (hr : ∀ (f : JFrame) (acts : List Action), f.method = m → f.locked = none → f.entered = [] → (doReturn e (T.setTop f) acts (some (.int F3_38))).1 = T.setFrames fs) : Steps p.tables e below (T.setTop (mkF m 38 #[.val (.int v0)] [])) (T.setFrames fs) := by
  show Steps p.tables e below (T.setTop (mkF m 38 #[.val (.int v0)] [])) _
  refine XS.iconst X.here hx rfl (hb hby d3_38) ?_
  show Steps p.tables e below (T.setTop (mkF m 39 #[.val (.int v0)] [(.int (0 : Int32))])) _
  rw [show F3_38 = nar .boolean (0 : Int32) from rfl] at hr
  exact retN X hx (t := .boolean) hret (by simp) (hb hby d3_39) hr
def F3_32 (v0 : Int32) : Int32 := if v0 < (65 : Int32) then F3_38 else (F3_40 v0)
theorem b3_32 {p : Program} {l : Launch} {e : Env} {R : Room} {s : State} {m : MethodId} {args : Array Value} {below : List Frame} {meth : Method} {c : Code} {T : State} {locs : List Loc} {cells slots : Nat} {Z : State} {a0 : Array Value} (X : Stand p l e R s m args below meth c T locs cells slots) (hx : p.tables.exec = Jvm.exec) (hZ : Z.Warmed39 s.vm) (hw : ∀ d ∈ tables_1, d.before a0 Z = true) (hby : c.code = method_3_code) (hown : s.vm.findClass "shapewright/NameCharactersIsPartPinLaw" = some m.cls) (v0 : Int32) (hret : meth.sig.returnType = some .boolean) {fs : List Frame} (hr : ∀ (f : JFrame) (acts : List Action), f.method = m → f.locked = none → f.entered = [] → (doReturn e (T.setTop f) acts (some (.int (F3_32 v0)))).1 = T.setFrames fs) : Steps p.tables e below (T.setTop (mkF m 32 #[.val (.int v0)] [])) (T.setFrames fs) := by
  show Steps p.tables e below (T.setTop (mkF m 32 #[.val (.int v0)] [])) _
  refine XS.iloadN X.here hx rfl (hb hby d3_32) rfl ?_
  show Steps p.tables e below (T.setTop (mkF m 33 #[.val (.int v0)] [(.int v0)])) _
  refine XS.bipush X.here hx rfl (hb hby d3_33) ?_
  show Steps p.tables e below (T.setTop (mkF m 35 #[.val (.int v0)] [(.int (65 : Int32)), (.int v0)])) _
  by_cases hc : v0 < (65 : Int32)
  · rw [show (F3_32 v0) = F3_38 from if_pos hc] at hr
    refine XS.icmpNo X.here hx rfl (hb hby d3_35) rfl (tlt hc).2.1 ?_
    exact b3_38 X hx hZ hw hby hown v0 hret hr
  · rw [show (F3_32 v0) = (F3_40 v0) from if_neg hc] at hr
    refine XS.icmpYes X.here hx rfl (pc0 := 35) (pc' := 40) rfl (hb hby d3_35) rfl (flt hc).2.1 (by decide) (by decide) ?_
    exact b3_40 X hx hZ hw hby hown v0 hret hr
def F3_30 : Int32 := (1 : Int32)
theorem b3_30 {p : Program} {l : Launch} {e : Env} {R : Room} {s : State} {m : MethodId} {args : Array Value} {below : List Frame} {meth : Method} {c : Code} {T : State} {locs : List Loc} {cells slots : Nat} {Z : State} {a0 : Array Value} (X : Stand p l e R s m args below meth c T locs cells slots) (hx : p.tables.exec = Jvm.exec) (hZ : Z.Warmed39 s.vm) (hw : ∀ d ∈ tables_1, d.before a0 Z = true) (hby : c.code = method_3_code) (hown : s.vm.findClass "shapewright/NameCharactersIsPartPinLaw" = some m.cls) (v0 : Int32) (hret : meth.sig.returnType = some .boolean) {fs : List Frame} (hr : ∀ (f : JFrame) (acts : List Action), f.method = m → f.locked = none → f.entered = [] → (doReturn e (T.setTop f) acts (some (.int F3_30))).1 = T.setFrames fs) : Steps p.tables e below (T.setTop (mkF m 30 #[.val (.int v0)] [])) (T.setFrames fs) := by
  show Steps p.tables e below (T.setTop (mkF m 30 #[.val (.int v0)] [])) _
  refine XS.iconst X.here hx rfl (hb hby d3_30) ?_
  show Steps p.tables e below (T.setTop (mkF m 31 #[.val (.int v0)] [(.int (1 : Int32))])) _
  rw [show F3_30 = nar .boolean (1 : Int32) from rfl] at hr
  exact retN X hx (t := .boolean) hret (by simp) (hb hby d3_31) hr
def F3_24 (v0 : Int32) : Int32 := if (57 : Int32) < v0 then (F3_32 v0) else F3_30
theorem b3_24 {p : Program} {l : Launch} {e : Env} {R : Room} {s : State} {m : MethodId} {args : Array Value} {below : List Frame} {meth : Method} {c : Code} {T : State} {locs : List Loc} {cells slots : Nat} {Z : State} {a0 : Array Value} (X : Stand p l e R s m args below meth c T locs cells slots) (hx : p.tables.exec = Jvm.exec) (hZ : Z.Warmed39 s.vm) (hw : ∀ d ∈ tables_1, d.before a0 Z = true) (hby : c.code = method_3_code) (hown : s.vm.findClass "shapewright/NameCharactersIsPartPinLaw" = some m.cls) (v0 : Int32) (hret : meth.sig.returnType = some .boolean) {fs : List Frame} (hr : ∀ (f : JFrame) (acts : List Action), f.method = m → f.locked = none → f.entered = [] → (doReturn e (T.setTop f) acts (some (.int (F3_24 v0)))).1 = T.setFrames fs) : Steps p.tables e below (T.setTop (mkF m 24 #[.val (.int v0)] [])) (T.setFrames fs) := by
  show Steps p.tables e below (T.setTop (mkF m 24 #[.val (.int v0)] [])) _
  refine XS.iloadN X.here hx rfl (hb hby d3_24) rfl ?_
  show Steps p.tables e below (T.setTop (mkF m 25 #[.val (.int v0)] [(.int v0)])) _
  refine XS.bipush X.here hx rfl (hb hby d3_25) ?_
  show Steps p.tables e below (T.setTop (mkF m 27 #[.val (.int v0)] [(.int (57 : Int32)), (.int v0)])) _
  by_cases hc : (57 : Int32) < v0
  · rw [show (F3_24 v0) = (F3_32 v0) from if_pos hc] at hr
    refine XS.icmpYes X.here hx rfl (pc0 := 27) (pc' := 32) rfl (hb hby d3_27) rfl (tlt hc).2.2.1 (by decide) (by decide) ?_
    exact b3_32 X hx hZ hw hby hown v0 hret hr
  · rw [show (F3_24 v0) = F3_30 from if_neg hc] at hr
    refine XS.icmpNo X.here hx rfl (hb hby d3_27) rfl (flt hc).2.2.1 ?_
    exact b3_30 X hx hZ hw hby hown v0 hret hr
def F3_22 : Int32 := (0 : Int32)
theorem b3_22 {p : Program} {l : Launch} {e : Env} {R : Room} {s : State} {m : MethodId} {args : Array Value} {below : List Frame} {meth : Method} {c : Code} {T : State} {locs : List Loc} {cells slots : Nat} {Z : State} {a0 : Array Value} (X : Stand p l e R s m args below meth c T locs cells slots) (hx : p.tables.exec = Jvm.exec) (hZ : Z.Warmed39 s.vm) (hw : ∀ d ∈ tables_1, d.before a0 Z = true) (hby : c.code = method_3_code) (hown : s.vm.findClass "shapewright/NameCharactersIsPartPinLaw" = some m.cls) (v0 : Int32) (hret : meth.sig.returnType = some .boolean) {fs : List Frame} (hr : ∀ (f : JFrame) (acts : List Action), f.method = m → f.locked = none → f.entered = [] → (doReturn e (T.setTop f) acts (some (.int F3_22))).1 = T.setFrames fs) : Steps p.tables e below (T.setTop (mkF m 22 #[.val (.int v0)] [])) (T.setFrames fs) := by
  show Steps p.tables e below (T.setTop (mkF m 22 #[.val (.int v0)] [])) _
  refine XS.iconst X.here hx rfl (hb hby d3_22) ?_
  show Steps p.tables e below (T.setTop (mkF m 23 #[.val (.int v0)] [(.int (0 : Int32))])) _
  rw [show F3_22 = nar .boolean (0 : Int32) from rfl] at hr
  exact retN X hx (t := .boolean) hret (by simp) (hb hby d3_23) hr
def F3_16 (v0 : Int32) : Int32 := if v0 < (48 : Int32) then F3_22 else (F3_24 v0)
theorem b3_16 {p : Program} {l : Launch} {e : Env} {R : Room} {s : State} {m : MethodId} {args : Array Value} {below : List Frame} {meth : Method} {c : Code} {T : State} {locs : List Loc} {cells slots : Nat} {Z : State} {a0 : Array Value} (X : Stand p l e R s m args below meth c T locs cells slots) (hx : p.tables.exec = Jvm.exec) (hZ : Z.Warmed39 s.vm) (hw : ∀ d ∈ tables_1, d.before a0 Z = true) (hby : c.code = method_3_code) (hown : s.vm.findClass "shapewright/NameCharactersIsPartPinLaw" = some m.cls) (v0 : Int32) (hret : meth.sig.returnType = some .boolean) {fs : List Frame} (hr : ∀ (f : JFrame) (acts : List Action), f.method = m → f.locked = none → f.entered = [] → (doReturn e (T.setTop f) acts (some (.int (F3_16 v0)))).1 = T.setFrames fs) : Steps p.tables e below (T.setTop (mkF m 16 #[.val (.int v0)] [])) (T.setFrames fs) := by
  show Steps p.tables e below (T.setTop (mkF m 16 #[.val (.int v0)] [])) _
  refine XS.iloadN X.here hx rfl (hb hby d3_16) rfl ?_
  show Steps p.tables e below (T.setTop (mkF m 17 #[.val (.int v0)] [(.int v0)])) _
  refine XS.bipush X.here hx rfl (hb hby d3_17) ?_
  show Steps p.tables e below (T.setTop (mkF m 19 #[.val (.int v0)] [(.int (48 : Int32)), (.int v0)])) _
  by_cases hc : v0 < (48 : Int32)
  · rw [show (F3_16 v0) = F3_22 from if_pos hc] at hr
    refine XS.icmpNo X.here hx rfl (hb hby d3_19) rfl (tlt hc).2.1 ?_
    exact b3_22 X hx hZ hw hby hown v0 hret hr
  · rw [show (F3_16 v0) = (F3_24 v0) from if_neg hc] at hr
    refine XS.icmpYes X.here hx rfl (pc0 := 19) (pc' := 24) rfl (hb hby d3_19) rfl (flt hc).2.1 (by decide) (by decide) ?_
    exact b3_24 X hx hZ hw hby hown v0 hret hr
def F3_14 : Int32 := (1 : Int32)
theorem b3_14 {p : Program} {l : Launch} {e : Env} {R : Room} {s : State} {m : MethodId} {args : Array Value} {below : List Frame} {meth : Method} {c : Code} {T : State} {locs : List Loc} {cells slots : Nat} {Z : State} {a0 : Array Value} (X : Stand p l e R s m args below meth c T locs cells slots) (hx : p.tables.exec = Jvm.exec) (hZ : Z.Warmed39 s.vm) (hw : ∀ d ∈ tables_1, d.before a0 Z = true) (hby : c.code = method_3_code) (hown : s.vm.findClass "shapewright/NameCharactersIsPartPinLaw" = some m.cls) (v0 : Int32) (hret : meth.sig.returnType = some .boolean) {fs : List Frame} (hr : ∀ (f : JFrame) (acts : List Action), f.method = m → f.locked = none → f.entered = [] → (doReturn e (T.setTop f) acts (some (.int F3_14))).1 = T.setFrames fs) : Steps p.tables e below (T.setTop (mkF m 14 #[.val (.int v0)] [])) (T.setFrames fs) := by
  show Steps p.tables e below (T.setTop (mkF m 14 #[.val (.int v0)] [])) _
  refine XS.iconst X.here hx rfl (hb hby d3_14) ?_
  show Steps p.tables e below (T.setTop (mkF m 15 #[.val (.int v0)] [(.int (1 : Int32))])) _
  rw [show F3_14 = nar .boolean (1 : Int32) from rfl] at hr
  exact retN X hx (t := .boolean) hret (by simp) (hb hby d3_15) hr
def F3_8 (v0 : Int32) : Int32 := if v0 = (45 : Int32) then F3_14 else (F3_16 v0)
theorem b3_8 {p : Program} {l : Launch} {e : Env} {R : Room} {s : State} {m : MethodId} {args : Array Value} {below : List Frame} {meth : Method} {c : Code} {T : State} {locs : List Loc} {cells slots : Nat} {Z : State} {a0 : Array Value} (X : Stand p l e R s m args below meth c T locs cells slots) (hx : p.tables.exec = Jvm.exec) (hZ : Z.Warmed39 s.vm) (hw : ∀ d ∈ tables_1, d.before a0 Z = true) (hby : c.code = method_3_code) (hown : s.vm.findClass "shapewright/NameCharactersIsPartPinLaw" = some m.cls) (v0 : Int32) (hret : meth.sig.returnType = some .boolean) {fs : List Frame} (hr : ∀ (f : JFrame) (acts : List Action), f.method = m → f.locked = none → f.entered = [] → (doReturn e (T.setTop f) acts (some (.int (F3_8 v0)))).1 = T.setFrames fs) : Steps p.tables e below (T.setTop (mkF m 8 #[.val (.int v0)] [])) (T.setFrames fs) := by
  show Steps p.tables e below (T.setTop (mkF m 8 #[.val (.int v0)] [])) _
  refine XS.iloadN X.here hx rfl (hb hby d3_8) rfl ?_
  show Steps p.tables e below (T.setTop (mkF m 9 #[.val (.int v0)] [(.int v0)])) _
  refine XS.bipush X.here hx rfl (hb hby d3_9) ?_
  show Steps p.tables e below (T.setTop (mkF m 11 #[.val (.int v0)] [(.int (45 : Int32)), (.int v0)])) _
  by_cases hc : v0 = (45 : Int32)
  · rw [show (F3_8 v0) = F3_14 from if_pos hc] at hr
    refine XS.icmpNo X.here hx rfl (hb hby d3_11) rfl (teq hc).2 ?_
    exact b3_14 X hx hZ hw hby hown v0 hret hr
  · rw [show (F3_8 v0) = (F3_16 v0) from if_neg hc] at hr
    refine XS.icmpYes X.here hx rfl (pc0 := 11) (pc' := 16) rfl (hb hby d3_11) rfl (feq hc).2 (by decide) (by decide) ?_
    exact b3_16 X hx hZ hw hby hown v0 hret hr
def F3_6 : Int32 := (0 : Int32)
theorem b3_6 {p : Program} {l : Launch} {e : Env} {R : Room} {s : State} {m : MethodId} {args : Array Value} {below : List Frame} {meth : Method} {c : Code} {T : State} {locs : List Loc} {cells slots : Nat} {Z : State} {a0 : Array Value} (X : Stand p l e R s m args below meth c T locs cells slots) (hx : p.tables.exec = Jvm.exec) (hZ : Z.Warmed39 s.vm) (hw : ∀ d ∈ tables_1, d.before a0 Z = true) (hby : c.code = method_3_code) (hown : s.vm.findClass "shapewright/NameCharactersIsPartPinLaw" = some m.cls) (v0 : Int32) (hret : meth.sig.returnType = some .boolean) {fs : List Frame} (hr : ∀ (f : JFrame) (acts : List Action), f.method = m → f.locked = none → f.entered = [] → (doReturn e (T.setTop f) acts (some (.int F3_6))).1 = T.setFrames fs) : Steps p.tables e below (T.setTop (mkF m 6 #[.val (.int v0)] [])) (T.setFrames fs) := by
  show Steps p.tables e below (T.setTop (mkF m 6 #[.val (.int v0)] [])) _
  refine XS.iconst X.here hx rfl (hb hby d3_6) ?_
  show Steps p.tables e below (T.setTop (mkF m 7 #[.val (.int v0)] [(.int (0 : Int32))])) _
  rw [show F3_6 = nar .boolean (0 : Int32) from rfl] at hr
  exact retN X hx (t := .boolean) hret (by simp) (hb hby d3_7) hr
def F3_0 (v0 : Int32) : Int32 := if v0 < (45 : Int32) then F3_6 else (F3_8 v0)
theorem b3_0 {p : Program} {l : Launch} {e : Env} {R : Room} {s : State} {m : MethodId} {args : Array Value} {below : List Frame} {meth : Method} {c : Code} {T : State} {locs : List Loc} {cells slots : Nat} {Z : State} {a0 : Array Value} (X : Stand p l e R s m args below meth c T locs cells slots) (hx : p.tables.exec = Jvm.exec) (hZ : Z.Warmed39 s.vm) (hw : ∀ d ∈ tables_1, d.before a0 Z = true) (hby : c.code = method_3_code) (hown : s.vm.findClass "shapewright/NameCharactersIsPartPinLaw" = some m.cls) (v0 : Int32) (hret : meth.sig.returnType = some .boolean) {fs : List Frame} (hr : ∀ (f : JFrame) (acts : List Action), f.method = m → f.locked = none → f.entered = [] → (doReturn e (T.setTop f) acts (some (.int (F3_0 v0)))).1 = T.setFrames fs) : Steps p.tables e below (T.setTop (mkF m 0 #[.val (.int v0)] [])) (T.setFrames fs) := by
  show Steps p.tables e below (T.setTop (mkF m 0 #[.val (.int v0)] [])) _
  refine XS.iloadN X.here hx rfl (hb hby d3_0) rfl ?_
  show Steps p.tables e below (T.setTop (mkF m 1 #[.val (.int v0)] [(.int v0)])) _
  refine XS.bipush X.here hx rfl (hb hby d3_1) ?_
  show Steps p.tables e below (T.setTop (mkF m 3 #[.val (.int v0)] [(.int (45 : Int32)), (.int v0)])) _
  by_cases hc : v0 < (45 : Int32)
  · rw [show (F3_0 v0) = F3_6 from if_pos hc] at hr
    refine XS.icmpNo X.here hx rfl (hb hby d3_3) rfl (tlt hc).2.1 ?_
    exact b3_6 X hx hZ hw hby hown v0 hret hr
  · rw [show (F3_0 v0) = (F3_8 v0) from if_neg hc] at hr
    refine XS.icmpYes X.here hx rfl (pc0 := 3) (pc' := 8) rfl (hb hby d3_3) rfl (flt hc).2.1 (by decide) (by decide) ?_
    exact b3_8 X hx hZ hw hby hown v0 hret hr
theorem pn_3 : plainName "shapewright/NameCharactersIsPartPinLaw" = true := by first | (simp [plainName, overriddenIn]; done) | decide +kernel
theorem ef_3 (m : MethodId) (p0 : Int32) : entryFrame m #[(.int p0)] 1 = mkF m 0 #[.val (.int p0)] [] := by first | (simp [entryFrame, mkF, argsToLocals, Value.category]; done) | rfl
def Q_rm3 (Z : State) (p0 : Int32) (h0 : Heap) (n0 : Nat) (v : Option Value) (h : Heap) (L : List Loc) : Prop := (v = some (.int (F3_0 p0)) ∧ Fr n0 L ∧ h = h0)
set_option maxRecDepth 65536 in
set_option maxHeartbeats 40000000 in
theorem rm3 (l : Launch) (Z : State) (a0 : Array Value) (hw : ∀ d ∈ tables_1, d.before a0 Z = true) (ws : List Jvm.Cond) (p0 : Int32) (h0 : Heap) (n0 : Nat) (Z0 : n0 ≤ h0.size) :
    MetFree l (⟨"shapewright/NameCharactersIsPartPinLaw", "ref", "(I)Z"⟩ : MethodName) (head1 (Jvm.Cond.code (⟨"shapewright/NameCharactersIsPartPinLaw", "ref", "(I)Z"⟩ : MethodName) method_3_code 1 (some .boolean) :: ws) ({ frames := 0, cells := 0, slots := 0, locals := 0 } : Room)) (fun a U => a = #[(.int p0)] ∧ Z.Warmed39 U.vm ∧ U.heap = h0) (fun _ _ _ _ _ => True) (fun _ U o U' => ∃ v L, o = .returned v ∧ Q_rm3 Z p0 h0 n0 v U'.heap L ∧ FrameEnd U o U' L ({ frames := 0, cells := 0, slots := 0, locals := 0 } : Room).cells ({ frames := 0, cells := 0, slots := 0, locals := 0 } : Room).slots) := by
  refine MetFree.of_bodySF (plainFor_of_name pn_3) hisR ?_
  intro p e s m args below meth c s₁ Bd hml0 hP hK
  obtain ⟨rfl, hZ, hh⟩ := hP
  have hx := Bd.exec
  have hby := Bd.bytes
  have hml : c.maxLocals = 1 := hml0
  have hown : s.vm.findClass "shapewright/NameCharactersIsPartPinLaw" = some m.cls := findClass_of_methodNamed Bd.named
  have hnm := (name_of_methodNamed Bd.named Bd.method).1
  have X0 : Stand p l e ({ frames := 0, cells := 0, slots := 0, locals := 0 } : Room) s m #[(.int p0)] below meth c s₁ [] 0 0 := Stand.of_body Bd
  have e0 : s₁.heap = h0 := by rw [← hh, Bd.state]; rfl
  have N0 := Fr.nil n0
  have pre0 : ∀ t, Steps p.tables e below (s₁.setTop (mkF m 0 #[.val (.int p0)] [])) t → Steps p.tables e below (s₁.setTop (entryFrame m #[(.int p0)] 1)) t := fun t k => castTop (ef_3 m p0) k
  obtain ⟨fs, hr, hrun, hended, hW, hsame⟩ := X0.leave (v := some (.int (F3_0 p0))) (fun h => by rw [Bd.returns] at h; cases h)
  refine ⟨_, _, pre0 _ ?_, hrun, hended, _, _, rfl, ⟨rfl, N0, e0⟩, ⟨_, rfl⟩, hW, hsame.mono (by decide) (by decide)⟩
  exact b3_0 X0 hx hZ hw hby hown p0 Bd.returns hr
theorem own_lt {v c : Int32} {z : Int} (hc : c.toInt = z) (h : v.toInt < z) : v < c := by rw [Int32.lt_iff_toInt_lt, hc]; exact h
theorem own_nlt {v c : Int32} {z : Int} (hc : c.toInt = z) (h : z ≤ v.toInt) : ¬ v < c := by rw [Int32.lt_iff_toInt_lt, hc]; omega
theorem own_gt {v c : Int32} {z : Int} (hc : c.toInt = z) (h : z < v.toInt) : c < v := by rw [Int32.lt_iff_toInt_lt, hc]; exact h
theorem own_ngt {v c : Int32} {z : Int} (hc : c.toInt = z) (h : v.toInt ≤ z) : ¬ c < v := by rw [Int32.lt_iff_toInt_lt, hc]; omega
theorem own_eq {v c : Int32} {z : Int} (hc : c.toInt = z) (h : v.toInt = z) : v = c := by rw [← Int32.toInt_inj, hc]; exact h
theorem own_neq {v c : Int32} {z : Int} (hc : c.toInt = z) (h : v.toInt ≠ z) : ¬ v = c := by rw [← Int32.toInt_inj, hc]; exact h
theorem own_same_0 (v : Int32) (h1 : -2147483648 ≤ v.toInt) (h2 : v.toInt ≤ 44) : F1_0 v = F3_0 v := by
  have a : F2_0 v = (0 : Int32) := by
    rw [show (F2_0 v) = (F2_12 v) from if_pos (own_lt (z := 65) rfl (by omega))]
    rw [show (F2_12 v) = (F2_24 v) from if_pos (own_lt (z := 97) rfl (by omega))]
    rw [show (F2_24 v) = (F2_38 v) from if_pos (own_lt (z := 192) rfl (by omega))]
    rw [show (F2_38 v) = (F2_52 v) from if_pos (own_lt (z := 216) rfl (by omega))]
    rw [show (F2_52 v) = (F2_66 v) from if_pos (own_lt (z := 248) rfl (by omega))]
    rw [show (F2_66 v) = (F2_80 v) from if_pos (own_lt (z := 880) rfl (by omega))]
    rw [show (F2_80 v) = (F2_94 v) from if_pos (own_lt (z := 895) rfl (by omega))]
    rw [show (F2_94 v) = (F2_108 v) from if_pos (own_lt (z := 8204) rfl (by omega))]
    rw [show (F2_108 v) = (F2_122 v) from if_pos (own_lt (z := 8304) rfl (by omega))]
    rw [show (F2_122 v) = (F2_136 v) from if_pos (own_lt (z := 11264) rfl (by omega))]
    rw [show (F2_136 v) = (F2_149 v) from if_pos (own_lt (z := 12289) rfl (by omega))]
    rw [show (F2_149 v) = (F2_161 v) from if_pos (own_lt (z := 63744) rfl (by omega))]
    rw [show (F2_161 v) = (F2_173 v) from if_pos (own_lt (z := 65008) rfl (by omega))]
    rw [show (F2_173 v) = F2_189 from if_pos (own_lt (z := 65536) rfl (by omega))]
    rfl
  have b : F3_0 v = (0 : Int32) := by
    rw [show (F3_0 v) = F3_6 from if_pos (own_lt (z := 45) rfl (by omega))]
    rfl
  show F1t_4 v (F2_0 v) = F3_0 v
  rw [a, b]
  rw [show F1t_4 v (0 : Int32) = F1t_7 v from if_pos rfl]
  rw [show (F1t_7 v) = (F1t_13 v) from if_neg (own_neq (z := 95) rfl (by omega))]
  rw [show (F1t_13 v) = (F1t_19 v) from if_neg (own_neq (z := 45) rfl (by omega))]
  rw [show (F1t_19 v) = (F1t_31 v) from if_pos (own_lt (z := 48) rfl (by omega))]
  rw [show (F1t_31 v) = (F1t_38 v) from if_neg (own_neq (z := 183) rfl (by omega))]
  rw [show (F1t_38 v) = (F1t_52 v) from if_pos (own_lt (z := 768) rfl (by omega))]
  rw [show (F1t_52 v) = F1t_70 from if_pos (own_lt (z := 8255) rfl (by omega))]
  rfl
theorem own_same_1 (v : Int32) (h1 : 45 ≤ v.toInt) (h2 : v.toInt ≤ 45) : F1_0 v = F3_0 v := by
  have a : F2_0 v = (0 : Int32) := by
    rw [show (F2_0 v) = (F2_12 v) from if_pos (own_lt (z := 65) rfl (by omega))]
    rw [show (F2_12 v) = (F2_24 v) from if_pos (own_lt (z := 97) rfl (by omega))]
    rw [show (F2_24 v) = (F2_38 v) from if_pos (own_lt (z := 192) rfl (by omega))]
    rw [show (F2_38 v) = (F2_52 v) from if_pos (own_lt (z := 216) rfl (by omega))]
    rw [show (F2_52 v) = (F2_66 v) from if_pos (own_lt (z := 248) rfl (by omega))]
    rw [show (F2_66 v) = (F2_80 v) from if_pos (own_lt (z := 880) rfl (by omega))]
    rw [show (F2_80 v) = (F2_94 v) from if_pos (own_lt (z := 895) rfl (by omega))]
    rw [show (F2_94 v) = (F2_108 v) from if_pos (own_lt (z := 8204) rfl (by omega))]
    rw [show (F2_108 v) = (F2_122 v) from if_pos (own_lt (z := 8304) rfl (by omega))]
    rw [show (F2_122 v) = (F2_136 v) from if_pos (own_lt (z := 11264) rfl (by omega))]
    rw [show (F2_136 v) = (F2_149 v) from if_pos (own_lt (z := 12289) rfl (by omega))]
    rw [show (F2_149 v) = (F2_161 v) from if_pos (own_lt (z := 63744) rfl (by omega))]
    rw [show (F2_161 v) = (F2_173 v) from if_pos (own_lt (z := 65008) rfl (by omega))]
    rw [show (F2_173 v) = F2_189 from if_pos (own_lt (z := 65536) rfl (by omega))]
    rfl
  have b : F3_0 v = (1 : Int32) := by
    rw [show (F3_0 v) = (F3_8 v) from if_neg (own_nlt (z := 45) rfl (by omega))]
    rw [show (F3_8 v) = F3_14 from if_pos (own_eq (z := 45) rfl (by omega))]
    rfl
  show F1t_4 v (F2_0 v) = F3_0 v
  rw [a, b]
  rw [show F1t_4 v (0 : Int32) = F1t_7 v from if_pos rfl]
  rw [show (F1t_7 v) = (F1t_13 v) from if_neg (own_neq (z := 95) rfl (by omega))]
  rw [show (F1t_13 v) = F1t_66 from if_pos (own_eq (z := 45) rfl (by omega))]
  rfl
theorem own_same_2 (v : Int32) (h1 : 46 ≤ v.toInt) (h2 : v.toInt ≤ 47) : F1_0 v = F3_0 v := by
  have a : F2_0 v = (0 : Int32) := by
    rw [show (F2_0 v) = (F2_12 v) from if_pos (own_lt (z := 65) rfl (by omega))]
    rw [show (F2_12 v) = (F2_24 v) from if_pos (own_lt (z := 97) rfl (by omega))]
    rw [show (F2_24 v) = (F2_38 v) from if_pos (own_lt (z := 192) rfl (by omega))]
    rw [show (F2_38 v) = (F2_52 v) from if_pos (own_lt (z := 216) rfl (by omega))]
    rw [show (F2_52 v) = (F2_66 v) from if_pos (own_lt (z := 248) rfl (by omega))]
    rw [show (F2_66 v) = (F2_80 v) from if_pos (own_lt (z := 880) rfl (by omega))]
    rw [show (F2_80 v) = (F2_94 v) from if_pos (own_lt (z := 895) rfl (by omega))]
    rw [show (F2_94 v) = (F2_108 v) from if_pos (own_lt (z := 8204) rfl (by omega))]
    rw [show (F2_108 v) = (F2_122 v) from if_pos (own_lt (z := 8304) rfl (by omega))]
    rw [show (F2_122 v) = (F2_136 v) from if_pos (own_lt (z := 11264) rfl (by omega))]
    rw [show (F2_136 v) = (F2_149 v) from if_pos (own_lt (z := 12289) rfl (by omega))]
    rw [show (F2_149 v) = (F2_161 v) from if_pos (own_lt (z := 63744) rfl (by omega))]
    rw [show (F2_161 v) = (F2_173 v) from if_pos (own_lt (z := 65008) rfl (by omega))]
    rw [show (F2_173 v) = F2_189 from if_pos (own_lt (z := 65536) rfl (by omega))]
    rfl
  have b : F3_0 v = (0 : Int32) := by
    rw [show (F3_0 v) = (F3_8 v) from if_neg (own_nlt (z := 45) rfl (by omega))]
    rw [show (F3_8 v) = (F3_16 v) from if_neg (own_neq (z := 45) rfl (by omega))]
    rw [show (F3_16 v) = F3_22 from if_pos (own_lt (z := 48) rfl (by omega))]
    rfl
  show F1t_4 v (F2_0 v) = F3_0 v
  rw [a, b]
  rw [show F1t_4 v (0 : Int32) = F1t_7 v from if_pos rfl]
  rw [show (F1t_7 v) = (F1t_13 v) from if_neg (own_neq (z := 95) rfl (by omega))]
  rw [show (F1t_13 v) = (F1t_19 v) from if_neg (own_neq (z := 45) rfl (by omega))]
  rw [show (F1t_19 v) = (F1t_31 v) from if_pos (own_lt (z := 48) rfl (by omega))]
  rw [show (F1t_31 v) = (F1t_38 v) from if_neg (own_neq (z := 183) rfl (by omega))]
  rw [show (F1t_38 v) = (F1t_52 v) from if_pos (own_lt (z := 768) rfl (by omega))]
  rw [show (F1t_52 v) = F1t_70 from if_pos (own_lt (z := 8255) rfl (by omega))]
  rfl
theorem own_same_3 (v : Int32) (h1 : 48 ≤ v.toInt) (h2 : v.toInt ≤ 57) : F1_0 v = F3_0 v := by
  have a : F2_0 v = (0 : Int32) := by
    rw [show (F2_0 v) = (F2_12 v) from if_pos (own_lt (z := 65) rfl (by omega))]
    rw [show (F2_12 v) = (F2_24 v) from if_pos (own_lt (z := 97) rfl (by omega))]
    rw [show (F2_24 v) = (F2_38 v) from if_pos (own_lt (z := 192) rfl (by omega))]
    rw [show (F2_38 v) = (F2_52 v) from if_pos (own_lt (z := 216) rfl (by omega))]
    rw [show (F2_52 v) = (F2_66 v) from if_pos (own_lt (z := 248) rfl (by omega))]
    rw [show (F2_66 v) = (F2_80 v) from if_pos (own_lt (z := 880) rfl (by omega))]
    rw [show (F2_80 v) = (F2_94 v) from if_pos (own_lt (z := 895) rfl (by omega))]
    rw [show (F2_94 v) = (F2_108 v) from if_pos (own_lt (z := 8204) rfl (by omega))]
    rw [show (F2_108 v) = (F2_122 v) from if_pos (own_lt (z := 8304) rfl (by omega))]
    rw [show (F2_122 v) = (F2_136 v) from if_pos (own_lt (z := 11264) rfl (by omega))]
    rw [show (F2_136 v) = (F2_149 v) from if_pos (own_lt (z := 12289) rfl (by omega))]
    rw [show (F2_149 v) = (F2_161 v) from if_pos (own_lt (z := 63744) rfl (by omega))]
    rw [show (F2_161 v) = (F2_173 v) from if_pos (own_lt (z := 65008) rfl (by omega))]
    rw [show (F2_173 v) = F2_189 from if_pos (own_lt (z := 65536) rfl (by omega))]
    rfl
  have b : F3_0 v = (1 : Int32) := by
    rw [show (F3_0 v) = (F3_8 v) from if_neg (own_nlt (z := 45) rfl (by omega))]
    rw [show (F3_8 v) = (F3_16 v) from if_neg (own_neq (z := 45) rfl (by omega))]
    rw [show (F3_16 v) = (F3_24 v) from if_neg (own_nlt (z := 48) rfl (by omega))]
    rw [show (F3_24 v) = F3_30 from if_neg (own_ngt (z := 57) rfl (by omega))]
    rfl
  show F1t_4 v (F2_0 v) = F3_0 v
  rw [a, b]
  rw [show F1t_4 v (0 : Int32) = F1t_7 v from if_pos rfl]
  rw [show (F1t_7 v) = (F1t_13 v) from if_neg (own_neq (z := 95) rfl (by omega))]
  rw [show (F1t_13 v) = (F1t_19 v) from if_neg (own_neq (z := 45) rfl (by omega))]
  rw [show (F1t_19 v) = (F1t_25 v) from if_neg (own_nlt (z := 48) rfl (by omega))]
  rw [show (F1t_25 v) = F1t_66 from if_neg (own_ngt (z := 57) rfl (by omega))]
  rfl
theorem own_same_4 (v : Int32) (h1 : 58 ≤ v.toInt) (h2 : v.toInt ≤ 64) : F1_0 v = F3_0 v := by
  have a : F2_0 v = (0 : Int32) := by
    rw [show (F2_0 v) = (F2_12 v) from if_pos (own_lt (z := 65) rfl (by omega))]
    rw [show (F2_12 v) = (F2_24 v) from if_pos (own_lt (z := 97) rfl (by omega))]
    rw [show (F2_24 v) = (F2_38 v) from if_pos (own_lt (z := 192) rfl (by omega))]
    rw [show (F2_38 v) = (F2_52 v) from if_pos (own_lt (z := 216) rfl (by omega))]
    rw [show (F2_52 v) = (F2_66 v) from if_pos (own_lt (z := 248) rfl (by omega))]
    rw [show (F2_66 v) = (F2_80 v) from if_pos (own_lt (z := 880) rfl (by omega))]
    rw [show (F2_80 v) = (F2_94 v) from if_pos (own_lt (z := 895) rfl (by omega))]
    rw [show (F2_94 v) = (F2_108 v) from if_pos (own_lt (z := 8204) rfl (by omega))]
    rw [show (F2_108 v) = (F2_122 v) from if_pos (own_lt (z := 8304) rfl (by omega))]
    rw [show (F2_122 v) = (F2_136 v) from if_pos (own_lt (z := 11264) rfl (by omega))]
    rw [show (F2_136 v) = (F2_149 v) from if_pos (own_lt (z := 12289) rfl (by omega))]
    rw [show (F2_149 v) = (F2_161 v) from if_pos (own_lt (z := 63744) rfl (by omega))]
    rw [show (F2_161 v) = (F2_173 v) from if_pos (own_lt (z := 65008) rfl (by omega))]
    rw [show (F2_173 v) = F2_189 from if_pos (own_lt (z := 65536) rfl (by omega))]
    rfl
  have b : F3_0 v = (0 : Int32) := by
    rw [show (F3_0 v) = (F3_8 v) from if_neg (own_nlt (z := 45) rfl (by omega))]
    rw [show (F3_8 v) = (F3_16 v) from if_neg (own_neq (z := 45) rfl (by omega))]
    rw [show (F3_16 v) = (F3_24 v) from if_neg (own_nlt (z := 48) rfl (by omega))]
    rw [show (F3_24 v) = (F3_32 v) from if_pos (own_gt (z := 57) rfl (by omega))]
    rw [show (F3_32 v) = F3_38 from if_pos (own_lt (z := 65) rfl (by omega))]
    rfl
  show F1t_4 v (F2_0 v) = F3_0 v
  rw [a, b]
  rw [show F1t_4 v (0 : Int32) = F1t_7 v from if_pos rfl]
  rw [show (F1t_7 v) = (F1t_13 v) from if_neg (own_neq (z := 95) rfl (by omega))]
  rw [show (F1t_13 v) = (F1t_19 v) from if_neg (own_neq (z := 45) rfl (by omega))]
  rw [show (F1t_19 v) = (F1t_25 v) from if_neg (own_nlt (z := 48) rfl (by omega))]
  rw [show (F1t_25 v) = (F1t_31 v) from if_pos (own_gt (z := 57) rfl (by omega))]
  rw [show (F1t_31 v) = (F1t_38 v) from if_neg (own_neq (z := 183) rfl (by omega))]
  rw [show (F1t_38 v) = (F1t_52 v) from if_pos (own_lt (z := 768) rfl (by omega))]
  rw [show (F1t_52 v) = F1t_70 from if_pos (own_lt (z := 8255) rfl (by omega))]
  rfl
theorem own_same_5 (v : Int32) (h1 : 65 ≤ v.toInt) (h2 : v.toInt ≤ 90) : F1_0 v = F3_0 v := by
  have a : F2_0 v = (1 : Int32) := by
    rw [show (F2_0 v) = (F2_6 v) from if_neg (own_nlt (z := 65) rfl (by omega))]
    rw [show (F2_6 v) = F2_185 from if_neg (own_ngt (z := 90) rfl (by omega))]
    rfl
  have b : F3_0 v = (1 : Int32) := by
    rw [show (F3_0 v) = (F3_8 v) from if_neg (own_nlt (z := 45) rfl (by omega))]
    rw [show (F3_8 v) = (F3_16 v) from if_neg (own_neq (z := 45) rfl (by omega))]
    rw [show (F3_16 v) = (F3_24 v) from if_neg (own_nlt (z := 48) rfl (by omega))]
    rw [show (F3_24 v) = (F3_32 v) from if_pos (own_gt (z := 57) rfl (by omega))]
    rw [show (F3_32 v) = (F3_40 v) from if_neg (own_nlt (z := 65) rfl (by omega))]
    rw [show (F3_40 v) = F3_46 from if_neg (own_ngt (z := 90) rfl (by omega))]
    rfl
  show F1t_4 v (F2_0 v) = F3_0 v
  rw [a, b]
  rfl
theorem own_same_6 (v : Int32) (h1 : 91 ≤ v.toInt) (h2 : v.toInt ≤ 94) : F1_0 v = F3_0 v := by
  have a : F2_0 v = (0 : Int32) := by
    rw [show (F2_0 v) = (F2_6 v) from if_neg (own_nlt (z := 65) rfl (by omega))]
    rw [show (F2_6 v) = (F2_12 v) from if_pos (own_gt (z := 90) rfl (by omega))]
    rw [show (F2_12 v) = (F2_24 v) from if_pos (own_lt (z := 97) rfl (by omega))]
    rw [show (F2_24 v) = (F2_38 v) from if_pos (own_lt (z := 192) rfl (by omega))]
    rw [show (F2_38 v) = (F2_52 v) from if_pos (own_lt (z := 216) rfl (by omega))]
    rw [show (F2_52 v) = (F2_66 v) from if_pos (own_lt (z := 248) rfl (by omega))]
    rw [show (F2_66 v) = (F2_80 v) from if_pos (own_lt (z := 880) rfl (by omega))]
    rw [show (F2_80 v) = (F2_94 v) from if_pos (own_lt (z := 895) rfl (by omega))]
    rw [show (F2_94 v) = (F2_108 v) from if_pos (own_lt (z := 8204) rfl (by omega))]
    rw [show (F2_108 v) = (F2_122 v) from if_pos (own_lt (z := 8304) rfl (by omega))]
    rw [show (F2_122 v) = (F2_136 v) from if_pos (own_lt (z := 11264) rfl (by omega))]
    rw [show (F2_136 v) = (F2_149 v) from if_pos (own_lt (z := 12289) rfl (by omega))]
    rw [show (F2_149 v) = (F2_161 v) from if_pos (own_lt (z := 63744) rfl (by omega))]
    rw [show (F2_161 v) = (F2_173 v) from if_pos (own_lt (z := 65008) rfl (by omega))]
    rw [show (F2_173 v) = F2_189 from if_pos (own_lt (z := 65536) rfl (by omega))]
    rfl
  have b : F3_0 v = (0 : Int32) := by
    rw [show (F3_0 v) = (F3_8 v) from if_neg (own_nlt (z := 45) rfl (by omega))]
    rw [show (F3_8 v) = (F3_16 v) from if_neg (own_neq (z := 45) rfl (by omega))]
    rw [show (F3_16 v) = (F3_24 v) from if_neg (own_nlt (z := 48) rfl (by omega))]
    rw [show (F3_24 v) = (F3_32 v) from if_pos (own_gt (z := 57) rfl (by omega))]
    rw [show (F3_32 v) = (F3_40 v) from if_neg (own_nlt (z := 65) rfl (by omega))]
    rw [show (F3_40 v) = (F3_48 v) from if_pos (own_gt (z := 90) rfl (by omega))]
    rw [show (F3_48 v) = (F3_56 v) from if_neg (own_neq (z := 95) rfl (by omega))]
    rw [show (F3_56 v) = F3_62 from if_pos (own_lt (z := 97) rfl (by omega))]
    rfl
  show F1t_4 v (F2_0 v) = F3_0 v
  rw [a, b]
  rw [show F1t_4 v (0 : Int32) = F1t_7 v from if_pos rfl]
  rw [show (F1t_7 v) = (F1t_13 v) from if_neg (own_neq (z := 95) rfl (by omega))]
  rw [show (F1t_13 v) = (F1t_19 v) from if_neg (own_neq (z := 45) rfl (by omega))]
  rw [show (F1t_19 v) = (F1t_25 v) from if_neg (own_nlt (z := 48) rfl (by omega))]
  rw [show (F1t_25 v) = (F1t_31 v) from if_pos (own_gt (z := 57) rfl (by omega))]
  rw [show (F1t_31 v) = (F1t_38 v) from if_neg (own_neq (z := 183) rfl (by omega))]
  rw [show (F1t_38 v) = (F1t_52 v) from if_pos (own_lt (z := 768) rfl (by omega))]
  rw [show (F1t_52 v) = F1t_70 from if_pos (own_lt (z := 8255) rfl (by omega))]
  rfl
theorem own_same_7 (v : Int32) (h1 : 95 ≤ v.toInt) (h2 : v.toInt ≤ 95) : F1_0 v = F3_0 v := by
  have a : F2_0 v = (0 : Int32) := by
    rw [show (F2_0 v) = (F2_6 v) from if_neg (own_nlt (z := 65) rfl (by omega))]
    rw [show (F2_6 v) = (F2_12 v) from if_pos (own_gt (z := 90) rfl (by omega))]
    rw [show (F2_12 v) = (F2_24 v) from if_pos (own_lt (z := 97) rfl (by omega))]
    rw [show (F2_24 v) = (F2_38 v) from if_pos (own_lt (z := 192) rfl (by omega))]
    rw [show (F2_38 v) = (F2_52 v) from if_pos (own_lt (z := 216) rfl (by omega))]
    rw [show (F2_52 v) = (F2_66 v) from if_pos (own_lt (z := 248) rfl (by omega))]
    rw [show (F2_66 v) = (F2_80 v) from if_pos (own_lt (z := 880) rfl (by omega))]
    rw [show (F2_80 v) = (F2_94 v) from if_pos (own_lt (z := 895) rfl (by omega))]
    rw [show (F2_94 v) = (F2_108 v) from if_pos (own_lt (z := 8204) rfl (by omega))]
    rw [show (F2_108 v) = (F2_122 v) from if_pos (own_lt (z := 8304) rfl (by omega))]
    rw [show (F2_122 v) = (F2_136 v) from if_pos (own_lt (z := 11264) rfl (by omega))]
    rw [show (F2_136 v) = (F2_149 v) from if_pos (own_lt (z := 12289) rfl (by omega))]
    rw [show (F2_149 v) = (F2_161 v) from if_pos (own_lt (z := 63744) rfl (by omega))]
    rw [show (F2_161 v) = (F2_173 v) from if_pos (own_lt (z := 65008) rfl (by omega))]
    rw [show (F2_173 v) = F2_189 from if_pos (own_lt (z := 65536) rfl (by omega))]
    rfl
  have b : F3_0 v = (1 : Int32) := by
    rw [show (F3_0 v) = (F3_8 v) from if_neg (own_nlt (z := 45) rfl (by omega))]
    rw [show (F3_8 v) = (F3_16 v) from if_neg (own_neq (z := 45) rfl (by omega))]
    rw [show (F3_16 v) = (F3_24 v) from if_neg (own_nlt (z := 48) rfl (by omega))]
    rw [show (F3_24 v) = (F3_32 v) from if_pos (own_gt (z := 57) rfl (by omega))]
    rw [show (F3_32 v) = (F3_40 v) from if_neg (own_nlt (z := 65) rfl (by omega))]
    rw [show (F3_40 v) = (F3_48 v) from if_pos (own_gt (z := 90) rfl (by omega))]
    rw [show (F3_48 v) = F3_54 from if_pos (own_eq (z := 95) rfl (by omega))]
    rfl
  show F1t_4 v (F2_0 v) = F3_0 v
  rw [a, b]
  rw [show F1t_4 v (0 : Int32) = F1t_7 v from if_pos rfl]
  rw [show (F1t_7 v) = F1t_66 from if_pos (own_eq (z := 95) rfl (by omega))]
  rfl
theorem own_same_8 (v : Int32) (h1 : 96 ≤ v.toInt) (h2 : v.toInt ≤ 96) : F1_0 v = F3_0 v := by
  have a : F2_0 v = (0 : Int32) := by
    rw [show (F2_0 v) = (F2_6 v) from if_neg (own_nlt (z := 65) rfl (by omega))]
    rw [show (F2_6 v) = (F2_12 v) from if_pos (own_gt (z := 90) rfl (by omega))]
    rw [show (F2_12 v) = (F2_24 v) from if_pos (own_lt (z := 97) rfl (by omega))]
    rw [show (F2_24 v) = (F2_38 v) from if_pos (own_lt (z := 192) rfl (by omega))]
    rw [show (F2_38 v) = (F2_52 v) from if_pos (own_lt (z := 216) rfl (by omega))]
    rw [show (F2_52 v) = (F2_66 v) from if_pos (own_lt (z := 248) rfl (by omega))]
    rw [show (F2_66 v) = (F2_80 v) from if_pos (own_lt (z := 880) rfl (by omega))]
    rw [show (F2_80 v) = (F2_94 v) from if_pos (own_lt (z := 895) rfl (by omega))]
    rw [show (F2_94 v) = (F2_108 v) from if_pos (own_lt (z := 8204) rfl (by omega))]
    rw [show (F2_108 v) = (F2_122 v) from if_pos (own_lt (z := 8304) rfl (by omega))]
    rw [show (F2_122 v) = (F2_136 v) from if_pos (own_lt (z := 11264) rfl (by omega))]
    rw [show (F2_136 v) = (F2_149 v) from if_pos (own_lt (z := 12289) rfl (by omega))]
    rw [show (F2_149 v) = (F2_161 v) from if_pos (own_lt (z := 63744) rfl (by omega))]
    rw [show (F2_161 v) = (F2_173 v) from if_pos (own_lt (z := 65008) rfl (by omega))]
    rw [show (F2_173 v) = F2_189 from if_pos (own_lt (z := 65536) rfl (by omega))]
    rfl
  have b : F3_0 v = (0 : Int32) := by
    rw [show (F3_0 v) = (F3_8 v) from if_neg (own_nlt (z := 45) rfl (by omega))]
    rw [show (F3_8 v) = (F3_16 v) from if_neg (own_neq (z := 45) rfl (by omega))]
    rw [show (F3_16 v) = (F3_24 v) from if_neg (own_nlt (z := 48) rfl (by omega))]
    rw [show (F3_24 v) = (F3_32 v) from if_pos (own_gt (z := 57) rfl (by omega))]
    rw [show (F3_32 v) = (F3_40 v) from if_neg (own_nlt (z := 65) rfl (by omega))]
    rw [show (F3_40 v) = (F3_48 v) from if_pos (own_gt (z := 90) rfl (by omega))]
    rw [show (F3_48 v) = (F3_56 v) from if_neg (own_neq (z := 95) rfl (by omega))]
    rw [show (F3_56 v) = F3_62 from if_pos (own_lt (z := 97) rfl (by omega))]
    rfl
  show F1t_4 v (F2_0 v) = F3_0 v
  rw [a, b]
  rw [show F1t_4 v (0 : Int32) = F1t_7 v from if_pos rfl]
  rw [show (F1t_7 v) = (F1t_13 v) from if_neg (own_neq (z := 95) rfl (by omega))]
  rw [show (F1t_13 v) = (F1t_19 v) from if_neg (own_neq (z := 45) rfl (by omega))]
  rw [show (F1t_19 v) = (F1t_25 v) from if_neg (own_nlt (z := 48) rfl (by omega))]
  rw [show (F1t_25 v) = (F1t_31 v) from if_pos (own_gt (z := 57) rfl (by omega))]
  rw [show (F1t_31 v) = (F1t_38 v) from if_neg (own_neq (z := 183) rfl (by omega))]
  rw [show (F1t_38 v) = (F1t_52 v) from if_pos (own_lt (z := 768) rfl (by omega))]
  rw [show (F1t_52 v) = F1t_70 from if_pos (own_lt (z := 8255) rfl (by omega))]
  rfl
theorem own_same_9 (v : Int32) (h1 : 97 ≤ v.toInt) (h2 : v.toInt ≤ 122) : F1_0 v = F3_0 v := by
  have a : F2_0 v = (1 : Int32) := by
    rw [show (F2_0 v) = (F2_6 v) from if_neg (own_nlt (z := 65) rfl (by omega))]
    rw [show (F2_6 v) = (F2_12 v) from if_pos (own_gt (z := 90) rfl (by omega))]
    rw [show (F2_12 v) = (F2_18 v) from if_neg (own_nlt (z := 97) rfl (by omega))]
    rw [show (F2_18 v) = F2_185 from if_neg (own_ngt (z := 122) rfl (by omega))]
    rfl
  have b : F3_0 v = (1 : Int32) := by
    rw [show (F3_0 v) = (F3_8 v) from if_neg (own_nlt (z := 45) rfl (by omega))]
    rw [show (F3_8 v) = (F3_16 v) from if_neg (own_neq (z := 45) rfl (by omega))]
    rw [show (F3_16 v) = (F3_24 v) from if_neg (own_nlt (z := 48) rfl (by omega))]
    rw [show (F3_24 v) = (F3_32 v) from if_pos (own_gt (z := 57) rfl (by omega))]
    rw [show (F3_32 v) = (F3_40 v) from if_neg (own_nlt (z := 65) rfl (by omega))]
    rw [show (F3_40 v) = (F3_48 v) from if_pos (own_gt (z := 90) rfl (by omega))]
    rw [show (F3_48 v) = (F3_56 v) from if_neg (own_neq (z := 95) rfl (by omega))]
    rw [show (F3_56 v) = (F3_64 v) from if_neg (own_nlt (z := 97) rfl (by omega))]
    rw [show (F3_64 v) = F3_70 from if_neg (own_ngt (z := 122) rfl (by omega))]
    rfl
  show F1t_4 v (F2_0 v) = F3_0 v
  rw [a, b]
  rfl
theorem own_same_10 (v : Int32) (h1 : 123 ≤ v.toInt) (h2 : v.toInt ≤ 182) : F1_0 v = F3_0 v := by
  have a : F2_0 v = (0 : Int32) := by
    rw [show (F2_0 v) = (F2_6 v) from if_neg (own_nlt (z := 65) rfl (by omega))]
    rw [show (F2_6 v) = (F2_12 v) from if_pos (own_gt (z := 90) rfl (by omega))]
    rw [show (F2_12 v) = (F2_18 v) from if_neg (own_nlt (z := 97) rfl (by omega))]
    rw [show (F2_18 v) = (F2_24 v) from if_pos (own_gt (z := 122) rfl (by omega))]
    rw [show (F2_24 v) = (F2_38 v) from if_pos (own_lt (z := 192) rfl (by omega))]
    rw [show (F2_38 v) = (F2_52 v) from if_pos (own_lt (z := 216) rfl (by omega))]
    rw [show (F2_52 v) = (F2_66 v) from if_pos (own_lt (z := 248) rfl (by omega))]
    rw [show (F2_66 v) = (F2_80 v) from if_pos (own_lt (z := 880) rfl (by omega))]
    rw [show (F2_80 v) = (F2_94 v) from if_pos (own_lt (z := 895) rfl (by omega))]
    rw [show (F2_94 v) = (F2_108 v) from if_pos (own_lt (z := 8204) rfl (by omega))]
    rw [show (F2_108 v) = (F2_122 v) from if_pos (own_lt (z := 8304) rfl (by omega))]
    rw [show (F2_122 v) = (F2_136 v) from if_pos (own_lt (z := 11264) rfl (by omega))]
    rw [show (F2_136 v) = (F2_149 v) from if_pos (own_lt (z := 12289) rfl (by omega))]
    rw [show (F2_149 v) = (F2_161 v) from if_pos (own_lt (z := 63744) rfl (by omega))]
    rw [show (F2_161 v) = (F2_173 v) from if_pos (own_lt (z := 65008) rfl (by omega))]
    rw [show (F2_173 v) = F2_189 from if_pos (own_lt (z := 65536) rfl (by omega))]
    rfl
  have b : F3_0 v = (0 : Int32) := by
    rw [show (F3_0 v) = (F3_8 v) from if_neg (own_nlt (z := 45) rfl (by omega))]
    rw [show (F3_8 v) = (F3_16 v) from if_neg (own_neq (z := 45) rfl (by omega))]
    rw [show (F3_16 v) = (F3_24 v) from if_neg (own_nlt (z := 48) rfl (by omega))]
    rw [show (F3_24 v) = (F3_32 v) from if_pos (own_gt (z := 57) rfl (by omega))]
    rw [show (F3_32 v) = (F3_40 v) from if_neg (own_nlt (z := 65) rfl (by omega))]
    rw [show (F3_40 v) = (F3_48 v) from if_pos (own_gt (z := 90) rfl (by omega))]
    rw [show (F3_48 v) = (F3_56 v) from if_neg (own_neq (z := 95) rfl (by omega))]
    rw [show (F3_56 v) = (F3_64 v) from if_neg (own_nlt (z := 97) rfl (by omega))]
    rw [show (F3_64 v) = (F3_72 v) from if_pos (own_gt (z := 122) rfl (by omega))]
    rw [show (F3_72 v) = F3_79 from if_pos (own_lt (z := 183) rfl (by omega))]
    rfl
  show F1t_4 v (F2_0 v) = F3_0 v
  rw [a, b]
  rw [show F1t_4 v (0 : Int32) = F1t_7 v from if_pos rfl]
  rw [show (F1t_7 v) = (F1t_13 v) from if_neg (own_neq (z := 95) rfl (by omega))]
  rw [show (F1t_13 v) = (F1t_19 v) from if_neg (own_neq (z := 45) rfl (by omega))]
  rw [show (F1t_19 v) = (F1t_25 v) from if_neg (own_nlt (z := 48) rfl (by omega))]
  rw [show (F1t_25 v) = (F1t_31 v) from if_pos (own_gt (z := 57) rfl (by omega))]
  rw [show (F1t_31 v) = (F1t_38 v) from if_neg (own_neq (z := 183) rfl (by omega))]
  rw [show (F1t_38 v) = (F1t_52 v) from if_pos (own_lt (z := 768) rfl (by omega))]
  rw [show (F1t_52 v) = F1t_70 from if_pos (own_lt (z := 8255) rfl (by omega))]
  rfl
theorem own_same_11 (v : Int32) (h1 : 183 ≤ v.toInt) (h2 : v.toInt ≤ 183) : F1_0 v = F3_0 v := by
  have a : F2_0 v = (0 : Int32) := by
    rw [show (F2_0 v) = (F2_6 v) from if_neg (own_nlt (z := 65) rfl (by omega))]
    rw [show (F2_6 v) = (F2_12 v) from if_pos (own_gt (z := 90) rfl (by omega))]
    rw [show (F2_12 v) = (F2_18 v) from if_neg (own_nlt (z := 97) rfl (by omega))]
    rw [show (F2_18 v) = (F2_24 v) from if_pos (own_gt (z := 122) rfl (by omega))]
    rw [show (F2_24 v) = (F2_38 v) from if_pos (own_lt (z := 192) rfl (by omega))]
    rw [show (F2_38 v) = (F2_52 v) from if_pos (own_lt (z := 216) rfl (by omega))]
    rw [show (F2_52 v) = (F2_66 v) from if_pos (own_lt (z := 248) rfl (by omega))]
    rw [show (F2_66 v) = (F2_80 v) from if_pos (own_lt (z := 880) rfl (by omega))]
    rw [show (F2_80 v) = (F2_94 v) from if_pos (own_lt (z := 895) rfl (by omega))]
    rw [show (F2_94 v) = (F2_108 v) from if_pos (own_lt (z := 8204) rfl (by omega))]
    rw [show (F2_108 v) = (F2_122 v) from if_pos (own_lt (z := 8304) rfl (by omega))]
    rw [show (F2_122 v) = (F2_136 v) from if_pos (own_lt (z := 11264) rfl (by omega))]
    rw [show (F2_136 v) = (F2_149 v) from if_pos (own_lt (z := 12289) rfl (by omega))]
    rw [show (F2_149 v) = (F2_161 v) from if_pos (own_lt (z := 63744) rfl (by omega))]
    rw [show (F2_161 v) = (F2_173 v) from if_pos (own_lt (z := 65008) rfl (by omega))]
    rw [show (F2_173 v) = F2_189 from if_pos (own_lt (z := 65536) rfl (by omega))]
    rfl
  have b : F3_0 v = (1 : Int32) := by
    rw [show (F3_0 v) = (F3_8 v) from if_neg (own_nlt (z := 45) rfl (by omega))]
    rw [show (F3_8 v) = (F3_16 v) from if_neg (own_neq (z := 45) rfl (by omega))]
    rw [show (F3_16 v) = (F3_24 v) from if_neg (own_nlt (z := 48) rfl (by omega))]
    rw [show (F3_24 v) = (F3_32 v) from if_pos (own_gt (z := 57) rfl (by omega))]
    rw [show (F3_32 v) = (F3_40 v) from if_neg (own_nlt (z := 65) rfl (by omega))]
    rw [show (F3_40 v) = (F3_48 v) from if_pos (own_gt (z := 90) rfl (by omega))]
    rw [show (F3_48 v) = (F3_56 v) from if_neg (own_neq (z := 95) rfl (by omega))]
    rw [show (F3_56 v) = (F3_64 v) from if_neg (own_nlt (z := 97) rfl (by omega))]
    rw [show (F3_64 v) = (F3_72 v) from if_pos (own_gt (z := 122) rfl (by omega))]
    rw [show (F3_72 v) = (F3_81 v) from if_neg (own_nlt (z := 183) rfl (by omega))]
    rw [show (F3_81 v) = F3_88 from if_pos (own_eq (z := 183) rfl (by omega))]
    rfl
  show F1t_4 v (F2_0 v) = F3_0 v
  rw [a, b]
  rw [show F1t_4 v (0 : Int32) = F1t_7 v from if_pos rfl]
  rw [show (F1t_7 v) = (F1t_13 v) from if_neg (own_neq (z := 95) rfl (by omega))]
  rw [show (F1t_13 v) = (F1t_19 v) from if_neg (own_neq (z := 45) rfl (by omega))]
  rw [show (F1t_19 v) = (F1t_25 v) from if_neg (own_nlt (z := 48) rfl (by omega))]
  rw [show (F1t_25 v) = (F1t_31 v) from if_pos (own_gt (z := 57) rfl (by omega))]
  rw [show (F1t_31 v) = F1t_66 from if_pos (own_eq (z := 183) rfl (by omega))]
  rfl
theorem own_same_12 (v : Int32) (h1 : 184 ≤ v.toInt) (h2 : v.toInt ≤ 191) : F1_0 v = F3_0 v := by
  have a : F2_0 v = (0 : Int32) := by
    rw [show (F2_0 v) = (F2_6 v) from if_neg (own_nlt (z := 65) rfl (by omega))]
    rw [show (F2_6 v) = (F2_12 v) from if_pos (own_gt (z := 90) rfl (by omega))]
    rw [show (F2_12 v) = (F2_18 v) from if_neg (own_nlt (z := 97) rfl (by omega))]
    rw [show (F2_18 v) = (F2_24 v) from if_pos (own_gt (z := 122) rfl (by omega))]
    rw [show (F2_24 v) = (F2_38 v) from if_pos (own_lt (z := 192) rfl (by omega))]
    rw [show (F2_38 v) = (F2_52 v) from if_pos (own_lt (z := 216) rfl (by omega))]
    rw [show (F2_52 v) = (F2_66 v) from if_pos (own_lt (z := 248) rfl (by omega))]
    rw [show (F2_66 v) = (F2_80 v) from if_pos (own_lt (z := 880) rfl (by omega))]
    rw [show (F2_80 v) = (F2_94 v) from if_pos (own_lt (z := 895) rfl (by omega))]
    rw [show (F2_94 v) = (F2_108 v) from if_pos (own_lt (z := 8204) rfl (by omega))]
    rw [show (F2_108 v) = (F2_122 v) from if_pos (own_lt (z := 8304) rfl (by omega))]
    rw [show (F2_122 v) = (F2_136 v) from if_pos (own_lt (z := 11264) rfl (by omega))]
    rw [show (F2_136 v) = (F2_149 v) from if_pos (own_lt (z := 12289) rfl (by omega))]
    rw [show (F2_149 v) = (F2_161 v) from if_pos (own_lt (z := 63744) rfl (by omega))]
    rw [show (F2_161 v) = (F2_173 v) from if_pos (own_lt (z := 65008) rfl (by omega))]
    rw [show (F2_173 v) = F2_189 from if_pos (own_lt (z := 65536) rfl (by omega))]
    rfl
  have b : F3_0 v = (0 : Int32) := by
    rw [show (F3_0 v) = (F3_8 v) from if_neg (own_nlt (z := 45) rfl (by omega))]
    rw [show (F3_8 v) = (F3_16 v) from if_neg (own_neq (z := 45) rfl (by omega))]
    rw [show (F3_16 v) = (F3_24 v) from if_neg (own_nlt (z := 48) rfl (by omega))]
    rw [show (F3_24 v) = (F3_32 v) from if_pos (own_gt (z := 57) rfl (by omega))]
    rw [show (F3_32 v) = (F3_40 v) from if_neg (own_nlt (z := 65) rfl (by omega))]
    rw [show (F3_40 v) = (F3_48 v) from if_pos (own_gt (z := 90) rfl (by omega))]
    rw [show (F3_48 v) = (F3_56 v) from if_neg (own_neq (z := 95) rfl (by omega))]
    rw [show (F3_56 v) = (F3_64 v) from if_neg (own_nlt (z := 97) rfl (by omega))]
    rw [show (F3_64 v) = (F3_72 v) from if_pos (own_gt (z := 122) rfl (by omega))]
    rw [show (F3_72 v) = (F3_81 v) from if_neg (own_nlt (z := 183) rfl (by omega))]
    rw [show (F3_81 v) = (F3_90 v) from if_neg (own_neq (z := 183) rfl (by omega))]
    rw [show (F3_90 v) = F3_97 from if_pos (own_lt (z := 192) rfl (by omega))]
    rfl
  show F1t_4 v (F2_0 v) = F3_0 v
  rw [a, b]
  rw [show F1t_4 v (0 : Int32) = F1t_7 v from if_pos rfl]
  rw [show (F1t_7 v) = (F1t_13 v) from if_neg (own_neq (z := 95) rfl (by omega))]
  rw [show (F1t_13 v) = (F1t_19 v) from if_neg (own_neq (z := 45) rfl (by omega))]
  rw [show (F1t_19 v) = (F1t_25 v) from if_neg (own_nlt (z := 48) rfl (by omega))]
  rw [show (F1t_25 v) = (F1t_31 v) from if_pos (own_gt (z := 57) rfl (by omega))]
  rw [show (F1t_31 v) = (F1t_38 v) from if_neg (own_neq (z := 183) rfl (by omega))]
  rw [show (F1t_38 v) = (F1t_52 v) from if_pos (own_lt (z := 768) rfl (by omega))]
  rw [show (F1t_52 v) = F1t_70 from if_pos (own_lt (z := 8255) rfl (by omega))]
  rfl
theorem own_same_13 (v : Int32) (h1 : 192 ≤ v.toInt) (h2 : v.toInt ≤ 214) : F1_0 v = F3_0 v := by
  have a : F2_0 v = (1 : Int32) := by
    rw [show (F2_0 v) = (F2_6 v) from if_neg (own_nlt (z := 65) rfl (by omega))]
    rw [show (F2_6 v) = (F2_12 v) from if_pos (own_gt (z := 90) rfl (by omega))]
    rw [show (F2_12 v) = (F2_18 v) from if_neg (own_nlt (z := 97) rfl (by omega))]
    rw [show (F2_18 v) = (F2_24 v) from if_pos (own_gt (z := 122) rfl (by omega))]
    rw [show (F2_24 v) = (F2_31 v) from if_neg (own_nlt (z := 192) rfl (by omega))]
    rw [show (F2_31 v) = F2_185 from if_neg (own_ngt (z := 214) rfl (by omega))]
    rfl
  have b : F3_0 v = (1 : Int32) := by
    rw [show (F3_0 v) = (F3_8 v) from if_neg (own_nlt (z := 45) rfl (by omega))]
    rw [show (F3_8 v) = (F3_16 v) from if_neg (own_neq (z := 45) rfl (by omega))]
    rw [show (F3_16 v) = (F3_24 v) from if_neg (own_nlt (z := 48) rfl (by omega))]
    rw [show (F3_24 v) = (F3_32 v) from if_pos (own_gt (z := 57) rfl (by omega))]
    rw [show (F3_32 v) = (F3_40 v) from if_neg (own_nlt (z := 65) rfl (by omega))]
    rw [show (F3_40 v) = (F3_48 v) from if_pos (own_gt (z := 90) rfl (by omega))]
    rw [show (F3_48 v) = (F3_56 v) from if_neg (own_neq (z := 95) rfl (by omega))]
    rw [show (F3_56 v) = (F3_64 v) from if_neg (own_nlt (z := 97) rfl (by omega))]
    rw [show (F3_64 v) = (F3_72 v) from if_pos (own_gt (z := 122) rfl (by omega))]
    rw [show (F3_72 v) = (F3_81 v) from if_neg (own_nlt (z := 183) rfl (by omega))]
    rw [show (F3_81 v) = (F3_90 v) from if_neg (own_neq (z := 183) rfl (by omega))]
    rw [show (F3_90 v) = (F3_99 v) from if_neg (own_nlt (z := 192) rfl (by omega))]
    rw [show (F3_99 v) = F3_106 from if_neg (own_ngt (z := 214) rfl (by omega))]
    rfl
  show F1t_4 v (F2_0 v) = F3_0 v
  rw [a, b]
  rfl
theorem own_same_14 (v : Int32) (h1 : 215 ≤ v.toInt) (h2 : v.toInt ≤ 215) : F1_0 v = F3_0 v := by
  have a : F2_0 v = (0 : Int32) := by
    rw [show (F2_0 v) = (F2_6 v) from if_neg (own_nlt (z := 65) rfl (by omega))]
    rw [show (F2_6 v) = (F2_12 v) from if_pos (own_gt (z := 90) rfl (by omega))]
    rw [show (F2_12 v) = (F2_18 v) from if_neg (own_nlt (z := 97) rfl (by omega))]
    rw [show (F2_18 v) = (F2_24 v) from if_pos (own_gt (z := 122) rfl (by omega))]
    rw [show (F2_24 v) = (F2_31 v) from if_neg (own_nlt (z := 192) rfl (by omega))]
    rw [show (F2_31 v) = (F2_38 v) from if_pos (own_gt (z := 214) rfl (by omega))]
    rw [show (F2_38 v) = (F2_52 v) from if_pos (own_lt (z := 216) rfl (by omega))]
    rw [show (F2_52 v) = (F2_66 v) from if_pos (own_lt (z := 248) rfl (by omega))]
    rw [show (F2_66 v) = (F2_80 v) from if_pos (own_lt (z := 880) rfl (by omega))]
    rw [show (F2_80 v) = (F2_94 v) from if_pos (own_lt (z := 895) rfl (by omega))]
    rw [show (F2_94 v) = (F2_108 v) from if_pos (own_lt (z := 8204) rfl (by omega))]
    rw [show (F2_108 v) = (F2_122 v) from if_pos (own_lt (z := 8304) rfl (by omega))]
    rw [show (F2_122 v) = (F2_136 v) from if_pos (own_lt (z := 11264) rfl (by omega))]
    rw [show (F2_136 v) = (F2_149 v) from if_pos (own_lt (z := 12289) rfl (by omega))]
    rw [show (F2_149 v) = (F2_161 v) from if_pos (own_lt (z := 63744) rfl (by omega))]
    rw [show (F2_161 v) = (F2_173 v) from if_pos (own_lt (z := 65008) rfl (by omega))]
    rw [show (F2_173 v) = F2_189 from if_pos (own_lt (z := 65536) rfl (by omega))]
    rfl
  have b : F3_0 v = (0 : Int32) := by
    rw [show (F3_0 v) = (F3_8 v) from if_neg (own_nlt (z := 45) rfl (by omega))]
    rw [show (F3_8 v) = (F3_16 v) from if_neg (own_neq (z := 45) rfl (by omega))]
    rw [show (F3_16 v) = (F3_24 v) from if_neg (own_nlt (z := 48) rfl (by omega))]
    rw [show (F3_24 v) = (F3_32 v) from if_pos (own_gt (z := 57) rfl (by omega))]
    rw [show (F3_32 v) = (F3_40 v) from if_neg (own_nlt (z := 65) rfl (by omega))]
    rw [show (F3_40 v) = (F3_48 v) from if_pos (own_gt (z := 90) rfl (by omega))]
    rw [show (F3_48 v) = (F3_56 v) from if_neg (own_neq (z := 95) rfl (by omega))]
    rw [show (F3_56 v) = (F3_64 v) from if_neg (own_nlt (z := 97) rfl (by omega))]
    rw [show (F3_64 v) = (F3_72 v) from if_pos (own_gt (z := 122) rfl (by omega))]
    rw [show (F3_72 v) = (F3_81 v) from if_neg (own_nlt (z := 183) rfl (by omega))]
    rw [show (F3_81 v) = (F3_90 v) from if_neg (own_neq (z := 183) rfl (by omega))]
    rw [show (F3_90 v) = (F3_99 v) from if_neg (own_nlt (z := 192) rfl (by omega))]
    rw [show (F3_99 v) = (F3_108 v) from if_pos (own_gt (z := 214) rfl (by omega))]
    rw [show (F3_108 v) = F3_115 from if_pos (own_eq (z := 215) rfl (by omega))]
    rfl
  show F1t_4 v (F2_0 v) = F3_0 v
  rw [a, b]
  rw [show F1t_4 v (0 : Int32) = F1t_7 v from if_pos rfl]
  rw [show (F1t_7 v) = (F1t_13 v) from if_neg (own_neq (z := 95) rfl (by omega))]
  rw [show (F1t_13 v) = (F1t_19 v) from if_neg (own_neq (z := 45) rfl (by omega))]
  rw [show (F1t_19 v) = (F1t_25 v) from if_neg (own_nlt (z := 48) rfl (by omega))]
  rw [show (F1t_25 v) = (F1t_31 v) from if_pos (own_gt (z := 57) rfl (by omega))]
  rw [show (F1t_31 v) = (F1t_38 v) from if_neg (own_neq (z := 183) rfl (by omega))]
  rw [show (F1t_38 v) = (F1t_52 v) from if_pos (own_lt (z := 768) rfl (by omega))]
  rw [show (F1t_52 v) = F1t_70 from if_pos (own_lt (z := 8255) rfl (by omega))]
  rfl
theorem own_same_15 (v : Int32) (h1 : 216 ≤ v.toInt) (h2 : v.toInt ≤ 246) : F1_0 v = F3_0 v := by
  have a : F2_0 v = (1 : Int32) := by
    rw [show (F2_0 v) = (F2_6 v) from if_neg (own_nlt (z := 65) rfl (by omega))]
    rw [show (F2_6 v) = (F2_12 v) from if_pos (own_gt (z := 90) rfl (by omega))]
    rw [show (F2_12 v) = (F2_18 v) from if_neg (own_nlt (z := 97) rfl (by omega))]
    rw [show (F2_18 v) = (F2_24 v) from if_pos (own_gt (z := 122) rfl (by omega))]
    rw [show (F2_24 v) = (F2_31 v) from if_neg (own_nlt (z := 192) rfl (by omega))]
    rw [show (F2_31 v) = (F2_38 v) from if_pos (own_gt (z := 214) rfl (by omega))]
    rw [show (F2_38 v) = (F2_45 v) from if_neg (own_nlt (z := 216) rfl (by omega))]
    rw [show (F2_45 v) = F2_185 from if_neg (own_ngt (z := 246) rfl (by omega))]
    rfl
  have b : F3_0 v = (1 : Int32) := by
    rw [show (F3_0 v) = (F3_8 v) from if_neg (own_nlt (z := 45) rfl (by omega))]
    rw [show (F3_8 v) = (F3_16 v) from if_neg (own_neq (z := 45) rfl (by omega))]
    rw [show (F3_16 v) = (F3_24 v) from if_neg (own_nlt (z := 48) rfl (by omega))]
    rw [show (F3_24 v) = (F3_32 v) from if_pos (own_gt (z := 57) rfl (by omega))]
    rw [show (F3_32 v) = (F3_40 v) from if_neg (own_nlt (z := 65) rfl (by omega))]
    rw [show (F3_40 v) = (F3_48 v) from if_pos (own_gt (z := 90) rfl (by omega))]
    rw [show (F3_48 v) = (F3_56 v) from if_neg (own_neq (z := 95) rfl (by omega))]
    rw [show (F3_56 v) = (F3_64 v) from if_neg (own_nlt (z := 97) rfl (by omega))]
    rw [show (F3_64 v) = (F3_72 v) from if_pos (own_gt (z := 122) rfl (by omega))]
    rw [show (F3_72 v) = (F3_81 v) from if_neg (own_nlt (z := 183) rfl (by omega))]
    rw [show (F3_81 v) = (F3_90 v) from if_neg (own_neq (z := 183) rfl (by omega))]
    rw [show (F3_90 v) = (F3_99 v) from if_neg (own_nlt (z := 192) rfl (by omega))]
    rw [show (F3_99 v) = (F3_108 v) from if_pos (own_gt (z := 214) rfl (by omega))]
    rw [show (F3_108 v) = (F3_117 v) from if_neg (own_neq (z := 215) rfl (by omega))]
    rw [show (F3_117 v) = F3_124 from if_neg (own_ngt (z := 246) rfl (by omega))]
    rfl
  show F1t_4 v (F2_0 v) = F3_0 v
  rw [a, b]
  rfl
theorem own_same_16 (v : Int32) (h1 : 247 ≤ v.toInt) (h2 : v.toInt ≤ 247) : F1_0 v = F3_0 v := by
  have a : F2_0 v = (0 : Int32) := by
    rw [show (F2_0 v) = (F2_6 v) from if_neg (own_nlt (z := 65) rfl (by omega))]
    rw [show (F2_6 v) = (F2_12 v) from if_pos (own_gt (z := 90) rfl (by omega))]
    rw [show (F2_12 v) = (F2_18 v) from if_neg (own_nlt (z := 97) rfl (by omega))]
    rw [show (F2_18 v) = (F2_24 v) from if_pos (own_gt (z := 122) rfl (by omega))]
    rw [show (F2_24 v) = (F2_31 v) from if_neg (own_nlt (z := 192) rfl (by omega))]
    rw [show (F2_31 v) = (F2_38 v) from if_pos (own_gt (z := 214) rfl (by omega))]
    rw [show (F2_38 v) = (F2_45 v) from if_neg (own_nlt (z := 216) rfl (by omega))]
    rw [show (F2_45 v) = (F2_52 v) from if_pos (own_gt (z := 246) rfl (by omega))]
    rw [show (F2_52 v) = (F2_66 v) from if_pos (own_lt (z := 248) rfl (by omega))]
    rw [show (F2_66 v) = (F2_80 v) from if_pos (own_lt (z := 880) rfl (by omega))]
    rw [show (F2_80 v) = (F2_94 v) from if_pos (own_lt (z := 895) rfl (by omega))]
    rw [show (F2_94 v) = (F2_108 v) from if_pos (own_lt (z := 8204) rfl (by omega))]
    rw [show (F2_108 v) = (F2_122 v) from if_pos (own_lt (z := 8304) rfl (by omega))]
    rw [show (F2_122 v) = (F2_136 v) from if_pos (own_lt (z := 11264) rfl (by omega))]
    rw [show (F2_136 v) = (F2_149 v) from if_pos (own_lt (z := 12289) rfl (by omega))]
    rw [show (F2_149 v) = (F2_161 v) from if_pos (own_lt (z := 63744) rfl (by omega))]
    rw [show (F2_161 v) = (F2_173 v) from if_pos (own_lt (z := 65008) rfl (by omega))]
    rw [show (F2_173 v) = F2_189 from if_pos (own_lt (z := 65536) rfl (by omega))]
    rfl
  have b : F3_0 v = (0 : Int32) := by
    rw [show (F3_0 v) = (F3_8 v) from if_neg (own_nlt (z := 45) rfl (by omega))]
    rw [show (F3_8 v) = (F3_16 v) from if_neg (own_neq (z := 45) rfl (by omega))]
    rw [show (F3_16 v) = (F3_24 v) from if_neg (own_nlt (z := 48) rfl (by omega))]
    rw [show (F3_24 v) = (F3_32 v) from if_pos (own_gt (z := 57) rfl (by omega))]
    rw [show (F3_32 v) = (F3_40 v) from if_neg (own_nlt (z := 65) rfl (by omega))]
    rw [show (F3_40 v) = (F3_48 v) from if_pos (own_gt (z := 90) rfl (by omega))]
    rw [show (F3_48 v) = (F3_56 v) from if_neg (own_neq (z := 95) rfl (by omega))]
    rw [show (F3_56 v) = (F3_64 v) from if_neg (own_nlt (z := 97) rfl (by omega))]
    rw [show (F3_64 v) = (F3_72 v) from if_pos (own_gt (z := 122) rfl (by omega))]
    rw [show (F3_72 v) = (F3_81 v) from if_neg (own_nlt (z := 183) rfl (by omega))]
    rw [show (F3_81 v) = (F3_90 v) from if_neg (own_neq (z := 183) rfl (by omega))]
    rw [show (F3_90 v) = (F3_99 v) from if_neg (own_nlt (z := 192) rfl (by omega))]
    rw [show (F3_99 v) = (F3_108 v) from if_pos (own_gt (z := 214) rfl (by omega))]
    rw [show (F3_108 v) = (F3_117 v) from if_neg (own_neq (z := 215) rfl (by omega))]
    rw [show (F3_117 v) = (F3_126 v) from if_pos (own_gt (z := 246) rfl (by omega))]
    rw [show (F3_126 v) = F3_133 from if_pos (own_eq (z := 247) rfl (by omega))]
    rfl
  show F1t_4 v (F2_0 v) = F3_0 v
  rw [a, b]
  rw [show F1t_4 v (0 : Int32) = F1t_7 v from if_pos rfl]
  rw [show (F1t_7 v) = (F1t_13 v) from if_neg (own_neq (z := 95) rfl (by omega))]
  rw [show (F1t_13 v) = (F1t_19 v) from if_neg (own_neq (z := 45) rfl (by omega))]
  rw [show (F1t_19 v) = (F1t_25 v) from if_neg (own_nlt (z := 48) rfl (by omega))]
  rw [show (F1t_25 v) = (F1t_31 v) from if_pos (own_gt (z := 57) rfl (by omega))]
  rw [show (F1t_31 v) = (F1t_38 v) from if_neg (own_neq (z := 183) rfl (by omega))]
  rw [show (F1t_38 v) = (F1t_52 v) from if_pos (own_lt (z := 768) rfl (by omega))]
  rw [show (F1t_52 v) = F1t_70 from if_pos (own_lt (z := 8255) rfl (by omega))]
  rfl
theorem own_same_17 (v : Int32) (h1 : 248 ≤ v.toInt) (h2 : v.toInt ≤ 767) : F1_0 v = F3_0 v := by
  have a : F2_0 v = (1 : Int32) := by
    rw [show (F2_0 v) = (F2_6 v) from if_neg (own_nlt (z := 65) rfl (by omega))]
    rw [show (F2_6 v) = (F2_12 v) from if_pos (own_gt (z := 90) rfl (by omega))]
    rw [show (F2_12 v) = (F2_18 v) from if_neg (own_nlt (z := 97) rfl (by omega))]
    rw [show (F2_18 v) = (F2_24 v) from if_pos (own_gt (z := 122) rfl (by omega))]
    rw [show (F2_24 v) = (F2_31 v) from if_neg (own_nlt (z := 192) rfl (by omega))]
    rw [show (F2_31 v) = (F2_38 v) from if_pos (own_gt (z := 214) rfl (by omega))]
    rw [show (F2_38 v) = (F2_45 v) from if_neg (own_nlt (z := 216) rfl (by omega))]
    rw [show (F2_45 v) = (F2_52 v) from if_pos (own_gt (z := 246) rfl (by omega))]
    rw [show (F2_52 v) = (F2_59 v) from if_neg (own_nlt (z := 248) rfl (by omega))]
    rw [show (F2_59 v) = F2_185 from if_neg (own_ngt (z := 767) rfl (by omega))]
    rfl
  have b : F3_0 v = (1 : Int32) := by
    rw [show (F3_0 v) = (F3_8 v) from if_neg (own_nlt (z := 45) rfl (by omega))]
    rw [show (F3_8 v) = (F3_16 v) from if_neg (own_neq (z := 45) rfl (by omega))]
    rw [show (F3_16 v) = (F3_24 v) from if_neg (own_nlt (z := 48) rfl (by omega))]
    rw [show (F3_24 v) = (F3_32 v) from if_pos (own_gt (z := 57) rfl (by omega))]
    rw [show (F3_32 v) = (F3_40 v) from if_neg (own_nlt (z := 65) rfl (by omega))]
    rw [show (F3_40 v) = (F3_48 v) from if_pos (own_gt (z := 90) rfl (by omega))]
    rw [show (F3_48 v) = (F3_56 v) from if_neg (own_neq (z := 95) rfl (by omega))]
    rw [show (F3_56 v) = (F3_64 v) from if_neg (own_nlt (z := 97) rfl (by omega))]
    rw [show (F3_64 v) = (F3_72 v) from if_pos (own_gt (z := 122) rfl (by omega))]
    rw [show (F3_72 v) = (F3_81 v) from if_neg (own_nlt (z := 183) rfl (by omega))]
    rw [show (F3_81 v) = (F3_90 v) from if_neg (own_neq (z := 183) rfl (by omega))]
    rw [show (F3_90 v) = (F3_99 v) from if_neg (own_nlt (z := 192) rfl (by omega))]
    rw [show (F3_99 v) = (F3_108 v) from if_pos (own_gt (z := 214) rfl (by omega))]
    rw [show (F3_108 v) = (F3_117 v) from if_neg (own_neq (z := 215) rfl (by omega))]
    rw [show (F3_117 v) = (F3_126 v) from if_pos (own_gt (z := 246) rfl (by omega))]
    rw [show (F3_126 v) = (F3_135 v) from if_neg (own_neq (z := 247) rfl (by omega))]
    rw [show (F3_135 v) = F3_142 from if_neg (own_ngt (z := 893) rfl (by omega))]
    rfl
  show F1t_4 v (F2_0 v) = F3_0 v
  rw [a, b]
  rfl
theorem own_same_18 (v : Int32) (h1 : 768 ≤ v.toInt) (h2 : v.toInt ≤ 879) : F1_0 v = F3_0 v := by
  have a : F2_0 v = (0 : Int32) := by
    rw [show (F2_0 v) = (F2_6 v) from if_neg (own_nlt (z := 65) rfl (by omega))]
    rw [show (F2_6 v) = (F2_12 v) from if_pos (own_gt (z := 90) rfl (by omega))]
    rw [show (F2_12 v) = (F2_18 v) from if_neg (own_nlt (z := 97) rfl (by omega))]
    rw [show (F2_18 v) = (F2_24 v) from if_pos (own_gt (z := 122) rfl (by omega))]
    rw [show (F2_24 v) = (F2_31 v) from if_neg (own_nlt (z := 192) rfl (by omega))]
    rw [show (F2_31 v) = (F2_38 v) from if_pos (own_gt (z := 214) rfl (by omega))]
    rw [show (F2_38 v) = (F2_45 v) from if_neg (own_nlt (z := 216) rfl (by omega))]
    rw [show (F2_45 v) = (F2_52 v) from if_pos (own_gt (z := 246) rfl (by omega))]
    rw [show (F2_52 v) = (F2_59 v) from if_neg (own_nlt (z := 248) rfl (by omega))]
    rw [show (F2_59 v) = (F2_66 v) from if_pos (own_gt (z := 767) rfl (by omega))]
    rw [show (F2_66 v) = (F2_80 v) from if_pos (own_lt (z := 880) rfl (by omega))]
    rw [show (F2_80 v) = (F2_94 v) from if_pos (own_lt (z := 895) rfl (by omega))]
    rw [show (F2_94 v) = (F2_108 v) from if_pos (own_lt (z := 8204) rfl (by omega))]
    rw [show (F2_108 v) = (F2_122 v) from if_pos (own_lt (z := 8304) rfl (by omega))]
    rw [show (F2_122 v) = (F2_136 v) from if_pos (own_lt (z := 11264) rfl (by omega))]
    rw [show (F2_136 v) = (F2_149 v) from if_pos (own_lt (z := 12289) rfl (by omega))]
    rw [show (F2_149 v) = (F2_161 v) from if_pos (own_lt (z := 63744) rfl (by omega))]
    rw [show (F2_161 v) = (F2_173 v) from if_pos (own_lt (z := 65008) rfl (by omega))]
    rw [show (F2_173 v) = F2_189 from if_pos (own_lt (z := 65536) rfl (by omega))]
    rfl
  have b : F3_0 v = (1 : Int32) := by
    rw [show (F3_0 v) = (F3_8 v) from if_neg (own_nlt (z := 45) rfl (by omega))]
    rw [show (F3_8 v) = (F3_16 v) from if_neg (own_neq (z := 45) rfl (by omega))]
    rw [show (F3_16 v) = (F3_24 v) from if_neg (own_nlt (z := 48) rfl (by omega))]
    rw [show (F3_24 v) = (F3_32 v) from if_pos (own_gt (z := 57) rfl (by omega))]
    rw [show (F3_32 v) = (F3_40 v) from if_neg (own_nlt (z := 65) rfl (by omega))]
    rw [show (F3_40 v) = (F3_48 v) from if_pos (own_gt (z := 90) rfl (by omega))]
    rw [show (F3_48 v) = (F3_56 v) from if_neg (own_neq (z := 95) rfl (by omega))]
    rw [show (F3_56 v) = (F3_64 v) from if_neg (own_nlt (z := 97) rfl (by omega))]
    rw [show (F3_64 v) = (F3_72 v) from if_pos (own_gt (z := 122) rfl (by omega))]
    rw [show (F3_72 v) = (F3_81 v) from if_neg (own_nlt (z := 183) rfl (by omega))]
    rw [show (F3_81 v) = (F3_90 v) from if_neg (own_neq (z := 183) rfl (by omega))]
    rw [show (F3_90 v) = (F3_99 v) from if_neg (own_nlt (z := 192) rfl (by omega))]
    rw [show (F3_99 v) = (F3_108 v) from if_pos (own_gt (z := 214) rfl (by omega))]
    rw [show (F3_108 v) = (F3_117 v) from if_neg (own_neq (z := 215) rfl (by omega))]
    rw [show (F3_117 v) = (F3_126 v) from if_pos (own_gt (z := 246) rfl (by omega))]
    rw [show (F3_126 v) = (F3_135 v) from if_neg (own_neq (z := 247) rfl (by omega))]
    rw [show (F3_135 v) = F3_142 from if_neg (own_ngt (z := 893) rfl (by omega))]
    rfl
  show F1t_4 v (F2_0 v) = F3_0 v
  rw [a, b]
  rw [show F1t_4 v (0 : Int32) = F1t_7 v from if_pos rfl]
  rw [show (F1t_7 v) = (F1t_13 v) from if_neg (own_neq (z := 95) rfl (by omega))]
  rw [show (F1t_13 v) = (F1t_19 v) from if_neg (own_neq (z := 45) rfl (by omega))]
  rw [show (F1t_19 v) = (F1t_25 v) from if_neg (own_nlt (z := 48) rfl (by omega))]
  rw [show (F1t_25 v) = (F1t_31 v) from if_pos (own_gt (z := 57) rfl (by omega))]
  rw [show (F1t_31 v) = (F1t_38 v) from if_neg (own_neq (z := 183) rfl (by omega))]
  rw [show (F1t_38 v) = (F1t_45 v) from if_neg (own_nlt (z := 768) rfl (by omega))]
  rw [show (F1t_45 v) = F1t_66 from if_neg (own_ngt (z := 879) rfl (by omega))]
  rfl
theorem own_same_19 (v : Int32) (h1 : 880 ≤ v.toInt) (h2 : v.toInt ≤ 893) : F1_0 v = F3_0 v := by
  have a : F2_0 v = (1 : Int32) := by
    rw [show (F2_0 v) = (F2_6 v) from if_neg (own_nlt (z := 65) rfl (by omega))]
    rw [show (F2_6 v) = (F2_12 v) from if_pos (own_gt (z := 90) rfl (by omega))]
    rw [show (F2_12 v) = (F2_18 v) from if_neg (own_nlt (z := 97) rfl (by omega))]
    rw [show (F2_18 v) = (F2_24 v) from if_pos (own_gt (z := 122) rfl (by omega))]
    rw [show (F2_24 v) = (F2_31 v) from if_neg (own_nlt (z := 192) rfl (by omega))]
    rw [show (F2_31 v) = (F2_38 v) from if_pos (own_gt (z := 214) rfl (by omega))]
    rw [show (F2_38 v) = (F2_45 v) from if_neg (own_nlt (z := 216) rfl (by omega))]
    rw [show (F2_45 v) = (F2_52 v) from if_pos (own_gt (z := 246) rfl (by omega))]
    rw [show (F2_52 v) = (F2_59 v) from if_neg (own_nlt (z := 248) rfl (by omega))]
    rw [show (F2_59 v) = (F2_66 v) from if_pos (own_gt (z := 767) rfl (by omega))]
    rw [show (F2_66 v) = (F2_73 v) from if_neg (own_nlt (z := 880) rfl (by omega))]
    rw [show (F2_73 v) = F2_185 from if_neg (own_ngt (z := 893) rfl (by omega))]
    rfl
  have b : F3_0 v = (1 : Int32) := by
    rw [show (F3_0 v) = (F3_8 v) from if_neg (own_nlt (z := 45) rfl (by omega))]
    rw [show (F3_8 v) = (F3_16 v) from if_neg (own_neq (z := 45) rfl (by omega))]
    rw [show (F3_16 v) = (F3_24 v) from if_neg (own_nlt (z := 48) rfl (by omega))]
    rw [show (F3_24 v) = (F3_32 v) from if_pos (own_gt (z := 57) rfl (by omega))]
    rw [show (F3_32 v) = (F3_40 v) from if_neg (own_nlt (z := 65) rfl (by omega))]
    rw [show (F3_40 v) = (F3_48 v) from if_pos (own_gt (z := 90) rfl (by omega))]
    rw [show (F3_48 v) = (F3_56 v) from if_neg (own_neq (z := 95) rfl (by omega))]
    rw [show (F3_56 v) = (F3_64 v) from if_neg (own_nlt (z := 97) rfl (by omega))]
    rw [show (F3_64 v) = (F3_72 v) from if_pos (own_gt (z := 122) rfl (by omega))]
    rw [show (F3_72 v) = (F3_81 v) from if_neg (own_nlt (z := 183) rfl (by omega))]
    rw [show (F3_81 v) = (F3_90 v) from if_neg (own_neq (z := 183) rfl (by omega))]
    rw [show (F3_90 v) = (F3_99 v) from if_neg (own_nlt (z := 192) rfl (by omega))]
    rw [show (F3_99 v) = (F3_108 v) from if_pos (own_gt (z := 214) rfl (by omega))]
    rw [show (F3_108 v) = (F3_117 v) from if_neg (own_neq (z := 215) rfl (by omega))]
    rw [show (F3_117 v) = (F3_126 v) from if_pos (own_gt (z := 246) rfl (by omega))]
    rw [show (F3_126 v) = (F3_135 v) from if_neg (own_neq (z := 247) rfl (by omega))]
    rw [show (F3_135 v) = F3_142 from if_neg (own_ngt (z := 893) rfl (by omega))]
    rfl
  show F1t_4 v (F2_0 v) = F3_0 v
  rw [a, b]
  rfl
theorem own_same_20 (v : Int32) (h1 : 894 ≤ v.toInt) (h2 : v.toInt ≤ 894) : F1_0 v = F3_0 v := by
  have a : F2_0 v = (0 : Int32) := by
    rw [show (F2_0 v) = (F2_6 v) from if_neg (own_nlt (z := 65) rfl (by omega))]
    rw [show (F2_6 v) = (F2_12 v) from if_pos (own_gt (z := 90) rfl (by omega))]
    rw [show (F2_12 v) = (F2_18 v) from if_neg (own_nlt (z := 97) rfl (by omega))]
    rw [show (F2_18 v) = (F2_24 v) from if_pos (own_gt (z := 122) rfl (by omega))]
    rw [show (F2_24 v) = (F2_31 v) from if_neg (own_nlt (z := 192) rfl (by omega))]
    rw [show (F2_31 v) = (F2_38 v) from if_pos (own_gt (z := 214) rfl (by omega))]
    rw [show (F2_38 v) = (F2_45 v) from if_neg (own_nlt (z := 216) rfl (by omega))]
    rw [show (F2_45 v) = (F2_52 v) from if_pos (own_gt (z := 246) rfl (by omega))]
    rw [show (F2_52 v) = (F2_59 v) from if_neg (own_nlt (z := 248) rfl (by omega))]
    rw [show (F2_59 v) = (F2_66 v) from if_pos (own_gt (z := 767) rfl (by omega))]
    rw [show (F2_66 v) = (F2_73 v) from if_neg (own_nlt (z := 880) rfl (by omega))]
    rw [show (F2_73 v) = (F2_80 v) from if_pos (own_gt (z := 893) rfl (by omega))]
    rw [show (F2_80 v) = (F2_94 v) from if_pos (own_lt (z := 895) rfl (by omega))]
    rw [show (F2_94 v) = (F2_108 v) from if_pos (own_lt (z := 8204) rfl (by omega))]
    rw [show (F2_108 v) = (F2_122 v) from if_pos (own_lt (z := 8304) rfl (by omega))]
    rw [show (F2_122 v) = (F2_136 v) from if_pos (own_lt (z := 11264) rfl (by omega))]
    rw [show (F2_136 v) = (F2_149 v) from if_pos (own_lt (z := 12289) rfl (by omega))]
    rw [show (F2_149 v) = (F2_161 v) from if_pos (own_lt (z := 63744) rfl (by omega))]
    rw [show (F2_161 v) = (F2_173 v) from if_pos (own_lt (z := 65008) rfl (by omega))]
    rw [show (F2_173 v) = F2_189 from if_pos (own_lt (z := 65536) rfl (by omega))]
    rfl
  have b : F3_0 v = (0 : Int32) := by
    rw [show (F3_0 v) = (F3_8 v) from if_neg (own_nlt (z := 45) rfl (by omega))]
    rw [show (F3_8 v) = (F3_16 v) from if_neg (own_neq (z := 45) rfl (by omega))]
    rw [show (F3_16 v) = (F3_24 v) from if_neg (own_nlt (z := 48) rfl (by omega))]
    rw [show (F3_24 v) = (F3_32 v) from if_pos (own_gt (z := 57) rfl (by omega))]
    rw [show (F3_32 v) = (F3_40 v) from if_neg (own_nlt (z := 65) rfl (by omega))]
    rw [show (F3_40 v) = (F3_48 v) from if_pos (own_gt (z := 90) rfl (by omega))]
    rw [show (F3_48 v) = (F3_56 v) from if_neg (own_neq (z := 95) rfl (by omega))]
    rw [show (F3_56 v) = (F3_64 v) from if_neg (own_nlt (z := 97) rfl (by omega))]
    rw [show (F3_64 v) = (F3_72 v) from if_pos (own_gt (z := 122) rfl (by omega))]
    rw [show (F3_72 v) = (F3_81 v) from if_neg (own_nlt (z := 183) rfl (by omega))]
    rw [show (F3_81 v) = (F3_90 v) from if_neg (own_neq (z := 183) rfl (by omega))]
    rw [show (F3_90 v) = (F3_99 v) from if_neg (own_nlt (z := 192) rfl (by omega))]
    rw [show (F3_99 v) = (F3_108 v) from if_pos (own_gt (z := 214) rfl (by omega))]
    rw [show (F3_108 v) = (F3_117 v) from if_neg (own_neq (z := 215) rfl (by omega))]
    rw [show (F3_117 v) = (F3_126 v) from if_pos (own_gt (z := 246) rfl (by omega))]
    rw [show (F3_126 v) = (F3_135 v) from if_neg (own_neq (z := 247) rfl (by omega))]
    rw [show (F3_135 v) = (F3_144 v) from if_pos (own_gt (z := 893) rfl (by omega))]
    rw [show (F3_144 v) = F3_151 from if_pos (own_eq (z := 894) rfl (by omega))]
    rfl
  show F1t_4 v (F2_0 v) = F3_0 v
  rw [a, b]
  rw [show F1t_4 v (0 : Int32) = F1t_7 v from if_pos rfl]
  rw [show (F1t_7 v) = (F1t_13 v) from if_neg (own_neq (z := 95) rfl (by omega))]
  rw [show (F1t_13 v) = (F1t_19 v) from if_neg (own_neq (z := 45) rfl (by omega))]
  rw [show (F1t_19 v) = (F1t_25 v) from if_neg (own_nlt (z := 48) rfl (by omega))]
  rw [show (F1t_25 v) = (F1t_31 v) from if_pos (own_gt (z := 57) rfl (by omega))]
  rw [show (F1t_31 v) = (F1t_38 v) from if_neg (own_neq (z := 183) rfl (by omega))]
  rw [show (F1t_38 v) = (F1t_45 v) from if_neg (own_nlt (z := 768) rfl (by omega))]
  rw [show (F1t_45 v) = (F1t_52 v) from if_pos (own_gt (z := 879) rfl (by omega))]
  rw [show (F1t_52 v) = F1t_70 from if_pos (own_lt (z := 8255) rfl (by omega))]
  rfl
theorem own_same_21 (v : Int32) (h1 : 895 ≤ v.toInt) (h2 : v.toInt ≤ 8191) : F1_0 v = F3_0 v := by
  have a : F2_0 v = (1 : Int32) := by
    rw [show (F2_0 v) = (F2_6 v) from if_neg (own_nlt (z := 65) rfl (by omega))]
    rw [show (F2_6 v) = (F2_12 v) from if_pos (own_gt (z := 90) rfl (by omega))]
    rw [show (F2_12 v) = (F2_18 v) from if_neg (own_nlt (z := 97) rfl (by omega))]
    rw [show (F2_18 v) = (F2_24 v) from if_pos (own_gt (z := 122) rfl (by omega))]
    rw [show (F2_24 v) = (F2_31 v) from if_neg (own_nlt (z := 192) rfl (by omega))]
    rw [show (F2_31 v) = (F2_38 v) from if_pos (own_gt (z := 214) rfl (by omega))]
    rw [show (F2_38 v) = (F2_45 v) from if_neg (own_nlt (z := 216) rfl (by omega))]
    rw [show (F2_45 v) = (F2_52 v) from if_pos (own_gt (z := 246) rfl (by omega))]
    rw [show (F2_52 v) = (F2_59 v) from if_neg (own_nlt (z := 248) rfl (by omega))]
    rw [show (F2_59 v) = (F2_66 v) from if_pos (own_gt (z := 767) rfl (by omega))]
    rw [show (F2_66 v) = (F2_73 v) from if_neg (own_nlt (z := 880) rfl (by omega))]
    rw [show (F2_73 v) = (F2_80 v) from if_pos (own_gt (z := 893) rfl (by omega))]
    rw [show (F2_80 v) = (F2_87 v) from if_neg (own_nlt (z := 895) rfl (by omega))]
    rw [show (F2_87 v) = F2_185 from if_neg (own_ngt (z := 8191) rfl (by omega))]
    rfl
  have b : F3_0 v = (1 : Int32) := by
    rw [show (F3_0 v) = (F3_8 v) from if_neg (own_nlt (z := 45) rfl (by omega))]
    rw [show (F3_8 v) = (F3_16 v) from if_neg (own_neq (z := 45) rfl (by omega))]
    rw [show (F3_16 v) = (F3_24 v) from if_neg (own_nlt (z := 48) rfl (by omega))]
    rw [show (F3_24 v) = (F3_32 v) from if_pos (own_gt (z := 57) rfl (by omega))]
    rw [show (F3_32 v) = (F3_40 v) from if_neg (own_nlt (z := 65) rfl (by omega))]
    rw [show (F3_40 v) = (F3_48 v) from if_pos (own_gt (z := 90) rfl (by omega))]
    rw [show (F3_48 v) = (F3_56 v) from if_neg (own_neq (z := 95) rfl (by omega))]
    rw [show (F3_56 v) = (F3_64 v) from if_neg (own_nlt (z := 97) rfl (by omega))]
    rw [show (F3_64 v) = (F3_72 v) from if_pos (own_gt (z := 122) rfl (by omega))]
    rw [show (F3_72 v) = (F3_81 v) from if_neg (own_nlt (z := 183) rfl (by omega))]
    rw [show (F3_81 v) = (F3_90 v) from if_neg (own_neq (z := 183) rfl (by omega))]
    rw [show (F3_90 v) = (F3_99 v) from if_neg (own_nlt (z := 192) rfl (by omega))]
    rw [show (F3_99 v) = (F3_108 v) from if_pos (own_gt (z := 214) rfl (by omega))]
    rw [show (F3_108 v) = (F3_117 v) from if_neg (own_neq (z := 215) rfl (by omega))]
    rw [show (F3_117 v) = (F3_126 v) from if_pos (own_gt (z := 246) rfl (by omega))]
    rw [show (F3_126 v) = (F3_135 v) from if_neg (own_neq (z := 247) rfl (by omega))]
    rw [show (F3_135 v) = (F3_144 v) from if_pos (own_gt (z := 893) rfl (by omega))]
    rw [show (F3_144 v) = (F3_153 v) from if_neg (own_neq (z := 894) rfl (by omega))]
    rw [show (F3_153 v) = F3_160 from if_neg (own_ngt (z := 8191) rfl (by omega))]
    rfl
  show F1t_4 v (F2_0 v) = F3_0 v
  rw [a, b]
  rfl
theorem own_same_22 (v : Int32) (h1 : 8192 ≤ v.toInt) (h2 : v.toInt ≤ 8203) : F1_0 v = F3_0 v := by
  have a : F2_0 v = (0 : Int32) := by
    rw [show (F2_0 v) = (F2_6 v) from if_neg (own_nlt (z := 65) rfl (by omega))]
    rw [show (F2_6 v) = (F2_12 v) from if_pos (own_gt (z := 90) rfl (by omega))]
    rw [show (F2_12 v) = (F2_18 v) from if_neg (own_nlt (z := 97) rfl (by omega))]
    rw [show (F2_18 v) = (F2_24 v) from if_pos (own_gt (z := 122) rfl (by omega))]
    rw [show (F2_24 v) = (F2_31 v) from if_neg (own_nlt (z := 192) rfl (by omega))]
    rw [show (F2_31 v) = (F2_38 v) from if_pos (own_gt (z := 214) rfl (by omega))]
    rw [show (F2_38 v) = (F2_45 v) from if_neg (own_nlt (z := 216) rfl (by omega))]
    rw [show (F2_45 v) = (F2_52 v) from if_pos (own_gt (z := 246) rfl (by omega))]
    rw [show (F2_52 v) = (F2_59 v) from if_neg (own_nlt (z := 248) rfl (by omega))]
    rw [show (F2_59 v) = (F2_66 v) from if_pos (own_gt (z := 767) rfl (by omega))]
    rw [show (F2_66 v) = (F2_73 v) from if_neg (own_nlt (z := 880) rfl (by omega))]
    rw [show (F2_73 v) = (F2_80 v) from if_pos (own_gt (z := 893) rfl (by omega))]
    rw [show (F2_80 v) = (F2_87 v) from if_neg (own_nlt (z := 895) rfl (by omega))]
    rw [show (F2_87 v) = (F2_94 v) from if_pos (own_gt (z := 8191) rfl (by omega))]
    rw [show (F2_94 v) = (F2_108 v) from if_pos (own_lt (z := 8204) rfl (by omega))]
    rw [show (F2_108 v) = (F2_122 v) from if_pos (own_lt (z := 8304) rfl (by omega))]
    rw [show (F2_122 v) = (F2_136 v) from if_pos (own_lt (z := 11264) rfl (by omega))]
    rw [show (F2_136 v) = (F2_149 v) from if_pos (own_lt (z := 12289) rfl (by omega))]
    rw [show (F2_149 v) = (F2_161 v) from if_pos (own_lt (z := 63744) rfl (by omega))]
    rw [show (F2_161 v) = (F2_173 v) from if_pos (own_lt (z := 65008) rfl (by omega))]
    rw [show (F2_173 v) = F2_189 from if_pos (own_lt (z := 65536) rfl (by omega))]
    rfl
  have b : F3_0 v = (0 : Int32) := by
    rw [show (F3_0 v) = (F3_8 v) from if_neg (own_nlt (z := 45) rfl (by omega))]
    rw [show (F3_8 v) = (F3_16 v) from if_neg (own_neq (z := 45) rfl (by omega))]
    rw [show (F3_16 v) = (F3_24 v) from if_neg (own_nlt (z := 48) rfl (by omega))]
    rw [show (F3_24 v) = (F3_32 v) from if_pos (own_gt (z := 57) rfl (by omega))]
    rw [show (F3_32 v) = (F3_40 v) from if_neg (own_nlt (z := 65) rfl (by omega))]
    rw [show (F3_40 v) = (F3_48 v) from if_pos (own_gt (z := 90) rfl (by omega))]
    rw [show (F3_48 v) = (F3_56 v) from if_neg (own_neq (z := 95) rfl (by omega))]
    rw [show (F3_56 v) = (F3_64 v) from if_neg (own_nlt (z := 97) rfl (by omega))]
    rw [show (F3_64 v) = (F3_72 v) from if_pos (own_gt (z := 122) rfl (by omega))]
    rw [show (F3_72 v) = (F3_81 v) from if_neg (own_nlt (z := 183) rfl (by omega))]
    rw [show (F3_81 v) = (F3_90 v) from if_neg (own_neq (z := 183) rfl (by omega))]
    rw [show (F3_90 v) = (F3_99 v) from if_neg (own_nlt (z := 192) rfl (by omega))]
    rw [show (F3_99 v) = (F3_108 v) from if_pos (own_gt (z := 214) rfl (by omega))]
    rw [show (F3_108 v) = (F3_117 v) from if_neg (own_neq (z := 215) rfl (by omega))]
    rw [show (F3_117 v) = (F3_126 v) from if_pos (own_gt (z := 246) rfl (by omega))]
    rw [show (F3_126 v) = (F3_135 v) from if_neg (own_neq (z := 247) rfl (by omega))]
    rw [show (F3_135 v) = (F3_144 v) from if_pos (own_gt (z := 893) rfl (by omega))]
    rw [show (F3_144 v) = (F3_153 v) from if_neg (own_neq (z := 894) rfl (by omega))]
    rw [show (F3_153 v) = (F3_162 v) from if_pos (own_gt (z := 8191) rfl (by omega))]
    rw [show (F3_162 v) = F3_169 from if_pos (own_lt (z := 8204) rfl (by omega))]
    rfl
  show F1t_4 v (F2_0 v) = F3_0 v
  rw [a, b]
  rw [show F1t_4 v (0 : Int32) = F1t_7 v from if_pos rfl]
  rw [show (F1t_7 v) = (F1t_13 v) from if_neg (own_neq (z := 95) rfl (by omega))]
  rw [show (F1t_13 v) = (F1t_19 v) from if_neg (own_neq (z := 45) rfl (by omega))]
  rw [show (F1t_19 v) = (F1t_25 v) from if_neg (own_nlt (z := 48) rfl (by omega))]
  rw [show (F1t_25 v) = (F1t_31 v) from if_pos (own_gt (z := 57) rfl (by omega))]
  rw [show (F1t_31 v) = (F1t_38 v) from if_neg (own_neq (z := 183) rfl (by omega))]
  rw [show (F1t_38 v) = (F1t_45 v) from if_neg (own_nlt (z := 768) rfl (by omega))]
  rw [show (F1t_45 v) = (F1t_52 v) from if_pos (own_gt (z := 879) rfl (by omega))]
  rw [show (F1t_52 v) = F1t_70 from if_pos (own_lt (z := 8255) rfl (by omega))]
  rfl
theorem own_same_23 (v : Int32) (h1 : 8204 ≤ v.toInt) (h2 : v.toInt ≤ 8205) : F1_0 v = F3_0 v := by
  have a : F2_0 v = (1 : Int32) := by
    rw [show (F2_0 v) = (F2_6 v) from if_neg (own_nlt (z := 65) rfl (by omega))]
    rw [show (F2_6 v) = (F2_12 v) from if_pos (own_gt (z := 90) rfl (by omega))]
    rw [show (F2_12 v) = (F2_18 v) from if_neg (own_nlt (z := 97) rfl (by omega))]
    rw [show (F2_18 v) = (F2_24 v) from if_pos (own_gt (z := 122) rfl (by omega))]
    rw [show (F2_24 v) = (F2_31 v) from if_neg (own_nlt (z := 192) rfl (by omega))]
    rw [show (F2_31 v) = (F2_38 v) from if_pos (own_gt (z := 214) rfl (by omega))]
    rw [show (F2_38 v) = (F2_45 v) from if_neg (own_nlt (z := 216) rfl (by omega))]
    rw [show (F2_45 v) = (F2_52 v) from if_pos (own_gt (z := 246) rfl (by omega))]
    rw [show (F2_52 v) = (F2_59 v) from if_neg (own_nlt (z := 248) rfl (by omega))]
    rw [show (F2_59 v) = (F2_66 v) from if_pos (own_gt (z := 767) rfl (by omega))]
    rw [show (F2_66 v) = (F2_73 v) from if_neg (own_nlt (z := 880) rfl (by omega))]
    rw [show (F2_73 v) = (F2_80 v) from if_pos (own_gt (z := 893) rfl (by omega))]
    rw [show (F2_80 v) = (F2_87 v) from if_neg (own_nlt (z := 895) rfl (by omega))]
    rw [show (F2_87 v) = (F2_94 v) from if_pos (own_gt (z := 8191) rfl (by omega))]
    rw [show (F2_94 v) = (F2_101 v) from if_neg (own_nlt (z := 8204) rfl (by omega))]
    rw [show (F2_101 v) = F2_185 from if_neg (own_ngt (z := 8205) rfl (by omega))]
    rfl
  have b : F3_0 v = (1 : Int32) := by
    rw [show (F3_0 v) = (F3_8 v) from if_neg (own_nlt (z := 45) rfl (by omega))]
    rw [show (F3_8 v) = (F3_16 v) from if_neg (own_neq (z := 45) rfl (by omega))]
    rw [show (F3_16 v) = (F3_24 v) from if_neg (own_nlt (z := 48) rfl (by omega))]
    rw [show (F3_24 v) = (F3_32 v) from if_pos (own_gt (z := 57) rfl (by omega))]
    rw [show (F3_32 v) = (F3_40 v) from if_neg (own_nlt (z := 65) rfl (by omega))]
    rw [show (F3_40 v) = (F3_48 v) from if_pos (own_gt (z := 90) rfl (by omega))]
    rw [show (F3_48 v) = (F3_56 v) from if_neg (own_neq (z := 95) rfl (by omega))]
    rw [show (F3_56 v) = (F3_64 v) from if_neg (own_nlt (z := 97) rfl (by omega))]
    rw [show (F3_64 v) = (F3_72 v) from if_pos (own_gt (z := 122) rfl (by omega))]
    rw [show (F3_72 v) = (F3_81 v) from if_neg (own_nlt (z := 183) rfl (by omega))]
    rw [show (F3_81 v) = (F3_90 v) from if_neg (own_neq (z := 183) rfl (by omega))]
    rw [show (F3_90 v) = (F3_99 v) from if_neg (own_nlt (z := 192) rfl (by omega))]
    rw [show (F3_99 v) = (F3_108 v) from if_pos (own_gt (z := 214) rfl (by omega))]
    rw [show (F3_108 v) = (F3_117 v) from if_neg (own_neq (z := 215) rfl (by omega))]
    rw [show (F3_117 v) = (F3_126 v) from if_pos (own_gt (z := 246) rfl (by omega))]
    rw [show (F3_126 v) = (F3_135 v) from if_neg (own_neq (z := 247) rfl (by omega))]
    rw [show (F3_135 v) = (F3_144 v) from if_pos (own_gt (z := 893) rfl (by omega))]
    rw [show (F3_144 v) = (F3_153 v) from if_neg (own_neq (z := 894) rfl (by omega))]
    rw [show (F3_153 v) = (F3_162 v) from if_pos (own_gt (z := 8191) rfl (by omega))]
    rw [show (F3_162 v) = (F3_171 v) from if_neg (own_nlt (z := 8204) rfl (by omega))]
    rw [show (F3_171 v) = F3_178 from if_neg (own_ngt (z := 8205) rfl (by omega))]
    rfl
  show F1t_4 v (F2_0 v) = F3_0 v
  rw [a, b]
  rfl
theorem own_same_24 (v : Int32) (h1 : 8206 ≤ v.toInt) (h2 : v.toInt ≤ 8254) : F1_0 v = F3_0 v := by
  have a : F2_0 v = (0 : Int32) := by
    rw [show (F2_0 v) = (F2_6 v) from if_neg (own_nlt (z := 65) rfl (by omega))]
    rw [show (F2_6 v) = (F2_12 v) from if_pos (own_gt (z := 90) rfl (by omega))]
    rw [show (F2_12 v) = (F2_18 v) from if_neg (own_nlt (z := 97) rfl (by omega))]
    rw [show (F2_18 v) = (F2_24 v) from if_pos (own_gt (z := 122) rfl (by omega))]
    rw [show (F2_24 v) = (F2_31 v) from if_neg (own_nlt (z := 192) rfl (by omega))]
    rw [show (F2_31 v) = (F2_38 v) from if_pos (own_gt (z := 214) rfl (by omega))]
    rw [show (F2_38 v) = (F2_45 v) from if_neg (own_nlt (z := 216) rfl (by omega))]
    rw [show (F2_45 v) = (F2_52 v) from if_pos (own_gt (z := 246) rfl (by omega))]
    rw [show (F2_52 v) = (F2_59 v) from if_neg (own_nlt (z := 248) rfl (by omega))]
    rw [show (F2_59 v) = (F2_66 v) from if_pos (own_gt (z := 767) rfl (by omega))]
    rw [show (F2_66 v) = (F2_73 v) from if_neg (own_nlt (z := 880) rfl (by omega))]
    rw [show (F2_73 v) = (F2_80 v) from if_pos (own_gt (z := 893) rfl (by omega))]
    rw [show (F2_80 v) = (F2_87 v) from if_neg (own_nlt (z := 895) rfl (by omega))]
    rw [show (F2_87 v) = (F2_94 v) from if_pos (own_gt (z := 8191) rfl (by omega))]
    rw [show (F2_94 v) = (F2_101 v) from if_neg (own_nlt (z := 8204) rfl (by omega))]
    rw [show (F2_101 v) = (F2_108 v) from if_pos (own_gt (z := 8205) rfl (by omega))]
    rw [show (F2_108 v) = (F2_122 v) from if_pos (own_lt (z := 8304) rfl (by omega))]
    rw [show (F2_122 v) = (F2_136 v) from if_pos (own_lt (z := 11264) rfl (by omega))]
    rw [show (F2_136 v) = (F2_149 v) from if_pos (own_lt (z := 12289) rfl (by omega))]
    rw [show (F2_149 v) = (F2_161 v) from if_pos (own_lt (z := 63744) rfl (by omega))]
    rw [show (F2_161 v) = (F2_173 v) from if_pos (own_lt (z := 65008) rfl (by omega))]
    rw [show (F2_173 v) = F2_189 from if_pos (own_lt (z := 65536) rfl (by omega))]
    rfl
  have b : F3_0 v = (0 : Int32) := by
    rw [show (F3_0 v) = (F3_8 v) from if_neg (own_nlt (z := 45) rfl (by omega))]
    rw [show (F3_8 v) = (F3_16 v) from if_neg (own_neq (z := 45) rfl (by omega))]
    rw [show (F3_16 v) = (F3_24 v) from if_neg (own_nlt (z := 48) rfl (by omega))]
    rw [show (F3_24 v) = (F3_32 v) from if_pos (own_gt (z := 57) rfl (by omega))]
    rw [show (F3_32 v) = (F3_40 v) from if_neg (own_nlt (z := 65) rfl (by omega))]
    rw [show (F3_40 v) = (F3_48 v) from if_pos (own_gt (z := 90) rfl (by omega))]
    rw [show (F3_48 v) = (F3_56 v) from if_neg (own_neq (z := 95) rfl (by omega))]
    rw [show (F3_56 v) = (F3_64 v) from if_neg (own_nlt (z := 97) rfl (by omega))]
    rw [show (F3_64 v) = (F3_72 v) from if_pos (own_gt (z := 122) rfl (by omega))]
    rw [show (F3_72 v) = (F3_81 v) from if_neg (own_nlt (z := 183) rfl (by omega))]
    rw [show (F3_81 v) = (F3_90 v) from if_neg (own_neq (z := 183) rfl (by omega))]
    rw [show (F3_90 v) = (F3_99 v) from if_neg (own_nlt (z := 192) rfl (by omega))]
    rw [show (F3_99 v) = (F3_108 v) from if_pos (own_gt (z := 214) rfl (by omega))]
    rw [show (F3_108 v) = (F3_117 v) from if_neg (own_neq (z := 215) rfl (by omega))]
    rw [show (F3_117 v) = (F3_126 v) from if_pos (own_gt (z := 246) rfl (by omega))]
    rw [show (F3_126 v) = (F3_135 v) from if_neg (own_neq (z := 247) rfl (by omega))]
    rw [show (F3_135 v) = (F3_144 v) from if_pos (own_gt (z := 893) rfl (by omega))]
    rw [show (F3_144 v) = (F3_153 v) from if_neg (own_neq (z := 894) rfl (by omega))]
    rw [show (F3_153 v) = (F3_162 v) from if_pos (own_gt (z := 8191) rfl (by omega))]
    rw [show (F3_162 v) = (F3_171 v) from if_neg (own_nlt (z := 8204) rfl (by omega))]
    rw [show (F3_171 v) = (F3_180 v) from if_pos (own_gt (z := 8205) rfl (by omega))]
    rw [show (F3_180 v) = F3_187 from if_pos (own_lt (z := 8255) rfl (by omega))]
    rfl
  show F1t_4 v (F2_0 v) = F3_0 v
  rw [a, b]
  rw [show F1t_4 v (0 : Int32) = F1t_7 v from if_pos rfl]
  rw [show (F1t_7 v) = (F1t_13 v) from if_neg (own_neq (z := 95) rfl (by omega))]
  rw [show (F1t_13 v) = (F1t_19 v) from if_neg (own_neq (z := 45) rfl (by omega))]
  rw [show (F1t_19 v) = (F1t_25 v) from if_neg (own_nlt (z := 48) rfl (by omega))]
  rw [show (F1t_25 v) = (F1t_31 v) from if_pos (own_gt (z := 57) rfl (by omega))]
  rw [show (F1t_31 v) = (F1t_38 v) from if_neg (own_neq (z := 183) rfl (by omega))]
  rw [show (F1t_38 v) = (F1t_45 v) from if_neg (own_nlt (z := 768) rfl (by omega))]
  rw [show (F1t_45 v) = (F1t_52 v) from if_pos (own_gt (z := 879) rfl (by omega))]
  rw [show (F1t_52 v) = F1t_70 from if_pos (own_lt (z := 8255) rfl (by omega))]
  rfl
theorem own_same_25 (v : Int32) (h1 : 8255 ≤ v.toInt) (h2 : v.toInt ≤ 8256) : F1_0 v = F3_0 v := by
  have a : F2_0 v = (0 : Int32) := by
    rw [show (F2_0 v) = (F2_6 v) from if_neg (own_nlt (z := 65) rfl (by omega))]
    rw [show (F2_6 v) = (F2_12 v) from if_pos (own_gt (z := 90) rfl (by omega))]
    rw [show (F2_12 v) = (F2_18 v) from if_neg (own_nlt (z := 97) rfl (by omega))]
    rw [show (F2_18 v) = (F2_24 v) from if_pos (own_gt (z := 122) rfl (by omega))]
    rw [show (F2_24 v) = (F2_31 v) from if_neg (own_nlt (z := 192) rfl (by omega))]
    rw [show (F2_31 v) = (F2_38 v) from if_pos (own_gt (z := 214) rfl (by omega))]
    rw [show (F2_38 v) = (F2_45 v) from if_neg (own_nlt (z := 216) rfl (by omega))]
    rw [show (F2_45 v) = (F2_52 v) from if_pos (own_gt (z := 246) rfl (by omega))]
    rw [show (F2_52 v) = (F2_59 v) from if_neg (own_nlt (z := 248) rfl (by omega))]
    rw [show (F2_59 v) = (F2_66 v) from if_pos (own_gt (z := 767) rfl (by omega))]
    rw [show (F2_66 v) = (F2_73 v) from if_neg (own_nlt (z := 880) rfl (by omega))]
    rw [show (F2_73 v) = (F2_80 v) from if_pos (own_gt (z := 893) rfl (by omega))]
    rw [show (F2_80 v) = (F2_87 v) from if_neg (own_nlt (z := 895) rfl (by omega))]
    rw [show (F2_87 v) = (F2_94 v) from if_pos (own_gt (z := 8191) rfl (by omega))]
    rw [show (F2_94 v) = (F2_101 v) from if_neg (own_nlt (z := 8204) rfl (by omega))]
    rw [show (F2_101 v) = (F2_108 v) from if_pos (own_gt (z := 8205) rfl (by omega))]
    rw [show (F2_108 v) = (F2_122 v) from if_pos (own_lt (z := 8304) rfl (by omega))]
    rw [show (F2_122 v) = (F2_136 v) from if_pos (own_lt (z := 11264) rfl (by omega))]
    rw [show (F2_136 v) = (F2_149 v) from if_pos (own_lt (z := 12289) rfl (by omega))]
    rw [show (F2_149 v) = (F2_161 v) from if_pos (own_lt (z := 63744) rfl (by omega))]
    rw [show (F2_161 v) = (F2_173 v) from if_pos (own_lt (z := 65008) rfl (by omega))]
    rw [show (F2_173 v) = F2_189 from if_pos (own_lt (z := 65536) rfl (by omega))]
    rfl
  have b : F3_0 v = (1 : Int32) := by
    rw [show (F3_0 v) = (F3_8 v) from if_neg (own_nlt (z := 45) rfl (by omega))]
    rw [show (F3_8 v) = (F3_16 v) from if_neg (own_neq (z := 45) rfl (by omega))]
    rw [show (F3_16 v) = (F3_24 v) from if_neg (own_nlt (z := 48) rfl (by omega))]
    rw [show (F3_24 v) = (F3_32 v) from if_pos (own_gt (z := 57) rfl (by omega))]
    rw [show (F3_32 v) = (F3_40 v) from if_neg (own_nlt (z := 65) rfl (by omega))]
    rw [show (F3_40 v) = (F3_48 v) from if_pos (own_gt (z := 90) rfl (by omega))]
    rw [show (F3_48 v) = (F3_56 v) from if_neg (own_neq (z := 95) rfl (by omega))]
    rw [show (F3_56 v) = (F3_64 v) from if_neg (own_nlt (z := 97) rfl (by omega))]
    rw [show (F3_64 v) = (F3_72 v) from if_pos (own_gt (z := 122) rfl (by omega))]
    rw [show (F3_72 v) = (F3_81 v) from if_neg (own_nlt (z := 183) rfl (by omega))]
    rw [show (F3_81 v) = (F3_90 v) from if_neg (own_neq (z := 183) rfl (by omega))]
    rw [show (F3_90 v) = (F3_99 v) from if_neg (own_nlt (z := 192) rfl (by omega))]
    rw [show (F3_99 v) = (F3_108 v) from if_pos (own_gt (z := 214) rfl (by omega))]
    rw [show (F3_108 v) = (F3_117 v) from if_neg (own_neq (z := 215) rfl (by omega))]
    rw [show (F3_117 v) = (F3_126 v) from if_pos (own_gt (z := 246) rfl (by omega))]
    rw [show (F3_126 v) = (F3_135 v) from if_neg (own_neq (z := 247) rfl (by omega))]
    rw [show (F3_135 v) = (F3_144 v) from if_pos (own_gt (z := 893) rfl (by omega))]
    rw [show (F3_144 v) = (F3_153 v) from if_neg (own_neq (z := 894) rfl (by omega))]
    rw [show (F3_153 v) = (F3_162 v) from if_pos (own_gt (z := 8191) rfl (by omega))]
    rw [show (F3_162 v) = (F3_171 v) from if_neg (own_nlt (z := 8204) rfl (by omega))]
    rw [show (F3_171 v) = (F3_180 v) from if_pos (own_gt (z := 8205) rfl (by omega))]
    rw [show (F3_180 v) = (F3_189 v) from if_neg (own_nlt (z := 8255) rfl (by omega))]
    rw [show (F3_189 v) = F3_196 from if_neg (own_ngt (z := 8256) rfl (by omega))]
    rfl
  show F1t_4 v (F2_0 v) = F3_0 v
  rw [a, b]
  rw [show F1t_4 v (0 : Int32) = F1t_7 v from if_pos rfl]
  rw [show (F1t_7 v) = (F1t_13 v) from if_neg (own_neq (z := 95) rfl (by omega))]
  rw [show (F1t_13 v) = (F1t_19 v) from if_neg (own_neq (z := 45) rfl (by omega))]
  rw [show (F1t_19 v) = (F1t_25 v) from if_neg (own_nlt (z := 48) rfl (by omega))]
  rw [show (F1t_25 v) = (F1t_31 v) from if_pos (own_gt (z := 57) rfl (by omega))]
  rw [show (F1t_31 v) = (F1t_38 v) from if_neg (own_neq (z := 183) rfl (by omega))]
  rw [show (F1t_38 v) = (F1t_45 v) from if_neg (own_nlt (z := 768) rfl (by omega))]
  rw [show (F1t_45 v) = (F1t_52 v) from if_pos (own_gt (z := 879) rfl (by omega))]
  rw [show (F1t_52 v) = (F1t_59 v) from if_neg (own_nlt (z := 8255) rfl (by omega))]
  rw [show (F1t_59 v) = F1t_66 from if_neg (own_ngt (z := 8256) rfl (by omega))]
  rfl
theorem own_same_26 (v : Int32) (h1 : 8257 ≤ v.toInt) (h2 : v.toInt ≤ 8303) : F1_0 v = F3_0 v := by
  have a : F2_0 v = (0 : Int32) := by
    rw [show (F2_0 v) = (F2_6 v) from if_neg (own_nlt (z := 65) rfl (by omega))]
    rw [show (F2_6 v) = (F2_12 v) from if_pos (own_gt (z := 90) rfl (by omega))]
    rw [show (F2_12 v) = (F2_18 v) from if_neg (own_nlt (z := 97) rfl (by omega))]
    rw [show (F2_18 v) = (F2_24 v) from if_pos (own_gt (z := 122) rfl (by omega))]
    rw [show (F2_24 v) = (F2_31 v) from if_neg (own_nlt (z := 192) rfl (by omega))]
    rw [show (F2_31 v) = (F2_38 v) from if_pos (own_gt (z := 214) rfl (by omega))]
    rw [show (F2_38 v) = (F2_45 v) from if_neg (own_nlt (z := 216) rfl (by omega))]
    rw [show (F2_45 v) = (F2_52 v) from if_pos (own_gt (z := 246) rfl (by omega))]
    rw [show (F2_52 v) = (F2_59 v) from if_neg (own_nlt (z := 248) rfl (by omega))]
    rw [show (F2_59 v) = (F2_66 v) from if_pos (own_gt (z := 767) rfl (by omega))]
    rw [show (F2_66 v) = (F2_73 v) from if_neg (own_nlt (z := 880) rfl (by omega))]
    rw [show (F2_73 v) = (F2_80 v) from if_pos (own_gt (z := 893) rfl (by omega))]
    rw [show (F2_80 v) = (F2_87 v) from if_neg (own_nlt (z := 895) rfl (by omega))]
    rw [show (F2_87 v) = (F2_94 v) from if_pos (own_gt (z := 8191) rfl (by omega))]
    rw [show (F2_94 v) = (F2_101 v) from if_neg (own_nlt (z := 8204) rfl (by omega))]
    rw [show (F2_101 v) = (F2_108 v) from if_pos (own_gt (z := 8205) rfl (by omega))]
    rw [show (F2_108 v) = (F2_122 v) from if_pos (own_lt (z := 8304) rfl (by omega))]
    rw [show (F2_122 v) = (F2_136 v) from if_pos (own_lt (z := 11264) rfl (by omega))]
    rw [show (F2_136 v) = (F2_149 v) from if_pos (own_lt (z := 12289) rfl (by omega))]
    rw [show (F2_149 v) = (F2_161 v) from if_pos (own_lt (z := 63744) rfl (by omega))]
    rw [show (F2_161 v) = (F2_173 v) from if_pos (own_lt (z := 65008) rfl (by omega))]
    rw [show (F2_173 v) = F2_189 from if_pos (own_lt (z := 65536) rfl (by omega))]
    rfl
  have b : F3_0 v = (0 : Int32) := by
    rw [show (F3_0 v) = (F3_8 v) from if_neg (own_nlt (z := 45) rfl (by omega))]
    rw [show (F3_8 v) = (F3_16 v) from if_neg (own_neq (z := 45) rfl (by omega))]
    rw [show (F3_16 v) = (F3_24 v) from if_neg (own_nlt (z := 48) rfl (by omega))]
    rw [show (F3_24 v) = (F3_32 v) from if_pos (own_gt (z := 57) rfl (by omega))]
    rw [show (F3_32 v) = (F3_40 v) from if_neg (own_nlt (z := 65) rfl (by omega))]
    rw [show (F3_40 v) = (F3_48 v) from if_pos (own_gt (z := 90) rfl (by omega))]
    rw [show (F3_48 v) = (F3_56 v) from if_neg (own_neq (z := 95) rfl (by omega))]
    rw [show (F3_56 v) = (F3_64 v) from if_neg (own_nlt (z := 97) rfl (by omega))]
    rw [show (F3_64 v) = (F3_72 v) from if_pos (own_gt (z := 122) rfl (by omega))]
    rw [show (F3_72 v) = (F3_81 v) from if_neg (own_nlt (z := 183) rfl (by omega))]
    rw [show (F3_81 v) = (F3_90 v) from if_neg (own_neq (z := 183) rfl (by omega))]
    rw [show (F3_90 v) = (F3_99 v) from if_neg (own_nlt (z := 192) rfl (by omega))]
    rw [show (F3_99 v) = (F3_108 v) from if_pos (own_gt (z := 214) rfl (by omega))]
    rw [show (F3_108 v) = (F3_117 v) from if_neg (own_neq (z := 215) rfl (by omega))]
    rw [show (F3_117 v) = (F3_126 v) from if_pos (own_gt (z := 246) rfl (by omega))]
    rw [show (F3_126 v) = (F3_135 v) from if_neg (own_neq (z := 247) rfl (by omega))]
    rw [show (F3_135 v) = (F3_144 v) from if_pos (own_gt (z := 893) rfl (by omega))]
    rw [show (F3_144 v) = (F3_153 v) from if_neg (own_neq (z := 894) rfl (by omega))]
    rw [show (F3_153 v) = (F3_162 v) from if_pos (own_gt (z := 8191) rfl (by omega))]
    rw [show (F3_162 v) = (F3_171 v) from if_neg (own_nlt (z := 8204) rfl (by omega))]
    rw [show (F3_171 v) = (F3_180 v) from if_pos (own_gt (z := 8205) rfl (by omega))]
    rw [show (F3_180 v) = (F3_189 v) from if_neg (own_nlt (z := 8255) rfl (by omega))]
    rw [show (F3_189 v) = (F3_198 v) from if_pos (own_gt (z := 8256) rfl (by omega))]
    rw [show (F3_198 v) = F3_205 from if_pos (own_lt (z := 8304) rfl (by omega))]
    rfl
  show F1t_4 v (F2_0 v) = F3_0 v
  rw [a, b]
  rw [show F1t_4 v (0 : Int32) = F1t_7 v from if_pos rfl]
  rw [show (F1t_7 v) = (F1t_13 v) from if_neg (own_neq (z := 95) rfl (by omega))]
  rw [show (F1t_13 v) = (F1t_19 v) from if_neg (own_neq (z := 45) rfl (by omega))]
  rw [show (F1t_19 v) = (F1t_25 v) from if_neg (own_nlt (z := 48) rfl (by omega))]
  rw [show (F1t_25 v) = (F1t_31 v) from if_pos (own_gt (z := 57) rfl (by omega))]
  rw [show (F1t_31 v) = (F1t_38 v) from if_neg (own_neq (z := 183) rfl (by omega))]
  rw [show (F1t_38 v) = (F1t_45 v) from if_neg (own_nlt (z := 768) rfl (by omega))]
  rw [show (F1t_45 v) = (F1t_52 v) from if_pos (own_gt (z := 879) rfl (by omega))]
  rw [show (F1t_52 v) = (F1t_59 v) from if_neg (own_nlt (z := 8255) rfl (by omega))]
  rw [show (F1t_59 v) = F1t_70 from if_pos (own_gt (z := 8256) rfl (by omega))]
  rfl
theorem own_same_27 (v : Int32) (h1 : 8304 ≤ v.toInt) (h2 : v.toInt ≤ 8591) : F1_0 v = F3_0 v := by
  have a : F2_0 v = (1 : Int32) := by
    rw [show (F2_0 v) = (F2_6 v) from if_neg (own_nlt (z := 65) rfl (by omega))]
    rw [show (F2_6 v) = (F2_12 v) from if_pos (own_gt (z := 90) rfl (by omega))]
    rw [show (F2_12 v) = (F2_18 v) from if_neg (own_nlt (z := 97) rfl (by omega))]
    rw [show (F2_18 v) = (F2_24 v) from if_pos (own_gt (z := 122) rfl (by omega))]
    rw [show (F2_24 v) = (F2_31 v) from if_neg (own_nlt (z := 192) rfl (by omega))]
    rw [show (F2_31 v) = (F2_38 v) from if_pos (own_gt (z := 214) rfl (by omega))]
    rw [show (F2_38 v) = (F2_45 v) from if_neg (own_nlt (z := 216) rfl (by omega))]
    rw [show (F2_45 v) = (F2_52 v) from if_pos (own_gt (z := 246) rfl (by omega))]
    rw [show (F2_52 v) = (F2_59 v) from if_neg (own_nlt (z := 248) rfl (by omega))]
    rw [show (F2_59 v) = (F2_66 v) from if_pos (own_gt (z := 767) rfl (by omega))]
    rw [show (F2_66 v) = (F2_73 v) from if_neg (own_nlt (z := 880) rfl (by omega))]
    rw [show (F2_73 v) = (F2_80 v) from if_pos (own_gt (z := 893) rfl (by omega))]
    rw [show (F2_80 v) = (F2_87 v) from if_neg (own_nlt (z := 895) rfl (by omega))]
    rw [show (F2_87 v) = (F2_94 v) from if_pos (own_gt (z := 8191) rfl (by omega))]
    rw [show (F2_94 v) = (F2_101 v) from if_neg (own_nlt (z := 8204) rfl (by omega))]
    rw [show (F2_101 v) = (F2_108 v) from if_pos (own_gt (z := 8205) rfl (by omega))]
    rw [show (F2_108 v) = (F2_115 v) from if_neg (own_nlt (z := 8304) rfl (by omega))]
    rw [show (F2_115 v) = F2_185 from if_neg (own_ngt (z := 8591) rfl (by omega))]
    rfl
  have b : F3_0 v = (1 : Int32) := by
    rw [show (F3_0 v) = (F3_8 v) from if_neg (own_nlt (z := 45) rfl (by omega))]
    rw [show (F3_8 v) = (F3_16 v) from if_neg (own_neq (z := 45) rfl (by omega))]
    rw [show (F3_16 v) = (F3_24 v) from if_neg (own_nlt (z := 48) rfl (by omega))]
    rw [show (F3_24 v) = (F3_32 v) from if_pos (own_gt (z := 57) rfl (by omega))]
    rw [show (F3_32 v) = (F3_40 v) from if_neg (own_nlt (z := 65) rfl (by omega))]
    rw [show (F3_40 v) = (F3_48 v) from if_pos (own_gt (z := 90) rfl (by omega))]
    rw [show (F3_48 v) = (F3_56 v) from if_neg (own_neq (z := 95) rfl (by omega))]
    rw [show (F3_56 v) = (F3_64 v) from if_neg (own_nlt (z := 97) rfl (by omega))]
    rw [show (F3_64 v) = (F3_72 v) from if_pos (own_gt (z := 122) rfl (by omega))]
    rw [show (F3_72 v) = (F3_81 v) from if_neg (own_nlt (z := 183) rfl (by omega))]
    rw [show (F3_81 v) = (F3_90 v) from if_neg (own_neq (z := 183) rfl (by omega))]
    rw [show (F3_90 v) = (F3_99 v) from if_neg (own_nlt (z := 192) rfl (by omega))]
    rw [show (F3_99 v) = (F3_108 v) from if_pos (own_gt (z := 214) rfl (by omega))]
    rw [show (F3_108 v) = (F3_117 v) from if_neg (own_neq (z := 215) rfl (by omega))]
    rw [show (F3_117 v) = (F3_126 v) from if_pos (own_gt (z := 246) rfl (by omega))]
    rw [show (F3_126 v) = (F3_135 v) from if_neg (own_neq (z := 247) rfl (by omega))]
    rw [show (F3_135 v) = (F3_144 v) from if_pos (own_gt (z := 893) rfl (by omega))]
    rw [show (F3_144 v) = (F3_153 v) from if_neg (own_neq (z := 894) rfl (by omega))]
    rw [show (F3_153 v) = (F3_162 v) from if_pos (own_gt (z := 8191) rfl (by omega))]
    rw [show (F3_162 v) = (F3_171 v) from if_neg (own_nlt (z := 8204) rfl (by omega))]
    rw [show (F3_171 v) = (F3_180 v) from if_pos (own_gt (z := 8205) rfl (by omega))]
    rw [show (F3_180 v) = (F3_189 v) from if_neg (own_nlt (z := 8255) rfl (by omega))]
    rw [show (F3_189 v) = (F3_198 v) from if_pos (own_gt (z := 8256) rfl (by omega))]
    rw [show (F3_198 v) = (F3_207 v) from if_neg (own_nlt (z := 8304) rfl (by omega))]
    rw [show (F3_207 v) = F3_214 from if_neg (own_ngt (z := 8591) rfl (by omega))]
    rfl
  show F1t_4 v (F2_0 v) = F3_0 v
  rw [a, b]
  rfl
theorem own_same_28 (v : Int32) (h1 : 8592 ≤ v.toInt) (h2 : v.toInt ≤ 11263) : F1_0 v = F3_0 v := by
  have a : F2_0 v = (0 : Int32) := by
    rw [show (F2_0 v) = (F2_6 v) from if_neg (own_nlt (z := 65) rfl (by omega))]
    rw [show (F2_6 v) = (F2_12 v) from if_pos (own_gt (z := 90) rfl (by omega))]
    rw [show (F2_12 v) = (F2_18 v) from if_neg (own_nlt (z := 97) rfl (by omega))]
    rw [show (F2_18 v) = (F2_24 v) from if_pos (own_gt (z := 122) rfl (by omega))]
    rw [show (F2_24 v) = (F2_31 v) from if_neg (own_nlt (z := 192) rfl (by omega))]
    rw [show (F2_31 v) = (F2_38 v) from if_pos (own_gt (z := 214) rfl (by omega))]
    rw [show (F2_38 v) = (F2_45 v) from if_neg (own_nlt (z := 216) rfl (by omega))]
    rw [show (F2_45 v) = (F2_52 v) from if_pos (own_gt (z := 246) rfl (by omega))]
    rw [show (F2_52 v) = (F2_59 v) from if_neg (own_nlt (z := 248) rfl (by omega))]
    rw [show (F2_59 v) = (F2_66 v) from if_pos (own_gt (z := 767) rfl (by omega))]
    rw [show (F2_66 v) = (F2_73 v) from if_neg (own_nlt (z := 880) rfl (by omega))]
    rw [show (F2_73 v) = (F2_80 v) from if_pos (own_gt (z := 893) rfl (by omega))]
    rw [show (F2_80 v) = (F2_87 v) from if_neg (own_nlt (z := 895) rfl (by omega))]
    rw [show (F2_87 v) = (F2_94 v) from if_pos (own_gt (z := 8191) rfl (by omega))]
    rw [show (F2_94 v) = (F2_101 v) from if_neg (own_nlt (z := 8204) rfl (by omega))]
    rw [show (F2_101 v) = (F2_108 v) from if_pos (own_gt (z := 8205) rfl (by omega))]
    rw [show (F2_108 v) = (F2_115 v) from if_neg (own_nlt (z := 8304) rfl (by omega))]
    rw [show (F2_115 v) = (F2_122 v) from if_pos (own_gt (z := 8591) rfl (by omega))]
    rw [show (F2_122 v) = (F2_136 v) from if_pos (own_lt (z := 11264) rfl (by omega))]
    rw [show (F2_136 v) = (F2_149 v) from if_pos (own_lt (z := 12289) rfl (by omega))]
    rw [show (F2_149 v) = (F2_161 v) from if_pos (own_lt (z := 63744) rfl (by omega))]
    rw [show (F2_161 v) = (F2_173 v) from if_pos (own_lt (z := 65008) rfl (by omega))]
    rw [show (F2_173 v) = F2_189 from if_pos (own_lt (z := 65536) rfl (by omega))]
    rfl
  have b : F3_0 v = (0 : Int32) := by
    rw [show (F3_0 v) = (F3_8 v) from if_neg (own_nlt (z := 45) rfl (by omega))]
    rw [show (F3_8 v) = (F3_16 v) from if_neg (own_neq (z := 45) rfl (by omega))]
    rw [show (F3_16 v) = (F3_24 v) from if_neg (own_nlt (z := 48) rfl (by omega))]
    rw [show (F3_24 v) = (F3_32 v) from if_pos (own_gt (z := 57) rfl (by omega))]
    rw [show (F3_32 v) = (F3_40 v) from if_neg (own_nlt (z := 65) rfl (by omega))]
    rw [show (F3_40 v) = (F3_48 v) from if_pos (own_gt (z := 90) rfl (by omega))]
    rw [show (F3_48 v) = (F3_56 v) from if_neg (own_neq (z := 95) rfl (by omega))]
    rw [show (F3_56 v) = (F3_64 v) from if_neg (own_nlt (z := 97) rfl (by omega))]
    rw [show (F3_64 v) = (F3_72 v) from if_pos (own_gt (z := 122) rfl (by omega))]
    rw [show (F3_72 v) = (F3_81 v) from if_neg (own_nlt (z := 183) rfl (by omega))]
    rw [show (F3_81 v) = (F3_90 v) from if_neg (own_neq (z := 183) rfl (by omega))]
    rw [show (F3_90 v) = (F3_99 v) from if_neg (own_nlt (z := 192) rfl (by omega))]
    rw [show (F3_99 v) = (F3_108 v) from if_pos (own_gt (z := 214) rfl (by omega))]
    rw [show (F3_108 v) = (F3_117 v) from if_neg (own_neq (z := 215) rfl (by omega))]
    rw [show (F3_117 v) = (F3_126 v) from if_pos (own_gt (z := 246) rfl (by omega))]
    rw [show (F3_126 v) = (F3_135 v) from if_neg (own_neq (z := 247) rfl (by omega))]
    rw [show (F3_135 v) = (F3_144 v) from if_pos (own_gt (z := 893) rfl (by omega))]
    rw [show (F3_144 v) = (F3_153 v) from if_neg (own_neq (z := 894) rfl (by omega))]
    rw [show (F3_153 v) = (F3_162 v) from if_pos (own_gt (z := 8191) rfl (by omega))]
    rw [show (F3_162 v) = (F3_171 v) from if_neg (own_nlt (z := 8204) rfl (by omega))]
    rw [show (F3_171 v) = (F3_180 v) from if_pos (own_gt (z := 8205) rfl (by omega))]
    rw [show (F3_180 v) = (F3_189 v) from if_neg (own_nlt (z := 8255) rfl (by omega))]
    rw [show (F3_189 v) = (F3_198 v) from if_pos (own_gt (z := 8256) rfl (by omega))]
    rw [show (F3_198 v) = (F3_207 v) from if_neg (own_nlt (z := 8304) rfl (by omega))]
    rw [show (F3_207 v) = (F3_216 v) from if_pos (own_gt (z := 8591) rfl (by omega))]
    rw [show (F3_216 v) = F3_223 from if_pos (own_lt (z := 11264) rfl (by omega))]
    rfl
  show F1t_4 v (F2_0 v) = F3_0 v
  rw [a, b]
  rw [show F1t_4 v (0 : Int32) = F1t_7 v from if_pos rfl]
  rw [show (F1t_7 v) = (F1t_13 v) from if_neg (own_neq (z := 95) rfl (by omega))]
  rw [show (F1t_13 v) = (F1t_19 v) from if_neg (own_neq (z := 45) rfl (by omega))]
  rw [show (F1t_19 v) = (F1t_25 v) from if_neg (own_nlt (z := 48) rfl (by omega))]
  rw [show (F1t_25 v) = (F1t_31 v) from if_pos (own_gt (z := 57) rfl (by omega))]
  rw [show (F1t_31 v) = (F1t_38 v) from if_neg (own_neq (z := 183) rfl (by omega))]
  rw [show (F1t_38 v) = (F1t_45 v) from if_neg (own_nlt (z := 768) rfl (by omega))]
  rw [show (F1t_45 v) = (F1t_52 v) from if_pos (own_gt (z := 879) rfl (by omega))]
  rw [show (F1t_52 v) = (F1t_59 v) from if_neg (own_nlt (z := 8255) rfl (by omega))]
  rw [show (F1t_59 v) = F1t_70 from if_pos (own_gt (z := 8256) rfl (by omega))]
  rfl
theorem own_same_29 (v : Int32) (h1 : 11264 ≤ v.toInt) (h2 : v.toInt ≤ 12271) : F1_0 v = F3_0 v := by
  have a : F2_0 v = (1 : Int32) := by
    rw [show (F2_0 v) = (F2_6 v) from if_neg (own_nlt (z := 65) rfl (by omega))]
    rw [show (F2_6 v) = (F2_12 v) from if_pos (own_gt (z := 90) rfl (by omega))]
    rw [show (F2_12 v) = (F2_18 v) from if_neg (own_nlt (z := 97) rfl (by omega))]
    rw [show (F2_18 v) = (F2_24 v) from if_pos (own_gt (z := 122) rfl (by omega))]
    rw [show (F2_24 v) = (F2_31 v) from if_neg (own_nlt (z := 192) rfl (by omega))]
    rw [show (F2_31 v) = (F2_38 v) from if_pos (own_gt (z := 214) rfl (by omega))]
    rw [show (F2_38 v) = (F2_45 v) from if_neg (own_nlt (z := 216) rfl (by omega))]
    rw [show (F2_45 v) = (F2_52 v) from if_pos (own_gt (z := 246) rfl (by omega))]
    rw [show (F2_52 v) = (F2_59 v) from if_neg (own_nlt (z := 248) rfl (by omega))]
    rw [show (F2_59 v) = (F2_66 v) from if_pos (own_gt (z := 767) rfl (by omega))]
    rw [show (F2_66 v) = (F2_73 v) from if_neg (own_nlt (z := 880) rfl (by omega))]
    rw [show (F2_73 v) = (F2_80 v) from if_pos (own_gt (z := 893) rfl (by omega))]
    rw [show (F2_80 v) = (F2_87 v) from if_neg (own_nlt (z := 895) rfl (by omega))]
    rw [show (F2_87 v) = (F2_94 v) from if_pos (own_gt (z := 8191) rfl (by omega))]
    rw [show (F2_94 v) = (F2_101 v) from if_neg (own_nlt (z := 8204) rfl (by omega))]
    rw [show (F2_101 v) = (F2_108 v) from if_pos (own_gt (z := 8205) rfl (by omega))]
    rw [show (F2_108 v) = (F2_115 v) from if_neg (own_nlt (z := 8304) rfl (by omega))]
    rw [show (F2_115 v) = (F2_122 v) from if_pos (own_gt (z := 8591) rfl (by omega))]
    rw [show (F2_122 v) = (F2_129 v) from if_neg (own_nlt (z := 11264) rfl (by omega))]
    rw [show (F2_129 v) = F2_185 from if_neg (own_ngt (z := 12271) rfl (by omega))]
    rfl
  have b : F3_0 v = (1 : Int32) := by
    rw [show (F3_0 v) = (F3_8 v) from if_neg (own_nlt (z := 45) rfl (by omega))]
    rw [show (F3_8 v) = (F3_16 v) from if_neg (own_neq (z := 45) rfl (by omega))]
    rw [show (F3_16 v) = (F3_24 v) from if_neg (own_nlt (z := 48) rfl (by omega))]
    rw [show (F3_24 v) = (F3_32 v) from if_pos (own_gt (z := 57) rfl (by omega))]
    rw [show (F3_32 v) = (F3_40 v) from if_neg (own_nlt (z := 65) rfl (by omega))]
    rw [show (F3_40 v) = (F3_48 v) from if_pos (own_gt (z := 90) rfl (by omega))]
    rw [show (F3_48 v) = (F3_56 v) from if_neg (own_neq (z := 95) rfl (by omega))]
    rw [show (F3_56 v) = (F3_64 v) from if_neg (own_nlt (z := 97) rfl (by omega))]
    rw [show (F3_64 v) = (F3_72 v) from if_pos (own_gt (z := 122) rfl (by omega))]
    rw [show (F3_72 v) = (F3_81 v) from if_neg (own_nlt (z := 183) rfl (by omega))]
    rw [show (F3_81 v) = (F3_90 v) from if_neg (own_neq (z := 183) rfl (by omega))]
    rw [show (F3_90 v) = (F3_99 v) from if_neg (own_nlt (z := 192) rfl (by omega))]
    rw [show (F3_99 v) = (F3_108 v) from if_pos (own_gt (z := 214) rfl (by omega))]
    rw [show (F3_108 v) = (F3_117 v) from if_neg (own_neq (z := 215) rfl (by omega))]
    rw [show (F3_117 v) = (F3_126 v) from if_pos (own_gt (z := 246) rfl (by omega))]
    rw [show (F3_126 v) = (F3_135 v) from if_neg (own_neq (z := 247) rfl (by omega))]
    rw [show (F3_135 v) = (F3_144 v) from if_pos (own_gt (z := 893) rfl (by omega))]
    rw [show (F3_144 v) = (F3_153 v) from if_neg (own_neq (z := 894) rfl (by omega))]
    rw [show (F3_153 v) = (F3_162 v) from if_pos (own_gt (z := 8191) rfl (by omega))]
    rw [show (F3_162 v) = (F3_171 v) from if_neg (own_nlt (z := 8204) rfl (by omega))]
    rw [show (F3_171 v) = (F3_180 v) from if_pos (own_gt (z := 8205) rfl (by omega))]
    rw [show (F3_180 v) = (F3_189 v) from if_neg (own_nlt (z := 8255) rfl (by omega))]
    rw [show (F3_189 v) = (F3_198 v) from if_pos (own_gt (z := 8256) rfl (by omega))]
    rw [show (F3_198 v) = (F3_207 v) from if_neg (own_nlt (z := 8304) rfl (by omega))]
    rw [show (F3_207 v) = (F3_216 v) from if_pos (own_gt (z := 8591) rfl (by omega))]
    rw [show (F3_216 v) = (F3_225 v) from if_neg (own_nlt (z := 11264) rfl (by omega))]
    rw [show (F3_225 v) = F3_232 from if_neg (own_ngt (z := 12271) rfl (by omega))]
    rfl
  show F1t_4 v (F2_0 v) = F3_0 v
  rw [a, b]
  rfl
theorem own_same_30 (v : Int32) (h1 : 12272 ≤ v.toInt) (h2 : v.toInt ≤ 12288) : F1_0 v = F3_0 v := by
  have a : F2_0 v = (0 : Int32) := by
    rw [show (F2_0 v) = (F2_6 v) from if_neg (own_nlt (z := 65) rfl (by omega))]
    rw [show (F2_6 v) = (F2_12 v) from if_pos (own_gt (z := 90) rfl (by omega))]
    rw [show (F2_12 v) = (F2_18 v) from if_neg (own_nlt (z := 97) rfl (by omega))]
    rw [show (F2_18 v) = (F2_24 v) from if_pos (own_gt (z := 122) rfl (by omega))]
    rw [show (F2_24 v) = (F2_31 v) from if_neg (own_nlt (z := 192) rfl (by omega))]
    rw [show (F2_31 v) = (F2_38 v) from if_pos (own_gt (z := 214) rfl (by omega))]
    rw [show (F2_38 v) = (F2_45 v) from if_neg (own_nlt (z := 216) rfl (by omega))]
    rw [show (F2_45 v) = (F2_52 v) from if_pos (own_gt (z := 246) rfl (by omega))]
    rw [show (F2_52 v) = (F2_59 v) from if_neg (own_nlt (z := 248) rfl (by omega))]
    rw [show (F2_59 v) = (F2_66 v) from if_pos (own_gt (z := 767) rfl (by omega))]
    rw [show (F2_66 v) = (F2_73 v) from if_neg (own_nlt (z := 880) rfl (by omega))]
    rw [show (F2_73 v) = (F2_80 v) from if_pos (own_gt (z := 893) rfl (by omega))]
    rw [show (F2_80 v) = (F2_87 v) from if_neg (own_nlt (z := 895) rfl (by omega))]
    rw [show (F2_87 v) = (F2_94 v) from if_pos (own_gt (z := 8191) rfl (by omega))]
    rw [show (F2_94 v) = (F2_101 v) from if_neg (own_nlt (z := 8204) rfl (by omega))]
    rw [show (F2_101 v) = (F2_108 v) from if_pos (own_gt (z := 8205) rfl (by omega))]
    rw [show (F2_108 v) = (F2_115 v) from if_neg (own_nlt (z := 8304) rfl (by omega))]
    rw [show (F2_115 v) = (F2_122 v) from if_pos (own_gt (z := 8591) rfl (by omega))]
    rw [show (F2_122 v) = (F2_129 v) from if_neg (own_nlt (z := 11264) rfl (by omega))]
    rw [show (F2_129 v) = (F2_136 v) from if_pos (own_gt (z := 12271) rfl (by omega))]
    rw [show (F2_136 v) = (F2_149 v) from if_pos (own_lt (z := 12289) rfl (by omega))]
    rw [show (F2_149 v) = (F2_161 v) from if_pos (own_lt (z := 63744) rfl (by omega))]
    rw [show (F2_161 v) = (F2_173 v) from if_pos (own_lt (z := 65008) rfl (by omega))]
    rw [show (F2_173 v) = F2_189 from if_pos (own_lt (z := 65536) rfl (by omega))]
    rfl
  have b : F3_0 v = (0 : Int32) := by
    rw [show (F3_0 v) = (F3_8 v) from if_neg (own_nlt (z := 45) rfl (by omega))]
    rw [show (F3_8 v) = (F3_16 v) from if_neg (own_neq (z := 45) rfl (by omega))]
    rw [show (F3_16 v) = (F3_24 v) from if_neg (own_nlt (z := 48) rfl (by omega))]
    rw [show (F3_24 v) = (F3_32 v) from if_pos (own_gt (z := 57) rfl (by omega))]
    rw [show (F3_32 v) = (F3_40 v) from if_neg (own_nlt (z := 65) rfl (by omega))]
    rw [show (F3_40 v) = (F3_48 v) from if_pos (own_gt (z := 90) rfl (by omega))]
    rw [show (F3_48 v) = (F3_56 v) from if_neg (own_neq (z := 95) rfl (by omega))]
    rw [show (F3_56 v) = (F3_64 v) from if_neg (own_nlt (z := 97) rfl (by omega))]
    rw [show (F3_64 v) = (F3_72 v) from if_pos (own_gt (z := 122) rfl (by omega))]
    rw [show (F3_72 v) = (F3_81 v) from if_neg (own_nlt (z := 183) rfl (by omega))]
    rw [show (F3_81 v) = (F3_90 v) from if_neg (own_neq (z := 183) rfl (by omega))]
    rw [show (F3_90 v) = (F3_99 v) from if_neg (own_nlt (z := 192) rfl (by omega))]
    rw [show (F3_99 v) = (F3_108 v) from if_pos (own_gt (z := 214) rfl (by omega))]
    rw [show (F3_108 v) = (F3_117 v) from if_neg (own_neq (z := 215) rfl (by omega))]
    rw [show (F3_117 v) = (F3_126 v) from if_pos (own_gt (z := 246) rfl (by omega))]
    rw [show (F3_126 v) = (F3_135 v) from if_neg (own_neq (z := 247) rfl (by omega))]
    rw [show (F3_135 v) = (F3_144 v) from if_pos (own_gt (z := 893) rfl (by omega))]
    rw [show (F3_144 v) = (F3_153 v) from if_neg (own_neq (z := 894) rfl (by omega))]
    rw [show (F3_153 v) = (F3_162 v) from if_pos (own_gt (z := 8191) rfl (by omega))]
    rw [show (F3_162 v) = (F3_171 v) from if_neg (own_nlt (z := 8204) rfl (by omega))]
    rw [show (F3_171 v) = (F3_180 v) from if_pos (own_gt (z := 8205) rfl (by omega))]
    rw [show (F3_180 v) = (F3_189 v) from if_neg (own_nlt (z := 8255) rfl (by omega))]
    rw [show (F3_189 v) = (F3_198 v) from if_pos (own_gt (z := 8256) rfl (by omega))]
    rw [show (F3_198 v) = (F3_207 v) from if_neg (own_nlt (z := 8304) rfl (by omega))]
    rw [show (F3_207 v) = (F3_216 v) from if_pos (own_gt (z := 8591) rfl (by omega))]
    rw [show (F3_216 v) = (F3_225 v) from if_neg (own_nlt (z := 11264) rfl (by omega))]
    rw [show (F3_225 v) = (F3_234 v) from if_pos (own_gt (z := 12271) rfl (by omega))]
    rw [show (F3_234 v) = F3_241 from if_pos (own_lt (z := 12289) rfl (by omega))]
    rfl
  show F1t_4 v (F2_0 v) = F3_0 v
  rw [a, b]
  rw [show F1t_4 v (0 : Int32) = F1t_7 v from if_pos rfl]
  rw [show (F1t_7 v) = (F1t_13 v) from if_neg (own_neq (z := 95) rfl (by omega))]
  rw [show (F1t_13 v) = (F1t_19 v) from if_neg (own_neq (z := 45) rfl (by omega))]
  rw [show (F1t_19 v) = (F1t_25 v) from if_neg (own_nlt (z := 48) rfl (by omega))]
  rw [show (F1t_25 v) = (F1t_31 v) from if_pos (own_gt (z := 57) rfl (by omega))]
  rw [show (F1t_31 v) = (F1t_38 v) from if_neg (own_neq (z := 183) rfl (by omega))]
  rw [show (F1t_38 v) = (F1t_45 v) from if_neg (own_nlt (z := 768) rfl (by omega))]
  rw [show (F1t_45 v) = (F1t_52 v) from if_pos (own_gt (z := 879) rfl (by omega))]
  rw [show (F1t_52 v) = (F1t_59 v) from if_neg (own_nlt (z := 8255) rfl (by omega))]
  rw [show (F1t_59 v) = F1t_70 from if_pos (own_gt (z := 8256) rfl (by omega))]
  rfl
theorem own_same_31 (v : Int32) (h1 : 12289 ≤ v.toInt) (h2 : v.toInt ≤ 55295) : F1_0 v = F3_0 v := by
  have a : F2_0 v = (1 : Int32) := by
    rw [show (F2_0 v) = (F2_6 v) from if_neg (own_nlt (z := 65) rfl (by omega))]
    rw [show (F2_6 v) = (F2_12 v) from if_pos (own_gt (z := 90) rfl (by omega))]
    rw [show (F2_12 v) = (F2_18 v) from if_neg (own_nlt (z := 97) rfl (by omega))]
    rw [show (F2_18 v) = (F2_24 v) from if_pos (own_gt (z := 122) rfl (by omega))]
    rw [show (F2_24 v) = (F2_31 v) from if_neg (own_nlt (z := 192) rfl (by omega))]
    rw [show (F2_31 v) = (F2_38 v) from if_pos (own_gt (z := 214) rfl (by omega))]
    rw [show (F2_38 v) = (F2_45 v) from if_neg (own_nlt (z := 216) rfl (by omega))]
    rw [show (F2_45 v) = (F2_52 v) from if_pos (own_gt (z := 246) rfl (by omega))]
    rw [show (F2_52 v) = (F2_59 v) from if_neg (own_nlt (z := 248) rfl (by omega))]
    rw [show (F2_59 v) = (F2_66 v) from if_pos (own_gt (z := 767) rfl (by omega))]
    rw [show (F2_66 v) = (F2_73 v) from if_neg (own_nlt (z := 880) rfl (by omega))]
    rw [show (F2_73 v) = (F2_80 v) from if_pos (own_gt (z := 893) rfl (by omega))]
    rw [show (F2_80 v) = (F2_87 v) from if_neg (own_nlt (z := 895) rfl (by omega))]
    rw [show (F2_87 v) = (F2_94 v) from if_pos (own_gt (z := 8191) rfl (by omega))]
    rw [show (F2_94 v) = (F2_101 v) from if_neg (own_nlt (z := 8204) rfl (by omega))]
    rw [show (F2_101 v) = (F2_108 v) from if_pos (own_gt (z := 8205) rfl (by omega))]
    rw [show (F2_108 v) = (F2_115 v) from if_neg (own_nlt (z := 8304) rfl (by omega))]
    rw [show (F2_115 v) = (F2_122 v) from if_pos (own_gt (z := 8591) rfl (by omega))]
    rw [show (F2_122 v) = (F2_129 v) from if_neg (own_nlt (z := 11264) rfl (by omega))]
    rw [show (F2_129 v) = (F2_136 v) from if_pos (own_gt (z := 12271) rfl (by omega))]
    rw [show (F2_136 v) = (F2_143 v) from if_neg (own_nlt (z := 12289) rfl (by omega))]
    rw [show (F2_143 v) = F2_185 from if_neg (own_ngt (z := 55295) rfl (by omega))]
    rfl
  have b : F3_0 v = (1 : Int32) := by
    rw [show (F3_0 v) = (F3_8 v) from if_neg (own_nlt (z := 45) rfl (by omega))]
    rw [show (F3_8 v) = (F3_16 v) from if_neg (own_neq (z := 45) rfl (by omega))]
    rw [show (F3_16 v) = (F3_24 v) from if_neg (own_nlt (z := 48) rfl (by omega))]
    rw [show (F3_24 v) = (F3_32 v) from if_pos (own_gt (z := 57) rfl (by omega))]
    rw [show (F3_32 v) = (F3_40 v) from if_neg (own_nlt (z := 65) rfl (by omega))]
    rw [show (F3_40 v) = (F3_48 v) from if_pos (own_gt (z := 90) rfl (by omega))]
    rw [show (F3_48 v) = (F3_56 v) from if_neg (own_neq (z := 95) rfl (by omega))]
    rw [show (F3_56 v) = (F3_64 v) from if_neg (own_nlt (z := 97) rfl (by omega))]
    rw [show (F3_64 v) = (F3_72 v) from if_pos (own_gt (z := 122) rfl (by omega))]
    rw [show (F3_72 v) = (F3_81 v) from if_neg (own_nlt (z := 183) rfl (by omega))]
    rw [show (F3_81 v) = (F3_90 v) from if_neg (own_neq (z := 183) rfl (by omega))]
    rw [show (F3_90 v) = (F3_99 v) from if_neg (own_nlt (z := 192) rfl (by omega))]
    rw [show (F3_99 v) = (F3_108 v) from if_pos (own_gt (z := 214) rfl (by omega))]
    rw [show (F3_108 v) = (F3_117 v) from if_neg (own_neq (z := 215) rfl (by omega))]
    rw [show (F3_117 v) = (F3_126 v) from if_pos (own_gt (z := 246) rfl (by omega))]
    rw [show (F3_126 v) = (F3_135 v) from if_neg (own_neq (z := 247) rfl (by omega))]
    rw [show (F3_135 v) = (F3_144 v) from if_pos (own_gt (z := 893) rfl (by omega))]
    rw [show (F3_144 v) = (F3_153 v) from if_neg (own_neq (z := 894) rfl (by omega))]
    rw [show (F3_153 v) = (F3_162 v) from if_pos (own_gt (z := 8191) rfl (by omega))]
    rw [show (F3_162 v) = (F3_171 v) from if_neg (own_nlt (z := 8204) rfl (by omega))]
    rw [show (F3_171 v) = (F3_180 v) from if_pos (own_gt (z := 8205) rfl (by omega))]
    rw [show (F3_180 v) = (F3_189 v) from if_neg (own_nlt (z := 8255) rfl (by omega))]
    rw [show (F3_189 v) = (F3_198 v) from if_pos (own_gt (z := 8256) rfl (by omega))]
    rw [show (F3_198 v) = (F3_207 v) from if_neg (own_nlt (z := 8304) rfl (by omega))]
    rw [show (F3_207 v) = (F3_216 v) from if_pos (own_gt (z := 8591) rfl (by omega))]
    rw [show (F3_216 v) = (F3_225 v) from if_neg (own_nlt (z := 11264) rfl (by omega))]
    rw [show (F3_225 v) = (F3_234 v) from if_pos (own_gt (z := 12271) rfl (by omega))]
    rw [show (F3_234 v) = (F3_243 v) from if_neg (own_nlt (z := 12289) rfl (by omega))]
    rw [show (F3_243 v) = F3_249 from if_neg (own_ngt (z := 55295) rfl (by omega))]
    rfl
  show F1t_4 v (F2_0 v) = F3_0 v
  rw [a, b]
  rfl
theorem own_same_32 (v : Int32) (h1 : 55296 ≤ v.toInt) (h2 : v.toInt ≤ 63743) : F1_0 v = F3_0 v := by
  have a : F2_0 v = (0 : Int32) := by
    rw [show (F2_0 v) = (F2_6 v) from if_neg (own_nlt (z := 65) rfl (by omega))]
    rw [show (F2_6 v) = (F2_12 v) from if_pos (own_gt (z := 90) rfl (by omega))]
    rw [show (F2_12 v) = (F2_18 v) from if_neg (own_nlt (z := 97) rfl (by omega))]
    rw [show (F2_18 v) = (F2_24 v) from if_pos (own_gt (z := 122) rfl (by omega))]
    rw [show (F2_24 v) = (F2_31 v) from if_neg (own_nlt (z := 192) rfl (by omega))]
    rw [show (F2_31 v) = (F2_38 v) from if_pos (own_gt (z := 214) rfl (by omega))]
    rw [show (F2_38 v) = (F2_45 v) from if_neg (own_nlt (z := 216) rfl (by omega))]
    rw [show (F2_45 v) = (F2_52 v) from if_pos (own_gt (z := 246) rfl (by omega))]
    rw [show (F2_52 v) = (F2_59 v) from if_neg (own_nlt (z := 248) rfl (by omega))]
    rw [show (F2_59 v) = (F2_66 v) from if_pos (own_gt (z := 767) rfl (by omega))]
    rw [show (F2_66 v) = (F2_73 v) from if_neg (own_nlt (z := 880) rfl (by omega))]
    rw [show (F2_73 v) = (F2_80 v) from if_pos (own_gt (z := 893) rfl (by omega))]
    rw [show (F2_80 v) = (F2_87 v) from if_neg (own_nlt (z := 895) rfl (by omega))]
    rw [show (F2_87 v) = (F2_94 v) from if_pos (own_gt (z := 8191) rfl (by omega))]
    rw [show (F2_94 v) = (F2_101 v) from if_neg (own_nlt (z := 8204) rfl (by omega))]
    rw [show (F2_101 v) = (F2_108 v) from if_pos (own_gt (z := 8205) rfl (by omega))]
    rw [show (F2_108 v) = (F2_115 v) from if_neg (own_nlt (z := 8304) rfl (by omega))]
    rw [show (F2_115 v) = (F2_122 v) from if_pos (own_gt (z := 8591) rfl (by omega))]
    rw [show (F2_122 v) = (F2_129 v) from if_neg (own_nlt (z := 11264) rfl (by omega))]
    rw [show (F2_129 v) = (F2_136 v) from if_pos (own_gt (z := 12271) rfl (by omega))]
    rw [show (F2_136 v) = (F2_143 v) from if_neg (own_nlt (z := 12289) rfl (by omega))]
    rw [show (F2_143 v) = (F2_149 v) from if_pos (own_gt (z := 55295) rfl (by omega))]
    rw [show (F2_149 v) = (F2_161 v) from if_pos (own_lt (z := 63744) rfl (by omega))]
    rw [show (F2_161 v) = (F2_173 v) from if_pos (own_lt (z := 65008) rfl (by omega))]
    rw [show (F2_173 v) = F2_189 from if_pos (own_lt (z := 65536) rfl (by omega))]
    rfl
  have b : F3_0 v = (0 : Int32) := by
    rw [show (F3_0 v) = (F3_8 v) from if_neg (own_nlt (z := 45) rfl (by omega))]
    rw [show (F3_8 v) = (F3_16 v) from if_neg (own_neq (z := 45) rfl (by omega))]
    rw [show (F3_16 v) = (F3_24 v) from if_neg (own_nlt (z := 48) rfl (by omega))]
    rw [show (F3_24 v) = (F3_32 v) from if_pos (own_gt (z := 57) rfl (by omega))]
    rw [show (F3_32 v) = (F3_40 v) from if_neg (own_nlt (z := 65) rfl (by omega))]
    rw [show (F3_40 v) = (F3_48 v) from if_pos (own_gt (z := 90) rfl (by omega))]
    rw [show (F3_48 v) = (F3_56 v) from if_neg (own_neq (z := 95) rfl (by omega))]
    rw [show (F3_56 v) = (F3_64 v) from if_neg (own_nlt (z := 97) rfl (by omega))]
    rw [show (F3_64 v) = (F3_72 v) from if_pos (own_gt (z := 122) rfl (by omega))]
    rw [show (F3_72 v) = (F3_81 v) from if_neg (own_nlt (z := 183) rfl (by omega))]
    rw [show (F3_81 v) = (F3_90 v) from if_neg (own_neq (z := 183) rfl (by omega))]
    rw [show (F3_90 v) = (F3_99 v) from if_neg (own_nlt (z := 192) rfl (by omega))]
    rw [show (F3_99 v) = (F3_108 v) from if_pos (own_gt (z := 214) rfl (by omega))]
    rw [show (F3_108 v) = (F3_117 v) from if_neg (own_neq (z := 215) rfl (by omega))]
    rw [show (F3_117 v) = (F3_126 v) from if_pos (own_gt (z := 246) rfl (by omega))]
    rw [show (F3_126 v) = (F3_135 v) from if_neg (own_neq (z := 247) rfl (by omega))]
    rw [show (F3_135 v) = (F3_144 v) from if_pos (own_gt (z := 893) rfl (by omega))]
    rw [show (F3_144 v) = (F3_153 v) from if_neg (own_neq (z := 894) rfl (by omega))]
    rw [show (F3_153 v) = (F3_162 v) from if_pos (own_gt (z := 8191) rfl (by omega))]
    rw [show (F3_162 v) = (F3_171 v) from if_neg (own_nlt (z := 8204) rfl (by omega))]
    rw [show (F3_171 v) = (F3_180 v) from if_pos (own_gt (z := 8205) rfl (by omega))]
    rw [show (F3_180 v) = (F3_189 v) from if_neg (own_nlt (z := 8255) rfl (by omega))]
    rw [show (F3_189 v) = (F3_198 v) from if_pos (own_gt (z := 8256) rfl (by omega))]
    rw [show (F3_198 v) = (F3_207 v) from if_neg (own_nlt (z := 8304) rfl (by omega))]
    rw [show (F3_207 v) = (F3_216 v) from if_pos (own_gt (z := 8591) rfl (by omega))]
    rw [show (F3_216 v) = (F3_225 v) from if_neg (own_nlt (z := 11264) rfl (by omega))]
    rw [show (F3_225 v) = (F3_234 v) from if_pos (own_gt (z := 12271) rfl (by omega))]
    rw [show (F3_234 v) = (F3_243 v) from if_neg (own_nlt (z := 12289) rfl (by omega))]
    rw [show (F3_243 v) = (F3_251 v) from if_pos (own_gt (z := 55295) rfl (by omega))]
    rw [show (F3_251 v) = F3_257 from if_pos (own_lt (z := 63744) rfl (by omega))]
    rfl
  show F1t_4 v (F2_0 v) = F3_0 v
  rw [a, b]
  rw [show F1t_4 v (0 : Int32) = F1t_7 v from if_pos rfl]
  rw [show (F1t_7 v) = (F1t_13 v) from if_neg (own_neq (z := 95) rfl (by omega))]
  rw [show (F1t_13 v) = (F1t_19 v) from if_neg (own_neq (z := 45) rfl (by omega))]
  rw [show (F1t_19 v) = (F1t_25 v) from if_neg (own_nlt (z := 48) rfl (by omega))]
  rw [show (F1t_25 v) = (F1t_31 v) from if_pos (own_gt (z := 57) rfl (by omega))]
  rw [show (F1t_31 v) = (F1t_38 v) from if_neg (own_neq (z := 183) rfl (by omega))]
  rw [show (F1t_38 v) = (F1t_45 v) from if_neg (own_nlt (z := 768) rfl (by omega))]
  rw [show (F1t_45 v) = (F1t_52 v) from if_pos (own_gt (z := 879) rfl (by omega))]
  rw [show (F1t_52 v) = (F1t_59 v) from if_neg (own_nlt (z := 8255) rfl (by omega))]
  rw [show (F1t_59 v) = F1t_70 from if_pos (own_gt (z := 8256) rfl (by omega))]
  rfl
theorem own_same_33 (v : Int32) (h1 : 63744 ≤ v.toInt) (h2 : v.toInt ≤ 64975) : F1_0 v = F3_0 v := by
  have a : F2_0 v = (1 : Int32) := by
    rw [show (F2_0 v) = (F2_6 v) from if_neg (own_nlt (z := 65) rfl (by omega))]
    rw [show (F2_6 v) = (F2_12 v) from if_pos (own_gt (z := 90) rfl (by omega))]
    rw [show (F2_12 v) = (F2_18 v) from if_neg (own_nlt (z := 97) rfl (by omega))]
    rw [show (F2_18 v) = (F2_24 v) from if_pos (own_gt (z := 122) rfl (by omega))]
    rw [show (F2_24 v) = (F2_31 v) from if_neg (own_nlt (z := 192) rfl (by omega))]
    rw [show (F2_31 v) = (F2_38 v) from if_pos (own_gt (z := 214) rfl (by omega))]
    rw [show (F2_38 v) = (F2_45 v) from if_neg (own_nlt (z := 216) rfl (by omega))]
    rw [show (F2_45 v) = (F2_52 v) from if_pos (own_gt (z := 246) rfl (by omega))]
    rw [show (F2_52 v) = (F2_59 v) from if_neg (own_nlt (z := 248) rfl (by omega))]
    rw [show (F2_59 v) = (F2_66 v) from if_pos (own_gt (z := 767) rfl (by omega))]
    rw [show (F2_66 v) = (F2_73 v) from if_neg (own_nlt (z := 880) rfl (by omega))]
    rw [show (F2_73 v) = (F2_80 v) from if_pos (own_gt (z := 893) rfl (by omega))]
    rw [show (F2_80 v) = (F2_87 v) from if_neg (own_nlt (z := 895) rfl (by omega))]
    rw [show (F2_87 v) = (F2_94 v) from if_pos (own_gt (z := 8191) rfl (by omega))]
    rw [show (F2_94 v) = (F2_101 v) from if_neg (own_nlt (z := 8204) rfl (by omega))]
    rw [show (F2_101 v) = (F2_108 v) from if_pos (own_gt (z := 8205) rfl (by omega))]
    rw [show (F2_108 v) = (F2_115 v) from if_neg (own_nlt (z := 8304) rfl (by omega))]
    rw [show (F2_115 v) = (F2_122 v) from if_pos (own_gt (z := 8591) rfl (by omega))]
    rw [show (F2_122 v) = (F2_129 v) from if_neg (own_nlt (z := 11264) rfl (by omega))]
    rw [show (F2_129 v) = (F2_136 v) from if_pos (own_gt (z := 12271) rfl (by omega))]
    rw [show (F2_136 v) = (F2_143 v) from if_neg (own_nlt (z := 12289) rfl (by omega))]
    rw [show (F2_143 v) = (F2_149 v) from if_pos (own_gt (z := 55295) rfl (by omega))]
    rw [show (F2_149 v) = (F2_155 v) from if_neg (own_nlt (z := 63744) rfl (by omega))]
    rw [show (F2_155 v) = F2_185 from if_neg (own_ngt (z := 64975) rfl (by omega))]
    rfl
  have b : F3_0 v = (1 : Int32) := by
    rw [show (F3_0 v) = (F3_8 v) from if_neg (own_nlt (z := 45) rfl (by omega))]
    rw [show (F3_8 v) = (F3_16 v) from if_neg (own_neq (z := 45) rfl (by omega))]
    rw [show (F3_16 v) = (F3_24 v) from if_neg (own_nlt (z := 48) rfl (by omega))]
    rw [show (F3_24 v) = (F3_32 v) from if_pos (own_gt (z := 57) rfl (by omega))]
    rw [show (F3_32 v) = (F3_40 v) from if_neg (own_nlt (z := 65) rfl (by omega))]
    rw [show (F3_40 v) = (F3_48 v) from if_pos (own_gt (z := 90) rfl (by omega))]
    rw [show (F3_48 v) = (F3_56 v) from if_neg (own_neq (z := 95) rfl (by omega))]
    rw [show (F3_56 v) = (F3_64 v) from if_neg (own_nlt (z := 97) rfl (by omega))]
    rw [show (F3_64 v) = (F3_72 v) from if_pos (own_gt (z := 122) rfl (by omega))]
    rw [show (F3_72 v) = (F3_81 v) from if_neg (own_nlt (z := 183) rfl (by omega))]
    rw [show (F3_81 v) = (F3_90 v) from if_neg (own_neq (z := 183) rfl (by omega))]
    rw [show (F3_90 v) = (F3_99 v) from if_neg (own_nlt (z := 192) rfl (by omega))]
    rw [show (F3_99 v) = (F3_108 v) from if_pos (own_gt (z := 214) rfl (by omega))]
    rw [show (F3_108 v) = (F3_117 v) from if_neg (own_neq (z := 215) rfl (by omega))]
    rw [show (F3_117 v) = (F3_126 v) from if_pos (own_gt (z := 246) rfl (by omega))]
    rw [show (F3_126 v) = (F3_135 v) from if_neg (own_neq (z := 247) rfl (by omega))]
    rw [show (F3_135 v) = (F3_144 v) from if_pos (own_gt (z := 893) rfl (by omega))]
    rw [show (F3_144 v) = (F3_153 v) from if_neg (own_neq (z := 894) rfl (by omega))]
    rw [show (F3_153 v) = (F3_162 v) from if_pos (own_gt (z := 8191) rfl (by omega))]
    rw [show (F3_162 v) = (F3_171 v) from if_neg (own_nlt (z := 8204) rfl (by omega))]
    rw [show (F3_171 v) = (F3_180 v) from if_pos (own_gt (z := 8205) rfl (by omega))]
    rw [show (F3_180 v) = (F3_189 v) from if_neg (own_nlt (z := 8255) rfl (by omega))]
    rw [show (F3_189 v) = (F3_198 v) from if_pos (own_gt (z := 8256) rfl (by omega))]
    rw [show (F3_198 v) = (F3_207 v) from if_neg (own_nlt (z := 8304) rfl (by omega))]
    rw [show (F3_207 v) = (F3_216 v) from if_pos (own_gt (z := 8591) rfl (by omega))]
    rw [show (F3_216 v) = (F3_225 v) from if_neg (own_nlt (z := 11264) rfl (by omega))]
    rw [show (F3_225 v) = (F3_234 v) from if_pos (own_gt (z := 12271) rfl (by omega))]
    rw [show (F3_234 v) = (F3_243 v) from if_neg (own_nlt (z := 12289) rfl (by omega))]
    rw [show (F3_243 v) = (F3_251 v) from if_pos (own_gt (z := 55295) rfl (by omega))]
    rw [show (F3_251 v) = (F3_259 v) from if_neg (own_nlt (z := 63744) rfl (by omega))]
    rw [show (F3_259 v) = F3_265 from if_neg (own_ngt (z := 64975) rfl (by omega))]
    rfl
  show F1t_4 v (F2_0 v) = F3_0 v
  rw [a, b]
  rfl
theorem own_same_34 (v : Int32) (h1 : 64976 ≤ v.toInt) (h2 : v.toInt ≤ 65007) : F1_0 v = F3_0 v := by
  have a : F2_0 v = (0 : Int32) := by
    rw [show (F2_0 v) = (F2_6 v) from if_neg (own_nlt (z := 65) rfl (by omega))]
    rw [show (F2_6 v) = (F2_12 v) from if_pos (own_gt (z := 90) rfl (by omega))]
    rw [show (F2_12 v) = (F2_18 v) from if_neg (own_nlt (z := 97) rfl (by omega))]
    rw [show (F2_18 v) = (F2_24 v) from if_pos (own_gt (z := 122) rfl (by omega))]
    rw [show (F2_24 v) = (F2_31 v) from if_neg (own_nlt (z := 192) rfl (by omega))]
    rw [show (F2_31 v) = (F2_38 v) from if_pos (own_gt (z := 214) rfl (by omega))]
    rw [show (F2_38 v) = (F2_45 v) from if_neg (own_nlt (z := 216) rfl (by omega))]
    rw [show (F2_45 v) = (F2_52 v) from if_pos (own_gt (z := 246) rfl (by omega))]
    rw [show (F2_52 v) = (F2_59 v) from if_neg (own_nlt (z := 248) rfl (by omega))]
    rw [show (F2_59 v) = (F2_66 v) from if_pos (own_gt (z := 767) rfl (by omega))]
    rw [show (F2_66 v) = (F2_73 v) from if_neg (own_nlt (z := 880) rfl (by omega))]
    rw [show (F2_73 v) = (F2_80 v) from if_pos (own_gt (z := 893) rfl (by omega))]
    rw [show (F2_80 v) = (F2_87 v) from if_neg (own_nlt (z := 895) rfl (by omega))]
    rw [show (F2_87 v) = (F2_94 v) from if_pos (own_gt (z := 8191) rfl (by omega))]
    rw [show (F2_94 v) = (F2_101 v) from if_neg (own_nlt (z := 8204) rfl (by omega))]
    rw [show (F2_101 v) = (F2_108 v) from if_pos (own_gt (z := 8205) rfl (by omega))]
    rw [show (F2_108 v) = (F2_115 v) from if_neg (own_nlt (z := 8304) rfl (by omega))]
    rw [show (F2_115 v) = (F2_122 v) from if_pos (own_gt (z := 8591) rfl (by omega))]
    rw [show (F2_122 v) = (F2_129 v) from if_neg (own_nlt (z := 11264) rfl (by omega))]
    rw [show (F2_129 v) = (F2_136 v) from if_pos (own_gt (z := 12271) rfl (by omega))]
    rw [show (F2_136 v) = (F2_143 v) from if_neg (own_nlt (z := 12289) rfl (by omega))]
    rw [show (F2_143 v) = (F2_149 v) from if_pos (own_gt (z := 55295) rfl (by omega))]
    rw [show (F2_149 v) = (F2_155 v) from if_neg (own_nlt (z := 63744) rfl (by omega))]
    rw [show (F2_155 v) = (F2_161 v) from if_pos (own_gt (z := 64975) rfl (by omega))]
    rw [show (F2_161 v) = (F2_173 v) from if_pos (own_lt (z := 65008) rfl (by omega))]
    rw [show (F2_173 v) = F2_189 from if_pos (own_lt (z := 65536) rfl (by omega))]
    rfl
  have b : F3_0 v = (0 : Int32) := by
    rw [show (F3_0 v) = (F3_8 v) from if_neg (own_nlt (z := 45) rfl (by omega))]
    rw [show (F3_8 v) = (F3_16 v) from if_neg (own_neq (z := 45) rfl (by omega))]
    rw [show (F3_16 v) = (F3_24 v) from if_neg (own_nlt (z := 48) rfl (by omega))]
    rw [show (F3_24 v) = (F3_32 v) from if_pos (own_gt (z := 57) rfl (by omega))]
    rw [show (F3_32 v) = (F3_40 v) from if_neg (own_nlt (z := 65) rfl (by omega))]
    rw [show (F3_40 v) = (F3_48 v) from if_pos (own_gt (z := 90) rfl (by omega))]
    rw [show (F3_48 v) = (F3_56 v) from if_neg (own_neq (z := 95) rfl (by omega))]
    rw [show (F3_56 v) = (F3_64 v) from if_neg (own_nlt (z := 97) rfl (by omega))]
    rw [show (F3_64 v) = (F3_72 v) from if_pos (own_gt (z := 122) rfl (by omega))]
    rw [show (F3_72 v) = (F3_81 v) from if_neg (own_nlt (z := 183) rfl (by omega))]
    rw [show (F3_81 v) = (F3_90 v) from if_neg (own_neq (z := 183) rfl (by omega))]
    rw [show (F3_90 v) = (F3_99 v) from if_neg (own_nlt (z := 192) rfl (by omega))]
    rw [show (F3_99 v) = (F3_108 v) from if_pos (own_gt (z := 214) rfl (by omega))]
    rw [show (F3_108 v) = (F3_117 v) from if_neg (own_neq (z := 215) rfl (by omega))]
    rw [show (F3_117 v) = (F3_126 v) from if_pos (own_gt (z := 246) rfl (by omega))]
    rw [show (F3_126 v) = (F3_135 v) from if_neg (own_neq (z := 247) rfl (by omega))]
    rw [show (F3_135 v) = (F3_144 v) from if_pos (own_gt (z := 893) rfl (by omega))]
    rw [show (F3_144 v) = (F3_153 v) from if_neg (own_neq (z := 894) rfl (by omega))]
    rw [show (F3_153 v) = (F3_162 v) from if_pos (own_gt (z := 8191) rfl (by omega))]
    rw [show (F3_162 v) = (F3_171 v) from if_neg (own_nlt (z := 8204) rfl (by omega))]
    rw [show (F3_171 v) = (F3_180 v) from if_pos (own_gt (z := 8205) rfl (by omega))]
    rw [show (F3_180 v) = (F3_189 v) from if_neg (own_nlt (z := 8255) rfl (by omega))]
    rw [show (F3_189 v) = (F3_198 v) from if_pos (own_gt (z := 8256) rfl (by omega))]
    rw [show (F3_198 v) = (F3_207 v) from if_neg (own_nlt (z := 8304) rfl (by omega))]
    rw [show (F3_207 v) = (F3_216 v) from if_pos (own_gt (z := 8591) rfl (by omega))]
    rw [show (F3_216 v) = (F3_225 v) from if_neg (own_nlt (z := 11264) rfl (by omega))]
    rw [show (F3_225 v) = (F3_234 v) from if_pos (own_gt (z := 12271) rfl (by omega))]
    rw [show (F3_234 v) = (F3_243 v) from if_neg (own_nlt (z := 12289) rfl (by omega))]
    rw [show (F3_243 v) = (F3_251 v) from if_pos (own_gt (z := 55295) rfl (by omega))]
    rw [show (F3_251 v) = (F3_259 v) from if_neg (own_nlt (z := 63744) rfl (by omega))]
    rw [show (F3_259 v) = (F3_267 v) from if_pos (own_gt (z := 64975) rfl (by omega))]
    rw [show (F3_267 v) = F3_273 from if_pos (own_lt (z := 65008) rfl (by omega))]
    rfl
  show F1t_4 v (F2_0 v) = F3_0 v
  rw [a, b]
  rw [show F1t_4 v (0 : Int32) = F1t_7 v from if_pos rfl]
  rw [show (F1t_7 v) = (F1t_13 v) from if_neg (own_neq (z := 95) rfl (by omega))]
  rw [show (F1t_13 v) = (F1t_19 v) from if_neg (own_neq (z := 45) rfl (by omega))]
  rw [show (F1t_19 v) = (F1t_25 v) from if_neg (own_nlt (z := 48) rfl (by omega))]
  rw [show (F1t_25 v) = (F1t_31 v) from if_pos (own_gt (z := 57) rfl (by omega))]
  rw [show (F1t_31 v) = (F1t_38 v) from if_neg (own_neq (z := 183) rfl (by omega))]
  rw [show (F1t_38 v) = (F1t_45 v) from if_neg (own_nlt (z := 768) rfl (by omega))]
  rw [show (F1t_45 v) = (F1t_52 v) from if_pos (own_gt (z := 879) rfl (by omega))]
  rw [show (F1t_52 v) = (F1t_59 v) from if_neg (own_nlt (z := 8255) rfl (by omega))]
  rw [show (F1t_59 v) = F1t_70 from if_pos (own_gt (z := 8256) rfl (by omega))]
  rfl
theorem own_same_35 (v : Int32) (h1 : 65008 ≤ v.toInt) (h2 : v.toInt ≤ 65533) : F1_0 v = F3_0 v := by
  have a : F2_0 v = (1 : Int32) := by
    rw [show (F2_0 v) = (F2_6 v) from if_neg (own_nlt (z := 65) rfl (by omega))]
    rw [show (F2_6 v) = (F2_12 v) from if_pos (own_gt (z := 90) rfl (by omega))]
    rw [show (F2_12 v) = (F2_18 v) from if_neg (own_nlt (z := 97) rfl (by omega))]
    rw [show (F2_18 v) = (F2_24 v) from if_pos (own_gt (z := 122) rfl (by omega))]
    rw [show (F2_24 v) = (F2_31 v) from if_neg (own_nlt (z := 192) rfl (by omega))]
    rw [show (F2_31 v) = (F2_38 v) from if_pos (own_gt (z := 214) rfl (by omega))]
    rw [show (F2_38 v) = (F2_45 v) from if_neg (own_nlt (z := 216) rfl (by omega))]
    rw [show (F2_45 v) = (F2_52 v) from if_pos (own_gt (z := 246) rfl (by omega))]
    rw [show (F2_52 v) = (F2_59 v) from if_neg (own_nlt (z := 248) rfl (by omega))]
    rw [show (F2_59 v) = (F2_66 v) from if_pos (own_gt (z := 767) rfl (by omega))]
    rw [show (F2_66 v) = (F2_73 v) from if_neg (own_nlt (z := 880) rfl (by omega))]
    rw [show (F2_73 v) = (F2_80 v) from if_pos (own_gt (z := 893) rfl (by omega))]
    rw [show (F2_80 v) = (F2_87 v) from if_neg (own_nlt (z := 895) rfl (by omega))]
    rw [show (F2_87 v) = (F2_94 v) from if_pos (own_gt (z := 8191) rfl (by omega))]
    rw [show (F2_94 v) = (F2_101 v) from if_neg (own_nlt (z := 8204) rfl (by omega))]
    rw [show (F2_101 v) = (F2_108 v) from if_pos (own_gt (z := 8205) rfl (by omega))]
    rw [show (F2_108 v) = (F2_115 v) from if_neg (own_nlt (z := 8304) rfl (by omega))]
    rw [show (F2_115 v) = (F2_122 v) from if_pos (own_gt (z := 8591) rfl (by omega))]
    rw [show (F2_122 v) = (F2_129 v) from if_neg (own_nlt (z := 11264) rfl (by omega))]
    rw [show (F2_129 v) = (F2_136 v) from if_pos (own_gt (z := 12271) rfl (by omega))]
    rw [show (F2_136 v) = (F2_143 v) from if_neg (own_nlt (z := 12289) rfl (by omega))]
    rw [show (F2_143 v) = (F2_149 v) from if_pos (own_gt (z := 55295) rfl (by omega))]
    rw [show (F2_149 v) = (F2_155 v) from if_neg (own_nlt (z := 63744) rfl (by omega))]
    rw [show (F2_155 v) = (F2_161 v) from if_pos (own_gt (z := 64975) rfl (by omega))]
    rw [show (F2_161 v) = (F2_167 v) from if_neg (own_nlt (z := 65008) rfl (by omega))]
    rw [show (F2_167 v) = F2_185 from if_neg (own_ngt (z := 65533) rfl (by omega))]
    rfl
  have b : F3_0 v = (1 : Int32) := by
    rw [show (F3_0 v) = (F3_8 v) from if_neg (own_nlt (z := 45) rfl (by omega))]
    rw [show (F3_8 v) = (F3_16 v) from if_neg (own_neq (z := 45) rfl (by omega))]
    rw [show (F3_16 v) = (F3_24 v) from if_neg (own_nlt (z := 48) rfl (by omega))]
    rw [show (F3_24 v) = (F3_32 v) from if_pos (own_gt (z := 57) rfl (by omega))]
    rw [show (F3_32 v) = (F3_40 v) from if_neg (own_nlt (z := 65) rfl (by omega))]
    rw [show (F3_40 v) = (F3_48 v) from if_pos (own_gt (z := 90) rfl (by omega))]
    rw [show (F3_48 v) = (F3_56 v) from if_neg (own_neq (z := 95) rfl (by omega))]
    rw [show (F3_56 v) = (F3_64 v) from if_neg (own_nlt (z := 97) rfl (by omega))]
    rw [show (F3_64 v) = (F3_72 v) from if_pos (own_gt (z := 122) rfl (by omega))]
    rw [show (F3_72 v) = (F3_81 v) from if_neg (own_nlt (z := 183) rfl (by omega))]
    rw [show (F3_81 v) = (F3_90 v) from if_neg (own_neq (z := 183) rfl (by omega))]
    rw [show (F3_90 v) = (F3_99 v) from if_neg (own_nlt (z := 192) rfl (by omega))]
    rw [show (F3_99 v) = (F3_108 v) from if_pos (own_gt (z := 214) rfl (by omega))]
    rw [show (F3_108 v) = (F3_117 v) from if_neg (own_neq (z := 215) rfl (by omega))]
    rw [show (F3_117 v) = (F3_126 v) from if_pos (own_gt (z := 246) rfl (by omega))]
    rw [show (F3_126 v) = (F3_135 v) from if_neg (own_neq (z := 247) rfl (by omega))]
    rw [show (F3_135 v) = (F3_144 v) from if_pos (own_gt (z := 893) rfl (by omega))]
    rw [show (F3_144 v) = (F3_153 v) from if_neg (own_neq (z := 894) rfl (by omega))]
    rw [show (F3_153 v) = (F3_162 v) from if_pos (own_gt (z := 8191) rfl (by omega))]
    rw [show (F3_162 v) = (F3_171 v) from if_neg (own_nlt (z := 8204) rfl (by omega))]
    rw [show (F3_171 v) = (F3_180 v) from if_pos (own_gt (z := 8205) rfl (by omega))]
    rw [show (F3_180 v) = (F3_189 v) from if_neg (own_nlt (z := 8255) rfl (by omega))]
    rw [show (F3_189 v) = (F3_198 v) from if_pos (own_gt (z := 8256) rfl (by omega))]
    rw [show (F3_198 v) = (F3_207 v) from if_neg (own_nlt (z := 8304) rfl (by omega))]
    rw [show (F3_207 v) = (F3_216 v) from if_pos (own_gt (z := 8591) rfl (by omega))]
    rw [show (F3_216 v) = (F3_225 v) from if_neg (own_nlt (z := 11264) rfl (by omega))]
    rw [show (F3_225 v) = (F3_234 v) from if_pos (own_gt (z := 12271) rfl (by omega))]
    rw [show (F3_234 v) = (F3_243 v) from if_neg (own_nlt (z := 12289) rfl (by omega))]
    rw [show (F3_243 v) = (F3_251 v) from if_pos (own_gt (z := 55295) rfl (by omega))]
    rw [show (F3_251 v) = (F3_259 v) from if_neg (own_nlt (z := 63744) rfl (by omega))]
    rw [show (F3_259 v) = (F3_267 v) from if_pos (own_gt (z := 64975) rfl (by omega))]
    rw [show (F3_267 v) = (F3_275 v) from if_neg (own_nlt (z := 65008) rfl (by omega))]
    rw [show (F3_275 v) = F3_281 from if_neg (own_ngt (z := 65533) rfl (by omega))]
    rfl
  show F1t_4 v (F2_0 v) = F3_0 v
  rw [a, b]
  rfl
theorem own_same_36 (v : Int32) (h1 : 65534 ≤ v.toInt) (h2 : v.toInt ≤ 65535) : F1_0 v = F3_0 v := by
  have a : F2_0 v = (0 : Int32) := by
    rw [show (F2_0 v) = (F2_6 v) from if_neg (own_nlt (z := 65) rfl (by omega))]
    rw [show (F2_6 v) = (F2_12 v) from if_pos (own_gt (z := 90) rfl (by omega))]
    rw [show (F2_12 v) = (F2_18 v) from if_neg (own_nlt (z := 97) rfl (by omega))]
    rw [show (F2_18 v) = (F2_24 v) from if_pos (own_gt (z := 122) rfl (by omega))]
    rw [show (F2_24 v) = (F2_31 v) from if_neg (own_nlt (z := 192) rfl (by omega))]
    rw [show (F2_31 v) = (F2_38 v) from if_pos (own_gt (z := 214) rfl (by omega))]
    rw [show (F2_38 v) = (F2_45 v) from if_neg (own_nlt (z := 216) rfl (by omega))]
    rw [show (F2_45 v) = (F2_52 v) from if_pos (own_gt (z := 246) rfl (by omega))]
    rw [show (F2_52 v) = (F2_59 v) from if_neg (own_nlt (z := 248) rfl (by omega))]
    rw [show (F2_59 v) = (F2_66 v) from if_pos (own_gt (z := 767) rfl (by omega))]
    rw [show (F2_66 v) = (F2_73 v) from if_neg (own_nlt (z := 880) rfl (by omega))]
    rw [show (F2_73 v) = (F2_80 v) from if_pos (own_gt (z := 893) rfl (by omega))]
    rw [show (F2_80 v) = (F2_87 v) from if_neg (own_nlt (z := 895) rfl (by omega))]
    rw [show (F2_87 v) = (F2_94 v) from if_pos (own_gt (z := 8191) rfl (by omega))]
    rw [show (F2_94 v) = (F2_101 v) from if_neg (own_nlt (z := 8204) rfl (by omega))]
    rw [show (F2_101 v) = (F2_108 v) from if_pos (own_gt (z := 8205) rfl (by omega))]
    rw [show (F2_108 v) = (F2_115 v) from if_neg (own_nlt (z := 8304) rfl (by omega))]
    rw [show (F2_115 v) = (F2_122 v) from if_pos (own_gt (z := 8591) rfl (by omega))]
    rw [show (F2_122 v) = (F2_129 v) from if_neg (own_nlt (z := 11264) rfl (by omega))]
    rw [show (F2_129 v) = (F2_136 v) from if_pos (own_gt (z := 12271) rfl (by omega))]
    rw [show (F2_136 v) = (F2_143 v) from if_neg (own_nlt (z := 12289) rfl (by omega))]
    rw [show (F2_143 v) = (F2_149 v) from if_pos (own_gt (z := 55295) rfl (by omega))]
    rw [show (F2_149 v) = (F2_155 v) from if_neg (own_nlt (z := 63744) rfl (by omega))]
    rw [show (F2_155 v) = (F2_161 v) from if_pos (own_gt (z := 64975) rfl (by omega))]
    rw [show (F2_161 v) = (F2_167 v) from if_neg (own_nlt (z := 65008) rfl (by omega))]
    rw [show (F2_167 v) = (F2_173 v) from if_pos (own_gt (z := 65533) rfl (by omega))]
    rw [show (F2_173 v) = F2_189 from if_pos (own_lt (z := 65536) rfl (by omega))]
    rfl
  have b : F3_0 v = (0 : Int32) := by
    rw [show (F3_0 v) = (F3_8 v) from if_neg (own_nlt (z := 45) rfl (by omega))]
    rw [show (F3_8 v) = (F3_16 v) from if_neg (own_neq (z := 45) rfl (by omega))]
    rw [show (F3_16 v) = (F3_24 v) from if_neg (own_nlt (z := 48) rfl (by omega))]
    rw [show (F3_24 v) = (F3_32 v) from if_pos (own_gt (z := 57) rfl (by omega))]
    rw [show (F3_32 v) = (F3_40 v) from if_neg (own_nlt (z := 65) rfl (by omega))]
    rw [show (F3_40 v) = (F3_48 v) from if_pos (own_gt (z := 90) rfl (by omega))]
    rw [show (F3_48 v) = (F3_56 v) from if_neg (own_neq (z := 95) rfl (by omega))]
    rw [show (F3_56 v) = (F3_64 v) from if_neg (own_nlt (z := 97) rfl (by omega))]
    rw [show (F3_64 v) = (F3_72 v) from if_pos (own_gt (z := 122) rfl (by omega))]
    rw [show (F3_72 v) = (F3_81 v) from if_neg (own_nlt (z := 183) rfl (by omega))]
    rw [show (F3_81 v) = (F3_90 v) from if_neg (own_neq (z := 183) rfl (by omega))]
    rw [show (F3_90 v) = (F3_99 v) from if_neg (own_nlt (z := 192) rfl (by omega))]
    rw [show (F3_99 v) = (F3_108 v) from if_pos (own_gt (z := 214) rfl (by omega))]
    rw [show (F3_108 v) = (F3_117 v) from if_neg (own_neq (z := 215) rfl (by omega))]
    rw [show (F3_117 v) = (F3_126 v) from if_pos (own_gt (z := 246) rfl (by omega))]
    rw [show (F3_126 v) = (F3_135 v) from if_neg (own_neq (z := 247) rfl (by omega))]
    rw [show (F3_135 v) = (F3_144 v) from if_pos (own_gt (z := 893) rfl (by omega))]
    rw [show (F3_144 v) = (F3_153 v) from if_neg (own_neq (z := 894) rfl (by omega))]
    rw [show (F3_153 v) = (F3_162 v) from if_pos (own_gt (z := 8191) rfl (by omega))]
    rw [show (F3_162 v) = (F3_171 v) from if_neg (own_nlt (z := 8204) rfl (by omega))]
    rw [show (F3_171 v) = (F3_180 v) from if_pos (own_gt (z := 8205) rfl (by omega))]
    rw [show (F3_180 v) = (F3_189 v) from if_neg (own_nlt (z := 8255) rfl (by omega))]
    rw [show (F3_189 v) = (F3_198 v) from if_pos (own_gt (z := 8256) rfl (by omega))]
    rw [show (F3_198 v) = (F3_207 v) from if_neg (own_nlt (z := 8304) rfl (by omega))]
    rw [show (F3_207 v) = (F3_216 v) from if_pos (own_gt (z := 8591) rfl (by omega))]
    rw [show (F3_216 v) = (F3_225 v) from if_neg (own_nlt (z := 11264) rfl (by omega))]
    rw [show (F3_225 v) = (F3_234 v) from if_pos (own_gt (z := 12271) rfl (by omega))]
    rw [show (F3_234 v) = (F3_243 v) from if_neg (own_nlt (z := 12289) rfl (by omega))]
    rw [show (F3_243 v) = (F3_251 v) from if_pos (own_gt (z := 55295) rfl (by omega))]
    rw [show (F3_251 v) = (F3_259 v) from if_neg (own_nlt (z := 63744) rfl (by omega))]
    rw [show (F3_259 v) = (F3_267 v) from if_pos (own_gt (z := 64975) rfl (by omega))]
    rw [show (F3_267 v) = (F3_275 v) from if_neg (own_nlt (z := 65008) rfl (by omega))]
    rw [show (F3_275 v) = (F3_283 v) from if_pos (own_gt (z := 65533) rfl (by omega))]
    rw [show (F3_283 v) = F3_289 from if_pos (own_lt (z := 65536) rfl (by omega))]
    rfl
  show F1t_4 v (F2_0 v) = F3_0 v
  rw [a, b]
  rw [show F1t_4 v (0 : Int32) = F1t_7 v from if_pos rfl]
  rw [show (F1t_7 v) = (F1t_13 v) from if_neg (own_neq (z := 95) rfl (by omega))]
  rw [show (F1t_13 v) = (F1t_19 v) from if_neg (own_neq (z := 45) rfl (by omega))]
  rw [show (F1t_19 v) = (F1t_25 v) from if_neg (own_nlt (z := 48) rfl (by omega))]
  rw [show (F1t_25 v) = (F1t_31 v) from if_pos (own_gt (z := 57) rfl (by omega))]
  rw [show (F1t_31 v) = (F1t_38 v) from if_neg (own_neq (z := 183) rfl (by omega))]
  rw [show (F1t_38 v) = (F1t_45 v) from if_neg (own_nlt (z := 768) rfl (by omega))]
  rw [show (F1t_45 v) = (F1t_52 v) from if_pos (own_gt (z := 879) rfl (by omega))]
  rw [show (F1t_52 v) = (F1t_59 v) from if_neg (own_nlt (z := 8255) rfl (by omega))]
  rw [show (F1t_59 v) = F1t_70 from if_pos (own_gt (z := 8256) rfl (by omega))]
  rfl
theorem own_same_37 (v : Int32) (h1 : 65536 ≤ v.toInt) (h2 : v.toInt ≤ 983039) : F1_0 v = F3_0 v := by
  have a : F2_0 v = (1 : Int32) := by
    rw [show (F2_0 v) = (F2_6 v) from if_neg (own_nlt (z := 65) rfl (by omega))]
    rw [show (F2_6 v) = (F2_12 v) from if_pos (own_gt (z := 90) rfl (by omega))]
    rw [show (F2_12 v) = (F2_18 v) from if_neg (own_nlt (z := 97) rfl (by omega))]
    rw [show (F2_18 v) = (F2_24 v) from if_pos (own_gt (z := 122) rfl (by omega))]
    rw [show (F2_24 v) = (F2_31 v) from if_neg (own_nlt (z := 192) rfl (by omega))]
    rw [show (F2_31 v) = (F2_38 v) from if_pos (own_gt (z := 214) rfl (by omega))]
    rw [show (F2_38 v) = (F2_45 v) from if_neg (own_nlt (z := 216) rfl (by omega))]
    rw [show (F2_45 v) = (F2_52 v) from if_pos (own_gt (z := 246) rfl (by omega))]
    rw [show (F2_52 v) = (F2_59 v) from if_neg (own_nlt (z := 248) rfl (by omega))]
    rw [show (F2_59 v) = (F2_66 v) from if_pos (own_gt (z := 767) rfl (by omega))]
    rw [show (F2_66 v) = (F2_73 v) from if_neg (own_nlt (z := 880) rfl (by omega))]
    rw [show (F2_73 v) = (F2_80 v) from if_pos (own_gt (z := 893) rfl (by omega))]
    rw [show (F2_80 v) = (F2_87 v) from if_neg (own_nlt (z := 895) rfl (by omega))]
    rw [show (F2_87 v) = (F2_94 v) from if_pos (own_gt (z := 8191) rfl (by omega))]
    rw [show (F2_94 v) = (F2_101 v) from if_neg (own_nlt (z := 8204) rfl (by omega))]
    rw [show (F2_101 v) = (F2_108 v) from if_pos (own_gt (z := 8205) rfl (by omega))]
    rw [show (F2_108 v) = (F2_115 v) from if_neg (own_nlt (z := 8304) rfl (by omega))]
    rw [show (F2_115 v) = (F2_122 v) from if_pos (own_gt (z := 8591) rfl (by omega))]
    rw [show (F2_122 v) = (F2_129 v) from if_neg (own_nlt (z := 11264) rfl (by omega))]
    rw [show (F2_129 v) = (F2_136 v) from if_pos (own_gt (z := 12271) rfl (by omega))]
    rw [show (F2_136 v) = (F2_143 v) from if_neg (own_nlt (z := 12289) rfl (by omega))]
    rw [show (F2_143 v) = (F2_149 v) from if_pos (own_gt (z := 55295) rfl (by omega))]
    rw [show (F2_149 v) = (F2_155 v) from if_neg (own_nlt (z := 63744) rfl (by omega))]
    rw [show (F2_155 v) = (F2_161 v) from if_pos (own_gt (z := 64975) rfl (by omega))]
    rw [show (F2_161 v) = (F2_167 v) from if_neg (own_nlt (z := 65008) rfl (by omega))]
    rw [show (F2_167 v) = (F2_173 v) from if_pos (own_gt (z := 65533) rfl (by omega))]
    rw [show (F2_173 v) = (F2_179 v) from if_neg (own_nlt (z := 65536) rfl (by omega))]
    rw [show (F2_179 v) = F2_185 from if_neg (own_ngt (z := 983039) rfl (by omega))]
    rfl
  have b : F3_0 v = (1 : Int32) := by
    rw [show (F3_0 v) = (F3_8 v) from if_neg (own_nlt (z := 45) rfl (by omega))]
    rw [show (F3_8 v) = (F3_16 v) from if_neg (own_neq (z := 45) rfl (by omega))]
    rw [show (F3_16 v) = (F3_24 v) from if_neg (own_nlt (z := 48) rfl (by omega))]
    rw [show (F3_24 v) = (F3_32 v) from if_pos (own_gt (z := 57) rfl (by omega))]
    rw [show (F3_32 v) = (F3_40 v) from if_neg (own_nlt (z := 65) rfl (by omega))]
    rw [show (F3_40 v) = (F3_48 v) from if_pos (own_gt (z := 90) rfl (by omega))]
    rw [show (F3_48 v) = (F3_56 v) from if_neg (own_neq (z := 95) rfl (by omega))]
    rw [show (F3_56 v) = (F3_64 v) from if_neg (own_nlt (z := 97) rfl (by omega))]
    rw [show (F3_64 v) = (F3_72 v) from if_pos (own_gt (z := 122) rfl (by omega))]
    rw [show (F3_72 v) = (F3_81 v) from if_neg (own_nlt (z := 183) rfl (by omega))]
    rw [show (F3_81 v) = (F3_90 v) from if_neg (own_neq (z := 183) rfl (by omega))]
    rw [show (F3_90 v) = (F3_99 v) from if_neg (own_nlt (z := 192) rfl (by omega))]
    rw [show (F3_99 v) = (F3_108 v) from if_pos (own_gt (z := 214) rfl (by omega))]
    rw [show (F3_108 v) = (F3_117 v) from if_neg (own_neq (z := 215) rfl (by omega))]
    rw [show (F3_117 v) = (F3_126 v) from if_pos (own_gt (z := 246) rfl (by omega))]
    rw [show (F3_126 v) = (F3_135 v) from if_neg (own_neq (z := 247) rfl (by omega))]
    rw [show (F3_135 v) = (F3_144 v) from if_pos (own_gt (z := 893) rfl (by omega))]
    rw [show (F3_144 v) = (F3_153 v) from if_neg (own_neq (z := 894) rfl (by omega))]
    rw [show (F3_153 v) = (F3_162 v) from if_pos (own_gt (z := 8191) rfl (by omega))]
    rw [show (F3_162 v) = (F3_171 v) from if_neg (own_nlt (z := 8204) rfl (by omega))]
    rw [show (F3_171 v) = (F3_180 v) from if_pos (own_gt (z := 8205) rfl (by omega))]
    rw [show (F3_180 v) = (F3_189 v) from if_neg (own_nlt (z := 8255) rfl (by omega))]
    rw [show (F3_189 v) = (F3_198 v) from if_pos (own_gt (z := 8256) rfl (by omega))]
    rw [show (F3_198 v) = (F3_207 v) from if_neg (own_nlt (z := 8304) rfl (by omega))]
    rw [show (F3_207 v) = (F3_216 v) from if_pos (own_gt (z := 8591) rfl (by omega))]
    rw [show (F3_216 v) = (F3_225 v) from if_neg (own_nlt (z := 11264) rfl (by omega))]
    rw [show (F3_225 v) = (F3_234 v) from if_pos (own_gt (z := 12271) rfl (by omega))]
    rw [show (F3_234 v) = (F3_243 v) from if_neg (own_nlt (z := 12289) rfl (by omega))]
    rw [show (F3_243 v) = (F3_251 v) from if_pos (own_gt (z := 55295) rfl (by omega))]
    rw [show (F3_251 v) = (F3_259 v) from if_neg (own_nlt (z := 63744) rfl (by omega))]
    rw [show (F3_259 v) = (F3_267 v) from if_pos (own_gt (z := 64975) rfl (by omega))]
    rw [show (F3_267 v) = (F3_275 v) from if_neg (own_nlt (z := 65008) rfl (by omega))]
    rw [show (F3_275 v) = (F3_283 v) from if_pos (own_gt (z := 65533) rfl (by omega))]
    rw [show (F3_283 v) = (F3_291 v) from if_neg (own_nlt (z := 65536) rfl (by omega))]
    rw [show (F3_291 v) = F3_297 from if_neg (own_ngt (z := 983039) rfl (by omega))]
    rfl
  show F1t_4 v (F2_0 v) = F3_0 v
  rw [a, b]
  rfl
theorem own_same_38 (v : Int32) (h1 : 983040 ≤ v.toInt) (h2 : v.toInt ≤ 2147483647) : F1_0 v = F3_0 v := by
  have a : F2_0 v = (0 : Int32) := by
    rw [show (F2_0 v) = (F2_6 v) from if_neg (own_nlt (z := 65) rfl (by omega))]
    rw [show (F2_6 v) = (F2_12 v) from if_pos (own_gt (z := 90) rfl (by omega))]
    rw [show (F2_12 v) = (F2_18 v) from if_neg (own_nlt (z := 97) rfl (by omega))]
    rw [show (F2_18 v) = (F2_24 v) from if_pos (own_gt (z := 122) rfl (by omega))]
    rw [show (F2_24 v) = (F2_31 v) from if_neg (own_nlt (z := 192) rfl (by omega))]
    rw [show (F2_31 v) = (F2_38 v) from if_pos (own_gt (z := 214) rfl (by omega))]
    rw [show (F2_38 v) = (F2_45 v) from if_neg (own_nlt (z := 216) rfl (by omega))]
    rw [show (F2_45 v) = (F2_52 v) from if_pos (own_gt (z := 246) rfl (by omega))]
    rw [show (F2_52 v) = (F2_59 v) from if_neg (own_nlt (z := 248) rfl (by omega))]
    rw [show (F2_59 v) = (F2_66 v) from if_pos (own_gt (z := 767) rfl (by omega))]
    rw [show (F2_66 v) = (F2_73 v) from if_neg (own_nlt (z := 880) rfl (by omega))]
    rw [show (F2_73 v) = (F2_80 v) from if_pos (own_gt (z := 893) rfl (by omega))]
    rw [show (F2_80 v) = (F2_87 v) from if_neg (own_nlt (z := 895) rfl (by omega))]
    rw [show (F2_87 v) = (F2_94 v) from if_pos (own_gt (z := 8191) rfl (by omega))]
    rw [show (F2_94 v) = (F2_101 v) from if_neg (own_nlt (z := 8204) rfl (by omega))]
    rw [show (F2_101 v) = (F2_108 v) from if_pos (own_gt (z := 8205) rfl (by omega))]
    rw [show (F2_108 v) = (F2_115 v) from if_neg (own_nlt (z := 8304) rfl (by omega))]
    rw [show (F2_115 v) = (F2_122 v) from if_pos (own_gt (z := 8591) rfl (by omega))]
    rw [show (F2_122 v) = (F2_129 v) from if_neg (own_nlt (z := 11264) rfl (by omega))]
    rw [show (F2_129 v) = (F2_136 v) from if_pos (own_gt (z := 12271) rfl (by omega))]
    rw [show (F2_136 v) = (F2_143 v) from if_neg (own_nlt (z := 12289) rfl (by omega))]
    rw [show (F2_143 v) = (F2_149 v) from if_pos (own_gt (z := 55295) rfl (by omega))]
    rw [show (F2_149 v) = (F2_155 v) from if_neg (own_nlt (z := 63744) rfl (by omega))]
    rw [show (F2_155 v) = (F2_161 v) from if_pos (own_gt (z := 64975) rfl (by omega))]
    rw [show (F2_161 v) = (F2_167 v) from if_neg (own_nlt (z := 65008) rfl (by omega))]
    rw [show (F2_167 v) = (F2_173 v) from if_pos (own_gt (z := 65533) rfl (by omega))]
    rw [show (F2_173 v) = (F2_179 v) from if_neg (own_nlt (z := 65536) rfl (by omega))]
    rw [show (F2_179 v) = F2_189 from if_pos (own_gt (z := 983039) rfl (by omega))]
    rfl
  have b : F3_0 v = (0 : Int32) := by
    rw [show (F3_0 v) = (F3_8 v) from if_neg (own_nlt (z := 45) rfl (by omega))]
    rw [show (F3_8 v) = (F3_16 v) from if_neg (own_neq (z := 45) rfl (by omega))]
    rw [show (F3_16 v) = (F3_24 v) from if_neg (own_nlt (z := 48) rfl (by omega))]
    rw [show (F3_24 v) = (F3_32 v) from if_pos (own_gt (z := 57) rfl (by omega))]
    rw [show (F3_32 v) = (F3_40 v) from if_neg (own_nlt (z := 65) rfl (by omega))]
    rw [show (F3_40 v) = (F3_48 v) from if_pos (own_gt (z := 90) rfl (by omega))]
    rw [show (F3_48 v) = (F3_56 v) from if_neg (own_neq (z := 95) rfl (by omega))]
    rw [show (F3_56 v) = (F3_64 v) from if_neg (own_nlt (z := 97) rfl (by omega))]
    rw [show (F3_64 v) = (F3_72 v) from if_pos (own_gt (z := 122) rfl (by omega))]
    rw [show (F3_72 v) = (F3_81 v) from if_neg (own_nlt (z := 183) rfl (by omega))]
    rw [show (F3_81 v) = (F3_90 v) from if_neg (own_neq (z := 183) rfl (by omega))]
    rw [show (F3_90 v) = (F3_99 v) from if_neg (own_nlt (z := 192) rfl (by omega))]
    rw [show (F3_99 v) = (F3_108 v) from if_pos (own_gt (z := 214) rfl (by omega))]
    rw [show (F3_108 v) = (F3_117 v) from if_neg (own_neq (z := 215) rfl (by omega))]
    rw [show (F3_117 v) = (F3_126 v) from if_pos (own_gt (z := 246) rfl (by omega))]
    rw [show (F3_126 v) = (F3_135 v) from if_neg (own_neq (z := 247) rfl (by omega))]
    rw [show (F3_135 v) = (F3_144 v) from if_pos (own_gt (z := 893) rfl (by omega))]
    rw [show (F3_144 v) = (F3_153 v) from if_neg (own_neq (z := 894) rfl (by omega))]
    rw [show (F3_153 v) = (F3_162 v) from if_pos (own_gt (z := 8191) rfl (by omega))]
    rw [show (F3_162 v) = (F3_171 v) from if_neg (own_nlt (z := 8204) rfl (by omega))]
    rw [show (F3_171 v) = (F3_180 v) from if_pos (own_gt (z := 8205) rfl (by omega))]
    rw [show (F3_180 v) = (F3_189 v) from if_neg (own_nlt (z := 8255) rfl (by omega))]
    rw [show (F3_189 v) = (F3_198 v) from if_pos (own_gt (z := 8256) rfl (by omega))]
    rw [show (F3_198 v) = (F3_207 v) from if_neg (own_nlt (z := 8304) rfl (by omega))]
    rw [show (F3_207 v) = (F3_216 v) from if_pos (own_gt (z := 8591) rfl (by omega))]
    rw [show (F3_216 v) = (F3_225 v) from if_neg (own_nlt (z := 11264) rfl (by omega))]
    rw [show (F3_225 v) = (F3_234 v) from if_pos (own_gt (z := 12271) rfl (by omega))]
    rw [show (F3_234 v) = (F3_243 v) from if_neg (own_nlt (z := 12289) rfl (by omega))]
    rw [show (F3_243 v) = (F3_251 v) from if_pos (own_gt (z := 55295) rfl (by omega))]
    rw [show (F3_251 v) = (F3_259 v) from if_neg (own_nlt (z := 63744) rfl (by omega))]
    rw [show (F3_259 v) = (F3_267 v) from if_pos (own_gt (z := 64975) rfl (by omega))]
    rw [show (F3_267 v) = (F3_275 v) from if_neg (own_nlt (z := 65008) rfl (by omega))]
    rw [show (F3_275 v) = (F3_283 v) from if_pos (own_gt (z := 65533) rfl (by omega))]
    rw [show (F3_283 v) = (F3_291 v) from if_neg (own_nlt (z := 65536) rfl (by omega))]
    rw [show (F3_291 v) = F3_301 from if_pos (own_gt (z := 983039) rfl (by omega))]
    rfl
  show F1t_4 v (F2_0 v) = F3_0 v
  rw [a, b]
  rw [show F1t_4 v (0 : Int32) = F1t_7 v from if_pos rfl]
  rw [show (F1t_7 v) = (F1t_13 v) from if_neg (own_neq (z := 95) rfl (by omega))]
  rw [show (F1t_13 v) = (F1t_19 v) from if_neg (own_neq (z := 45) rfl (by omega))]
  rw [show (F1t_19 v) = (F1t_25 v) from if_neg (own_nlt (z := 48) rfl (by omega))]
  rw [show (F1t_25 v) = (F1t_31 v) from if_pos (own_gt (z := 57) rfl (by omega))]
  rw [show (F1t_31 v) = (F1t_38 v) from if_neg (own_neq (z := 183) rfl (by omega))]
  rw [show (F1t_38 v) = (F1t_45 v) from if_neg (own_nlt (z := 768) rfl (by omega))]
  rw [show (F1t_45 v) = (F1t_52 v) from if_pos (own_gt (z := 879) rfl (by omega))]
  rw [show (F1t_52 v) = (F1t_59 v) from if_neg (own_nlt (z := 8255) rfl (by omega))]
  rw [show (F1t_59 v) = F1t_70 from if_pos (own_gt (z := 8256) rfl (by omega))]
  rfl
theorem own_same (v : Int32) : F1_0 v = F3_0 v := by
  have hr := rng32 v
  by_cases c0 : v.toInt < 45
  · exact own_same_0 v (by omega) (by omega)
  by_cases c1 : v.toInt < 46
  · exact own_same_1 v (by omega) (by omega)
  by_cases c2 : v.toInt < 48
  · exact own_same_2 v (by omega) (by omega)
  by_cases c3 : v.toInt < 58
  · exact own_same_3 v (by omega) (by omega)
  by_cases c4 : v.toInt < 65
  · exact own_same_4 v (by omega) (by omega)
  by_cases c5 : v.toInt < 91
  · exact own_same_5 v (by omega) (by omega)
  by_cases c6 : v.toInt < 95
  · exact own_same_6 v (by omega) (by omega)
  by_cases c7 : v.toInt < 96
  · exact own_same_7 v (by omega) (by omega)
  by_cases c8 : v.toInt < 97
  · exact own_same_8 v (by omega) (by omega)
  by_cases c9 : v.toInt < 123
  · exact own_same_9 v (by omega) (by omega)
  by_cases c10 : v.toInt < 183
  · exact own_same_10 v (by omega) (by omega)
  by_cases c11 : v.toInt < 184
  · exact own_same_11 v (by omega) (by omega)
  by_cases c12 : v.toInt < 192
  · exact own_same_12 v (by omega) (by omega)
  by_cases c13 : v.toInt < 215
  · exact own_same_13 v (by omega) (by omega)
  by_cases c14 : v.toInt < 216
  · exact own_same_14 v (by omega) (by omega)
  by_cases c15 : v.toInt < 247
  · exact own_same_15 v (by omega) (by omega)
  by_cases c16 : v.toInt < 248
  · exact own_same_16 v (by omega) (by omega)
  by_cases c17 : v.toInt < 768
  · exact own_same_17 v (by omega) (by omega)
  by_cases c18 : v.toInt < 880
  · exact own_same_18 v (by omega) (by omega)
  by_cases c19 : v.toInt < 894
  · exact own_same_19 v (by omega) (by omega)
  by_cases c20 : v.toInt < 895
  · exact own_same_20 v (by omega) (by omega)
  by_cases c21 : v.toInt < 8192
  · exact own_same_21 v (by omega) (by omega)
  by_cases c22 : v.toInt < 8204
  · exact own_same_22 v (by omega) (by omega)
  by_cases c23 : v.toInt < 8206
  · exact own_same_23 v (by omega) (by omega)
  by_cases c24 : v.toInt < 8255
  · exact own_same_24 v (by omega) (by omega)
  by_cases c25 : v.toInt < 8257
  · exact own_same_25 v (by omega) (by omega)
  by_cases c26 : v.toInt < 8304
  · exact own_same_26 v (by omega) (by omega)
  by_cases c27 : v.toInt < 8592
  · exact own_same_27 v (by omega) (by omega)
  by_cases c28 : v.toInt < 11264
  · exact own_same_28 v (by omega) (by omega)
  by_cases c29 : v.toInt < 12272
  · exact own_same_29 v (by omega) (by omega)
  by_cases c30 : v.toInt < 12289
  · exact own_same_30 v (by omega) (by omega)
  by_cases c31 : v.toInt < 55296
  · exact own_same_31 v (by omega) (by omega)
  by_cases c32 : v.toInt < 63744
  · exact own_same_32 v (by omega) (by omega)
  by_cases c33 : v.toInt < 64976
  · exact own_same_33 v (by omega) (by omega)
  by_cases c34 : v.toInt < 65008
  · exact own_same_34 v (by omega) (by omega)
  by_cases c35 : v.toInt < 65534
  · exact own_same_35 v (by omega) (by omega)
  by_cases c36 : v.toInt < 65536
  · exact own_same_36 v (by omega) (by omega)
  by_cases c37 : v.toInt < 983040
  · exact own_same_37 v (by omega) (by omega)
  exact own_same_38 v (by omega) (by omega)
theorem own_m31 (x : Int32) : 0 ≤ (x &&& (2147483647 : Int32)).toInt := by
  rw [c_mask x 2147483647 31 (by decide) (by decide)]; exact Int.emod_nonneg _ (by decide)
theorem own_idx (x y : Int32) (d : Nat) (hy : y.toInt = (d : Int)) (hd : 0 < d) : ¬ ((x &&& (2147483647 : Int32)) - ((x &&& (2147483647 : Int32)) / y) * y) < 0 ∧ ((x &&& (2147483647 : Int32)) - ((x &&& (2147483647 : Int32)) / y) * y).toNatClampNeg < d := by
  have e : ((x &&& (2147483647 : Int32)) - ((x &&& (2147483647 : Int32)) / y) * y).toInt = (x &&& (2147483647 : Int32)).toInt % (d : Int) := by
    rw [irem_eq_mod, (c_irem _ y d hy).1 (own_m31 x)]
  have q0 := Int.emod_nonneg (x &&& (2147483647 : Int32)).toInt (b := (d : Int)) (by omega)
  have q1 := Int.emod_lt_of_pos (x &&& (2147483647 : Int32)).toInt (b := (d : Int)) (by omega)
  generalize ((x &&& (2147483647 : Int32)) - ((x &&& (2147483647 : Int32)) / y) * y) = w at *
  have e0 : (0 : Int32).toInt = 0 := rfl
  refine ⟨by rw [Int32.lt_iff_toInt_lt]; omega, ?_⟩
  show w.toInt.toNat < d
  omega

theorem pn_0 : plainName "shapewright/NameCharactersIsPartPinLaw" = true := by first | (simp [plainName, overriddenIn]; done) | decide +kernel
theorem ef_0 (m : MethodId) (p0 : Int32) (p1 : Int32) (p2 : Int32) (p3 : Int32) : entryFrame m #[(.int p0), (.int p1), (.int p2), (.int p3)] maxLocals = mkF m 0 #[.val (.int p0), .val (.int p1), .val (.int p2), .val (.int p3), .unset, .unset] [] := by first | (simp [entryFrame, mkF, argsToLocals, Value.category, maxLocals]; done) | rfl
def Q_rm0a (Z : State) (p0 : Int32) (p1 : Int32) (p2 : Int32) (p3 : Int32) (h0 : Heap) (n0 : Nat) (v : Option Value) (h : Heap) (L : List Loc) : Prop := (v = some (.int (1 : Int32)) ∧ Fr n0 L)
set_option maxRecDepth 65536 in
set_option maxHeartbeats 40000000 in
theorem rm0a (l : Launch) (Z : State) (a0 : Array Value) (hw : ∀ d ∈ tables_1, d.before a0 Z = true) (ws : List Jvm.Cond) (p0 : Int32) (p1 : Int32) (p2 : Int32) (p3 : Int32) (h0 : Heap) (n0 : Nat) (Z0 : n0 ≤ h0.size) (hc247 : (p1 &&& (1 : Int32)) = (0 : Int32)) :
    MetFree l x (head1 (Jvm.Cond.code x code maxLocals ret :: ws) room_1) (fun a U => a = #[(.int p0), (.int p1), (.int p2), (.int p3)] ∧ Z.Warmed39 U.vm ∧ U.heap = h0) (fun _ _ _ _ _ => True) (fun _ U o U' => ∃ v L, o = .returned v ∧ Q_rm0a Z p0 p1 p2 p3 h0 n0 v U'.heap L ∧ FrameEnd U o U' L room_1.cells room_1.slots) := by
  refine MetFree.of_bodySF (plainFor_of_name pn_0) hisR ?_
  intro p e s m args below meth c s₁ Bd hml0 hP hK
  obtain ⟨rfl, hZ, hh⟩ := hP
  have hx := Bd.exec
  have hby := Bd.bytes
  have hml : c.maxLocals = 6 := hml0
  have hown : s.vm.findClass "shapewright/NameCharactersIsPartPinLaw" = some m.cls := findClass_of_methodNamed Bd.named
  have hnm := (name_of_methodNamed Bd.named Bd.method).1
  have X0 : Stand p l e room_1 s m #[(.int p0), (.int p1), (.int p2), (.int p3)] below meth c s₁ [] 0 0 := Stand.of_body Bd
  have e0 : s₁.heap = h0 := by rw [← hh, Bd.state]; rfl
  have N0 := Fr.nil n0
  have pre0 : ∀ t, Steps p.tables e below (s₁.setTop (mkF m 0 #[.val (.int p0), .val (.int p1), .val (.int p2), .val (.int p3), .unset, .unset] [])) t → Steps p.tables e below (s₁.setTop (entryFrame m #[(.int p0), (.int p1), (.int p2), (.int p3)] maxLocals)) t := fun t k => castTop (ef_0 m p0 p1 p2 p3) k
  obtain ⟨T1, h1, k1, X1, e1, E1, A1, st1⟩ := newP X0 hx hZ (hw _ (List.mem_of_getElem? (i := 0) rfl)) e0 (g := (mkF m 2 #[.val (.int p0), .val (.int p1), .val (.int p2), .val (.int p3), .unset, .unset] [(.int (37 : Int32))])) rfl (hb hby at_2) rfl (by decide) (cap := 37) (by decide) (by decide) (by decide) (by decide)
  obtain ⟨b1, g1⟩ : ∃ z, z = Array.size h0 := ⟨_, rfl⟩
  rw [← g1] at A1 st1
  have G1 : n0 ≤ b1 := Nat.le_trans Z0 (Nat.le_of_eq g1.symm)
  have V1 : IntArr Z T1.heap b1 37 := own_arr_new (by rw [e1]; exact Arv.new A1 (by decide)) (by decide)
  obtain ⟨T2, L2, X2, N2, V2, st2⟩ := own_arr_st X1 hx hZ V1 G1 N0 (g := (mkF m 8 #[.val (.int p0), .val (.int p1), .val (.int p2), .val (.int p3), .unset, .unset] [(.int (45 : Int32)), (.int (0 : Int32)), (.ref b1), (.ref b1)])) (by decide) (by decide) rfl rfl (hb hby at_8)
  obtain ⟨T3, L3, X3, N3, V3, st3⟩ := own_arr_st X2 hx hZ V2 G1 N2 (g := (mkF m 13 #[.val (.int p0), .val (.int p1), .val (.int p2), .val (.int p3), .unset, .unset] [(.int (48 : Int32)), (.int (1 : Int32)), (.ref b1), (.ref b1)])) (by decide) (by decide) rfl rfl (hb hby at_13)
  obtain ⟨T4, L4, X4, N4, V4, st4⟩ := own_arr_st X3 hx hZ V3 G1 N3 (g := (mkF m 18 #[.val (.int p0), .val (.int p1), .val (.int p2), .val (.int p3), .unset, .unset] [(.int (57 : Int32)), (.int (2 : Int32)), (.ref b1), (.ref b1)])) (by decide) (by decide) rfl rfl (hb hby at_18)
  obtain ⟨T5, L5, X5, N5, V5, st5⟩ := own_arr_st X4 hx hZ V4 G1 N4 (g := (mkF m 23 #[.val (.int p0), .val (.int p1), .val (.int p2), .val (.int p3), .unset, .unset] [(.int (65 : Int32)), (.int (3 : Int32)), (.ref b1), (.ref b1)])) (by decide) (by decide) rfl rfl (hb hby at_23)
  obtain ⟨T6, L6, X6, N6, V6, st6⟩ := own_arr_st X5 hx hZ V5 G1 N5 (g := (mkF m 28 #[.val (.int p0), .val (.int p1), .val (.int p2), .val (.int p3), .unset, .unset] [(.int (90 : Int32)), (.int (4 : Int32)), (.ref b1), (.ref b1)])) (by decide) (by decide) rfl rfl (hb hby at_28)
  obtain ⟨T7, L7, X7, N7, V7, st7⟩ := own_arr_st X6 hx hZ V6 G1 N6 (g := (mkF m 33 #[.val (.int p0), .val (.int p1), .val (.int p2), .val (.int p3), .unset, .unset] [(.int (95 : Int32)), (.int (5 : Int32)), (.ref b1), (.ref b1)])) (by decide) (by decide) rfl rfl (hb hby at_33)
  obtain ⟨T8, L8, X8, N8, V8, st8⟩ := own_arr_st X7 hx hZ V7 G1 N7 (g := (mkF m 39 #[.val (.int p0), .val (.int p1), .val (.int p2), .val (.int p3), .unset, .unset] [(.int (97 : Int32)), (.int (6 : Int32)), (.ref b1), (.ref b1)])) (by decide) (by decide) rfl rfl (hb hby at_39)
  obtain ⟨T9, L9, X9, N9, V9, st9⟩ := own_arr_st X8 hx hZ V8 G1 N8 (g := (mkF m 45 #[.val (.int p0), .val (.int p1), .val (.int p2), .val (.int p3), .unset, .unset] [(.int (122 : Int32)), (.int (7 : Int32)), (.ref b1), (.ref b1)])) (by decide) (by decide) rfl rfl (hb hby at_45)
  obtain ⟨T10, L10, X10, N10, V10, st10⟩ := own_arr_st X9 hx hZ V9 G1 N9 (g := (mkF m 52 #[.val (.int p0), .val (.int p1), .val (.int p2), .val (.int p3), .unset, .unset] [(.int (183 : Int32)), (.int (8 : Int32)), (.ref b1), (.ref b1)])) (by decide) (by decide) rfl rfl (hb hby at_52)
  obtain ⟨T11, L11, X11, N11, V11, st11⟩ := own_arr_st X10 hx hZ V10 G1 N10 (g := (mkF m 59 #[.val (.int p0), .val (.int p1), .val (.int p2), .val (.int p3), .unset, .unset] [(.int (192 : Int32)), (.int (9 : Int32)), (.ref b1), (.ref b1)])) (by decide) (by decide) rfl rfl (hb hby at_59)
  obtain ⟨T12, L12, X12, N12, V12, st12⟩ := own_arr_st X11 hx hZ V11 G1 N11 (g := (mkF m 66 #[.val (.int p0), .val (.int p1), .val (.int p2), .val (.int p3), .unset, .unset] [(.int (214 : Int32)), (.int (10 : Int32)), (.ref b1), (.ref b1)])) (by decide) (by decide) rfl rfl (hb hby at_66)
  obtain ⟨T13, L13, X13, N13, V13, st13⟩ := own_arr_st X12 hx hZ V12 G1 N12 (g := (mkF m 73 #[.val (.int p0), .val (.int p1), .val (.int p2), .val (.int p3), .unset, .unset] [(.int (216 : Int32)), (.int (11 : Int32)), (.ref b1), (.ref b1)])) (by decide) (by decide) rfl rfl (hb hby at_73)
  obtain ⟨T14, L14, X14, N14, V14, st14⟩ := own_arr_st X13 hx hZ V13 G1 N13 (g := (mkF m 80 #[.val (.int p0), .val (.int p1), .val (.int p2), .val (.int p3), .unset, .unset] [(.int (246 : Int32)), (.int (12 : Int32)), (.ref b1), (.ref b1)])) (by decide) (by decide) rfl rfl (hb hby at_80)
  obtain ⟨T15, L15, X15, N15, V15, st15⟩ := own_arr_st X14 hx hZ V14 G1 N14 (g := (mkF m 87 #[.val (.int p0), .val (.int p1), .val (.int p2), .val (.int p3), .unset, .unset] [(.int (248 : Int32)), (.int (13 : Int32)), (.ref b1), (.ref b1)])) (by decide) (by decide) rfl rfl (hb hby at_87)
  obtain ⟨T16, L16, X16, N16, V16, st16⟩ := own_arr_st X15 hx hZ V15 G1 N15 (g := (mkF m 94 #[.val (.int p0), .val (.int p1), .val (.int p2), .val (.int p3), .unset, .unset] [(.int (767 : Int32)), (.int (14 : Int32)), (.ref b1), (.ref b1)])) (by decide) (by decide) rfl rfl (hb hby at_94)
  obtain ⟨T17, L17, X17, N17, V17, st17⟩ := own_arr_st X16 hx hZ V16 G1 N16 (g := (mkF m 101 #[.val (.int p0), .val (.int p1), .val (.int p2), .val (.int p3), .unset, .unset] [(.int (768 : Int32)), (.int (15 : Int32)), (.ref b1), (.ref b1)])) (by decide) (by decide) rfl rfl (hb hby at_101)
  obtain ⟨T18, L18, X18, N18, V18, st18⟩ := own_arr_st X17 hx hZ V17 G1 N17 (g := (mkF m 108 #[.val (.int p0), .val (.int p1), .val (.int p2), .val (.int p3), .unset, .unset] [(.int (879 : Int32)), (.int (16 : Int32)), (.ref b1), (.ref b1)])) (by decide) (by decide) rfl rfl (hb hby at_108)
  obtain ⟨T19, L19, X19, N19, V19, st19⟩ := own_arr_st X18 hx hZ V18 G1 N18 (g := (mkF m 115 #[.val (.int p0), .val (.int p1), .val (.int p2), .val (.int p3), .unset, .unset] [(.int (880 : Int32)), (.int (17 : Int32)), (.ref b1), (.ref b1)])) (by decide) (by decide) rfl rfl (hb hby at_115)
  obtain ⟨T20, L20, X20, N20, V20, st20⟩ := own_arr_st X19 hx hZ V19 G1 N19 (g := (mkF m 122 #[.val (.int p0), .val (.int p1), .val (.int p2), .val (.int p3), .unset, .unset] [(.int (893 : Int32)), (.int (18 : Int32)), (.ref b1), (.ref b1)])) (by decide) (by decide) rfl rfl (hb hby at_122)
  obtain ⟨T21, L21, X21, N21, V21, st21⟩ := own_arr_st X20 hx hZ V20 G1 N20 (g := (mkF m 129 #[.val (.int p0), .val (.int p1), .val (.int p2), .val (.int p3), .unset, .unset] [(.int (895 : Int32)), (.int (19 : Int32)), (.ref b1), (.ref b1)])) (by decide) (by decide) rfl rfl (hb hby at_129)
  obtain ⟨T22, L22, X22, N22, V22, st22⟩ := own_arr_st X21 hx hZ V21 G1 N21 (g := (mkF m 136 #[.val (.int p0), .val (.int p1), .val (.int p2), .val (.int p3), .unset, .unset] [(.int (8191 : Int32)), (.int (20 : Int32)), (.ref b1), (.ref b1)])) (by decide) (by decide) rfl rfl (hb hby at_136)
  obtain ⟨T23, L23, X23, N23, V23, st23⟩ := own_arr_st X22 hx hZ V22 G1 N22 (g := (mkF m 143 #[.val (.int p0), .val (.int p1), .val (.int p2), .val (.int p3), .unset, .unset] [(.int (8204 : Int32)), (.int (21 : Int32)), (.ref b1), (.ref b1)])) (by decide) (by decide) rfl rfl (hb hby at_143)
  obtain ⟨T24, L24, X24, N24, V24, st24⟩ := own_arr_st X23 hx hZ V23 G1 N23 (g := (mkF m 150 #[.val (.int p0), .val (.int p1), .val (.int p2), .val (.int p3), .unset, .unset] [(.int (8205 : Int32)), (.int (22 : Int32)), (.ref b1), (.ref b1)])) (by decide) (by decide) rfl rfl (hb hby at_150)
  obtain ⟨T25, L25, X25, N25, V25, st25⟩ := own_arr_st X24 hx hZ V24 G1 N24 (g := (mkF m 157 #[.val (.int p0), .val (.int p1), .val (.int p2), .val (.int p3), .unset, .unset] [(.int (8255 : Int32)), (.int (23 : Int32)), (.ref b1), (.ref b1)])) (by decide) (by decide) rfl rfl (hb hby at_157)
  obtain ⟨T26, L26, X26, N26, V26, st26⟩ := own_arr_st X25 hx hZ V25 G1 N25 (g := (mkF m 164 #[.val (.int p0), .val (.int p1), .val (.int p2), .val (.int p3), .unset, .unset] [(.int (8256 : Int32)), (.int (24 : Int32)), (.ref b1), (.ref b1)])) (by decide) (by decide) rfl rfl (hb hby at_164)
  obtain ⟨T27, L27, X27, N27, V27, st27⟩ := own_arr_st X26 hx hZ V26 G1 N26 (g := (mkF m 171 #[.val (.int p0), .val (.int p1), .val (.int p2), .val (.int p3), .unset, .unset] [(.int (8304 : Int32)), (.int (25 : Int32)), (.ref b1), (.ref b1)])) (by decide) (by decide) rfl rfl (hb hby at_171)
  obtain ⟨T28, L28, X28, N28, V28, st28⟩ := own_arr_st X27 hx hZ V27 G1 N27 (g := (mkF m 178 #[.val (.int p0), .val (.int p1), .val (.int p2), .val (.int p3), .unset, .unset] [(.int (8591 : Int32)), (.int (26 : Int32)), (.ref b1), (.ref b1)])) (by decide) (by decide) rfl rfl (hb hby at_178)
  obtain ⟨T29, L29, X29, N29, V29, st29⟩ := own_arr_st X28 hx hZ V28 G1 N28 (g := (mkF m 185 #[.val (.int p0), .val (.int p1), .val (.int p2), .val (.int p3), .unset, .unset] [(.int (11264 : Int32)), (.int (27 : Int32)), (.ref b1), (.ref b1)])) (by decide) (by decide) rfl rfl (hb hby at_185)
  obtain ⟨T30, L30, X30, N30, V30, st30⟩ := own_arr_st X29 hx hZ V29 G1 N29 (g := (mkF m 192 #[.val (.int p0), .val (.int p1), .val (.int p2), .val (.int p3), .unset, .unset] [(.int (12271 : Int32)), (.int (28 : Int32)), (.ref b1), (.ref b1)])) (by decide) (by decide) rfl rfl (hb hby at_192)
  obtain ⟨T31, L31, X31, N31, V31, st31⟩ := own_arr_st X30 hx hZ V30 G1 N30 (g := (mkF m 199 #[.val (.int p0), .val (.int p1), .val (.int p2), .val (.int p3), .unset, .unset] [(.int (12289 : Int32)), (.int (29 : Int32)), (.ref b1), (.ref b1)])) (by decide) (by decide) rfl rfl (hb hby at_199)
  obtain ⟨T32, L32, X32, N32, V32, st32⟩ := own_arr_st X31 hx hZ V31 G1 N31 (g := (mkF m 205 #[.val (.int p0), .val (.int p1), .val (.int p2), .val (.int p3), .unset, .unset] [(.int (55295 : Int32)), (.int (30 : Int32)), (.ref b1), (.ref b1)])) (by decide) (by decide) rfl rfl (hb hby at_205)
  obtain ⟨T33, L33, X33, N33, V33, st33⟩ := own_arr_st X32 hx hZ V32 G1 N32 (g := (mkF m 211 #[.val (.int p0), .val (.int p1), .val (.int p2), .val (.int p3), .unset, .unset] [(.int (63744 : Int32)), (.int (31 : Int32)), (.ref b1), (.ref b1)])) (by decide) (by decide) rfl rfl (hb hby at_211)
  obtain ⟨T34, L34, X34, N34, V34, st34⟩ := own_arr_st X33 hx hZ V33 G1 N33 (g := (mkF m 217 #[.val (.int p0), .val (.int p1), .val (.int p2), .val (.int p3), .unset, .unset] [(.int (64975 : Int32)), (.int (32 : Int32)), (.ref b1), (.ref b1)])) (by decide) (by decide) rfl rfl (hb hby at_217)
  obtain ⟨T35, L35, X35, N35, V35, st35⟩ := own_arr_st X34 hx hZ V34 G1 N34 (g := (mkF m 223 #[.val (.int p0), .val (.int p1), .val (.int p2), .val (.int p3), .unset, .unset] [(.int (65008 : Int32)), (.int (33 : Int32)), (.ref b1), (.ref b1)])) (by decide) (by decide) rfl rfl (hb hby at_223)
  obtain ⟨T36, L36, X36, N36, V36, st36⟩ := own_arr_st X35 hx hZ V35 G1 N35 (g := (mkF m 229 #[.val (.int p0), .val (.int p1), .val (.int p2), .val (.int p3), .unset, .unset] [(.int (65533 : Int32)), (.int (34 : Int32)), (.ref b1), (.ref b1)])) (by decide) (by decide) rfl rfl (hb hby at_229)
  obtain ⟨T37, L37, X37, N37, V37, st37⟩ := own_arr_st X36 hx hZ V36 G1 N36 (g := (mkF m 235 #[.val (.int p0), .val (.int p1), .val (.int p2), .val (.int p3), .unset, .unset] [(.int (65536 : Int32)), (.int (35 : Int32)), (.ref b1), (.ref b1)])) (by decide) (by decide) rfl rfl (hb hby at_235)
  obtain ⟨T38, L38, X38, N38, V38, st38⟩ := own_arr_st X37 hx hZ V37 G1 N37 (g := (mkF m 241 #[.val (.int p0), .val (.int p1), .val (.int p2), .val (.int p3), .unset, .unset] [(.int (983039 : Int32)), (.int (36 : Int32)), (.ref b1), (.ref b1)])) (by decide) (by decide) rfl rfl (hb hby at_241)
  obtain ⟨_, _, ⟨T39, L39, k39, n39⟩, -, X39, ⟨Lc39, hQ39, l39, y39, z39⟩, st39⟩ := Jvm.LawKit.callS X38 hx (y := (⟨"shapewright/NameCharacters", "isPart", "(I)Z"⟩ : MethodName)) hown (mvT hZ (hw _ (List.mem_of_getElem? (i := 9) rfl))) (mvT hZ (hw _ (List.mem_of_getElem? (i := 10) rfl))) (mvT hZ (hw _ (List.mem_of_getElem? (i := 11) rfl))) (mvT hZ (hw _ (List.mem_of_getElem? (i := 12) rfl))) (by decide) (backOf (W := 0) (rm1 l Z a0 hw [] p0 T38.heap n0 (own_arr_sz G1 V38)) hZ (hw _ (List.mem_of_getElem? (i := 12) rfl)) (hw _ (List.mem_of_getElem? (i := 11) rfl)) (by decide) (by decide)) (g := (mkF m 279 #[.val (.int p0), .val (.int p1), .val (.int p2), .val (.int p3), .val (.ref b1), .val (.int p0)] [(.int p0)])) rfl (by rw [hml]; rfl) (argsL := [(.int p0)]) (rest := []) (lenOf pd0 rfl) rfl (by show 2 * 0 + _ ≤ _; exact Nat.le_of_eq rfl) (hb hby at_279) (fun _ _ => ⟨rfl, rfl, (by decide : 1 + 0 ≤ _), (by decide : 37 + 0 ≤ _)⟩)
  dsimp only [Pt.U, Pt.locs, Pt.cells, Pt.slots] at X39 l39 y39 z39 st39 hQ39
  subst l39 y39 z39
  obtain ⟨rfl, N39q, e39⟩ := hQ39
  have N39 := Fr.app N38 N39q
  obtain ⟨_, _, ⟨T40, L40, k40, n40⟩, -, X40, ⟨Lc40, hQ40, l40, y40, z40⟩, st40⟩ := Jvm.LawKit.callS X39 hx (y := (⟨"shapewright/NameCharactersIsPartPinLaw", "ref", "(I)Z"⟩ : MethodName)) hown (mvT hZ (hw _ (List.mem_of_getElem? (i := 19) rfl))) (mvT hZ (hw _ (List.mem_of_getElem? (i := 20) rfl))) (mvT hZ (hw _ (List.mem_of_getElem? (i := 21) rfl))) (mvT hZ (hw _ (List.mem_of_getElem? (i := 22) rfl))) (by decide) (backOf (W := 1) (rm3 l Z a0 hw [] p0 T38.heap n0 (own_arr_sz G1 V38)) hZ (hw _ (List.mem_of_getElem? (i := 22) rfl)) (hw _ (List.mem_of_getElem? (i := 21) rfl)) (by decide) (by decide)) (g := (mkF m 284 #[.val (.int p0), .val (.int p1), .val (.int p2), .val (.int p3), .val (.ref b1), .val (.int p0)] [(.int p0), (.int (F1_0 p0))])) rfl (by rw [hml]; rfl) (argsL := [(.int p0)]) (rest := [(.int (F1_0 p0))]) (lenOf pd0 rfl) rfl (by show 2 * 0 + _ ≤ _; exact Nat.le_of_eq rfl) (hb hby at_284) (fun _ _ => ⟨rfl, e39, (by decide : 1 + 0 ≤ _), (by decide : 37 + 0 ≤ _)⟩)
  dsimp only [Pt.U, Pt.locs, Pt.cells, Pt.slots] at X40 l40 y40 z40 st40 hQ40
  subst l40 y40 z40
  obtain ⟨rfl, N40q, e40⟩ := hQ40
  have N40 := Fr.app N39 N40q
  obtain ⟨fs, hr, hrun, hended, hW, hsame⟩ := X40.leave (v := some (.int (1 : Int32))) (fun h => by rw [Bd.returns] at h; cases h)
  refine ⟨_, _, pre0 _ ?_, hrun, hended, _, _, rfl, ⟨rfl, N40⟩, ⟨_, rfl⟩, hW, hsame.mono (by decide) (by decide)⟩
  show Steps p.tables e below (s₁.setTop (mkF m 0 #[.val (.int p0), .val (.int p1), .val (.int p2), .val (.int p3), .unset, .unset] [])) _
  refine XS.bipush X0.here hx rfl (hb hby at_0) ?_
  show Steps p.tables e below (s₁.setTop (mkF m 2 #[.val (.int p0), .val (.int p1), .val (.int p2), .val (.int p3), .unset, .unset] [(.int (37 : Int32))])) _
  refine st1 _ ?_
  show Steps p.tables e below (T1.setTop (mkF m 4 #[.val (.int p0), .val (.int p1), .val (.int p2), .val (.int p3), .unset, .unset] [(.ref b1)])) _
  refine XS.dup X1.here hx rfl (hb hby at_4) rfl rfl ?_
  show Steps p.tables e below (T1.setTop (mkF m 5 #[.val (.int p0), .val (.int p1), .val (.int p2), .val (.int p3), .unset, .unset] [(.ref b1), (.ref b1)])) _
  refine XS.iconst X1.here hx rfl (hb hby at_5) ?_
  show Steps p.tables e below (T1.setTop (mkF m 6 #[.val (.int p0), .val (.int p1), .val (.int p2), .val (.int p3), .unset, .unset] [(.int (0 : Int32)), (.ref b1), (.ref b1)])) _
  refine XS.bipush X1.here hx rfl (hb hby at_6) ?_
  show Steps p.tables e below (T1.setTop (mkF m 8 #[.val (.int p0), .val (.int p1), .val (.int p2), .val (.int p3), .unset, .unset] [(.int (45 : Int32)), (.int (0 : Int32)), (.ref b1), (.ref b1)])) _
  refine st2 _ ?_
  show Steps p.tables e below (T2.setTop (mkF m 9 #[.val (.int p0), .val (.int p1), .val (.int p2), .val (.int p3), .unset, .unset] [(.ref b1)])) _
  refine XS.dup X2.here hx rfl (hb hby at_9) rfl rfl ?_
  show Steps p.tables e below (T2.setTop (mkF m 10 #[.val (.int p0), .val (.int p1), .val (.int p2), .val (.int p3), .unset, .unset] [(.ref b1), (.ref b1)])) _
  refine XS.iconst X2.here hx rfl (hb hby at_10) ?_
  show Steps p.tables e below (T2.setTop (mkF m 11 #[.val (.int p0), .val (.int p1), .val (.int p2), .val (.int p3), .unset, .unset] [(.int (1 : Int32)), (.ref b1), (.ref b1)])) _
  refine XS.bipush X2.here hx rfl (hb hby at_11) ?_
  show Steps p.tables e below (T2.setTop (mkF m 13 #[.val (.int p0), .val (.int p1), .val (.int p2), .val (.int p3), .unset, .unset] [(.int (48 : Int32)), (.int (1 : Int32)), (.ref b1), (.ref b1)])) _
  refine st3 _ ?_
  show Steps p.tables e below (T3.setTop (mkF m 14 #[.val (.int p0), .val (.int p1), .val (.int p2), .val (.int p3), .unset, .unset] [(.ref b1)])) _
  refine XS.dup X3.here hx rfl (hb hby at_14) rfl rfl ?_
  show Steps p.tables e below (T3.setTop (mkF m 15 #[.val (.int p0), .val (.int p1), .val (.int p2), .val (.int p3), .unset, .unset] [(.ref b1), (.ref b1)])) _
  refine XS.iconst X3.here hx rfl (hb hby at_15) ?_
  show Steps p.tables e below (T3.setTop (mkF m 16 #[.val (.int p0), .val (.int p1), .val (.int p2), .val (.int p3), .unset, .unset] [(.int (2 : Int32)), (.ref b1), (.ref b1)])) _
  refine XS.bipush X3.here hx rfl (hb hby at_16) ?_
  show Steps p.tables e below (T3.setTop (mkF m 18 #[.val (.int p0), .val (.int p1), .val (.int p2), .val (.int p3), .unset, .unset] [(.int (57 : Int32)), (.int (2 : Int32)), (.ref b1), (.ref b1)])) _
  refine st4 _ ?_
  show Steps p.tables e below (T4.setTop (mkF m 19 #[.val (.int p0), .val (.int p1), .val (.int p2), .val (.int p3), .unset, .unset] [(.ref b1)])) _
  refine XS.dup X4.here hx rfl (hb hby at_19) rfl rfl ?_
  show Steps p.tables e below (T4.setTop (mkF m 20 #[.val (.int p0), .val (.int p1), .val (.int p2), .val (.int p3), .unset, .unset] [(.ref b1), (.ref b1)])) _
  refine XS.iconst X4.here hx rfl (hb hby at_20) ?_
  show Steps p.tables e below (T4.setTop (mkF m 21 #[.val (.int p0), .val (.int p1), .val (.int p2), .val (.int p3), .unset, .unset] [(.int (3 : Int32)), (.ref b1), (.ref b1)])) _
  refine XS.bipush X4.here hx rfl (hb hby at_21) ?_
  show Steps p.tables e below (T4.setTop (mkF m 23 #[.val (.int p0), .val (.int p1), .val (.int p2), .val (.int p3), .unset, .unset] [(.int (65 : Int32)), (.int (3 : Int32)), (.ref b1), (.ref b1)])) _
  refine st5 _ ?_
  show Steps p.tables e below (T5.setTop (mkF m 24 #[.val (.int p0), .val (.int p1), .val (.int p2), .val (.int p3), .unset, .unset] [(.ref b1)])) _
  refine XS.dup X5.here hx rfl (hb hby at_24) rfl rfl ?_
  show Steps p.tables e below (T5.setTop (mkF m 25 #[.val (.int p0), .val (.int p1), .val (.int p2), .val (.int p3), .unset, .unset] [(.ref b1), (.ref b1)])) _
  refine XS.iconst X5.here hx rfl (hb hby at_25) ?_
  show Steps p.tables e below (T5.setTop (mkF m 26 #[.val (.int p0), .val (.int p1), .val (.int p2), .val (.int p3), .unset, .unset] [(.int (4 : Int32)), (.ref b1), (.ref b1)])) _
  refine XS.bipush X5.here hx rfl (hb hby at_26) ?_
  show Steps p.tables e below (T5.setTop (mkF m 28 #[.val (.int p0), .val (.int p1), .val (.int p2), .val (.int p3), .unset, .unset] [(.int (90 : Int32)), (.int (4 : Int32)), (.ref b1), (.ref b1)])) _
  refine st6 _ ?_
  show Steps p.tables e below (T6.setTop (mkF m 29 #[.val (.int p0), .val (.int p1), .val (.int p2), .val (.int p3), .unset, .unset] [(.ref b1)])) _
  refine XS.dup X6.here hx rfl (hb hby at_29) rfl rfl ?_
  show Steps p.tables e below (T6.setTop (mkF m 30 #[.val (.int p0), .val (.int p1), .val (.int p2), .val (.int p3), .unset, .unset] [(.ref b1), (.ref b1)])) _
  refine XS.iconst X6.here hx rfl (hb hby at_30) ?_
  show Steps p.tables e below (T6.setTop (mkF m 31 #[.val (.int p0), .val (.int p1), .val (.int p2), .val (.int p3), .unset, .unset] [(.int (5 : Int32)), (.ref b1), (.ref b1)])) _
  refine XS.bipush X6.here hx rfl (hb hby at_31) ?_
  show Steps p.tables e below (T6.setTop (mkF m 33 #[.val (.int p0), .val (.int p1), .val (.int p2), .val (.int p3), .unset, .unset] [(.int (95 : Int32)), (.int (5 : Int32)), (.ref b1), (.ref b1)])) _
  refine st7 _ ?_
  show Steps p.tables e below (T7.setTop (mkF m 34 #[.val (.int p0), .val (.int p1), .val (.int p2), .val (.int p3), .unset, .unset] [(.ref b1)])) _
  refine XS.dup X7.here hx rfl (hb hby at_34) rfl rfl ?_
  show Steps p.tables e below (T7.setTop (mkF m 35 #[.val (.int p0), .val (.int p1), .val (.int p2), .val (.int p3), .unset, .unset] [(.ref b1), (.ref b1)])) _
  refine XS.bipush X7.here hx rfl (hb hby at_35) ?_
  show Steps p.tables e below (T7.setTop (mkF m 37 #[.val (.int p0), .val (.int p1), .val (.int p2), .val (.int p3), .unset, .unset] [(.int (6 : Int32)), (.ref b1), (.ref b1)])) _
  refine XS.bipush X7.here hx rfl (hb hby at_37) ?_
  show Steps p.tables e below (T7.setTop (mkF m 39 #[.val (.int p0), .val (.int p1), .val (.int p2), .val (.int p3), .unset, .unset] [(.int (97 : Int32)), (.int (6 : Int32)), (.ref b1), (.ref b1)])) _
  refine st8 _ ?_
  show Steps p.tables e below (T8.setTop (mkF m 40 #[.val (.int p0), .val (.int p1), .val (.int p2), .val (.int p3), .unset, .unset] [(.ref b1)])) _
  refine XS.dup X8.here hx rfl (hb hby at_40) rfl rfl ?_
  show Steps p.tables e below (T8.setTop (mkF m 41 #[.val (.int p0), .val (.int p1), .val (.int p2), .val (.int p3), .unset, .unset] [(.ref b1), (.ref b1)])) _
  refine XS.bipush X8.here hx rfl (hb hby at_41) ?_
  show Steps p.tables e below (T8.setTop (mkF m 43 #[.val (.int p0), .val (.int p1), .val (.int p2), .val (.int p3), .unset, .unset] [(.int (7 : Int32)), (.ref b1), (.ref b1)])) _
  refine XS.bipush X8.here hx rfl (hb hby at_43) ?_
  show Steps p.tables e below (T8.setTop (mkF m 45 #[.val (.int p0), .val (.int p1), .val (.int p2), .val (.int p3), .unset, .unset] [(.int (122 : Int32)), (.int (7 : Int32)), (.ref b1), (.ref b1)])) _
  refine st9 _ ?_
  show Steps p.tables e below (T9.setTop (mkF m 46 #[.val (.int p0), .val (.int p1), .val (.int p2), .val (.int p3), .unset, .unset] [(.ref b1)])) _
  refine XS.dup X9.here hx rfl (hb hby at_46) rfl rfl ?_
  show Steps p.tables e below (T9.setTop (mkF m 47 #[.val (.int p0), .val (.int p1), .val (.int p2), .val (.int p3), .unset, .unset] [(.ref b1), (.ref b1)])) _
  refine XS.bipush X9.here hx rfl (hb hby at_47) ?_
  show Steps p.tables e below (T9.setTop (mkF m 49 #[.val (.int p0), .val (.int p1), .val (.int p2), .val (.int p3), .unset, .unset] [(.int (8 : Int32)), (.ref b1), (.ref b1)])) _
  refine XS.sipush X9.here hx rfl (hb hby at_49) ?_
  show Steps p.tables e below (T9.setTop (mkF m 52 #[.val (.int p0), .val (.int p1), .val (.int p2), .val (.int p3), .unset, .unset] [(.int (183 : Int32)), (.int (8 : Int32)), (.ref b1), (.ref b1)])) _
  refine st10 _ ?_
  show Steps p.tables e below (T10.setTop (mkF m 53 #[.val (.int p0), .val (.int p1), .val (.int p2), .val (.int p3), .unset, .unset] [(.ref b1)])) _
  refine XS.dup X10.here hx rfl (hb hby at_53) rfl rfl ?_
  show Steps p.tables e below (T10.setTop (mkF m 54 #[.val (.int p0), .val (.int p1), .val (.int p2), .val (.int p3), .unset, .unset] [(.ref b1), (.ref b1)])) _
  refine XS.bipush X10.here hx rfl (hb hby at_54) ?_
  show Steps p.tables e below (T10.setTop (mkF m 56 #[.val (.int p0), .val (.int p1), .val (.int p2), .val (.int p3), .unset, .unset] [(.int (9 : Int32)), (.ref b1), (.ref b1)])) _
  refine XS.sipush X10.here hx rfl (hb hby at_56) ?_
  show Steps p.tables e below (T10.setTop (mkF m 59 #[.val (.int p0), .val (.int p1), .val (.int p2), .val (.int p3), .unset, .unset] [(.int (192 : Int32)), (.int (9 : Int32)), (.ref b1), (.ref b1)])) _
  refine st11 _ ?_
  show Steps p.tables e below (T11.setTop (mkF m 60 #[.val (.int p0), .val (.int p1), .val (.int p2), .val (.int p3), .unset, .unset] [(.ref b1)])) _
  refine XS.dup X11.here hx rfl (hb hby at_60) rfl rfl ?_
  show Steps p.tables e below (T11.setTop (mkF m 61 #[.val (.int p0), .val (.int p1), .val (.int p2), .val (.int p3), .unset, .unset] [(.ref b1), (.ref b1)])) _
  refine XS.bipush X11.here hx rfl (hb hby at_61) ?_
  show Steps p.tables e below (T11.setTop (mkF m 63 #[.val (.int p0), .val (.int p1), .val (.int p2), .val (.int p3), .unset, .unset] [(.int (10 : Int32)), (.ref b1), (.ref b1)])) _
  refine XS.sipush X11.here hx rfl (hb hby at_63) ?_
  show Steps p.tables e below (T11.setTop (mkF m 66 #[.val (.int p0), .val (.int p1), .val (.int p2), .val (.int p3), .unset, .unset] [(.int (214 : Int32)), (.int (10 : Int32)), (.ref b1), (.ref b1)])) _
  refine st12 _ ?_
  show Steps p.tables e below (T12.setTop (mkF m 67 #[.val (.int p0), .val (.int p1), .val (.int p2), .val (.int p3), .unset, .unset] [(.ref b1)])) _
  refine XS.dup X12.here hx rfl (hb hby at_67) rfl rfl ?_
  show Steps p.tables e below (T12.setTop (mkF m 68 #[.val (.int p0), .val (.int p1), .val (.int p2), .val (.int p3), .unset, .unset] [(.ref b1), (.ref b1)])) _
  refine XS.bipush X12.here hx rfl (hb hby at_68) ?_
  show Steps p.tables e below (T12.setTop (mkF m 70 #[.val (.int p0), .val (.int p1), .val (.int p2), .val (.int p3), .unset, .unset] [(.int (11 : Int32)), (.ref b1), (.ref b1)])) _
  refine XS.sipush X12.here hx rfl (hb hby at_70) ?_
  show Steps p.tables e below (T12.setTop (mkF m 73 #[.val (.int p0), .val (.int p1), .val (.int p2), .val (.int p3), .unset, .unset] [(.int (216 : Int32)), (.int (11 : Int32)), (.ref b1), (.ref b1)])) _
  refine st13 _ ?_
  show Steps p.tables e below (T13.setTop (mkF m 74 #[.val (.int p0), .val (.int p1), .val (.int p2), .val (.int p3), .unset, .unset] [(.ref b1)])) _
  refine XS.dup X13.here hx rfl (hb hby at_74) rfl rfl ?_
  show Steps p.tables e below (T13.setTop (mkF m 75 #[.val (.int p0), .val (.int p1), .val (.int p2), .val (.int p3), .unset, .unset] [(.ref b1), (.ref b1)])) _
  refine XS.bipush X13.here hx rfl (hb hby at_75) ?_
  show Steps p.tables e below (T13.setTop (mkF m 77 #[.val (.int p0), .val (.int p1), .val (.int p2), .val (.int p3), .unset, .unset] [(.int (12 : Int32)), (.ref b1), (.ref b1)])) _
  refine XS.sipush X13.here hx rfl (hb hby at_77) ?_
  show Steps p.tables e below (T13.setTop (mkF m 80 #[.val (.int p0), .val (.int p1), .val (.int p2), .val (.int p3), .unset, .unset] [(.int (246 : Int32)), (.int (12 : Int32)), (.ref b1), (.ref b1)])) _
  refine st14 _ ?_
  show Steps p.tables e below (T14.setTop (mkF m 81 #[.val (.int p0), .val (.int p1), .val (.int p2), .val (.int p3), .unset, .unset] [(.ref b1)])) _
  refine XS.dup X14.here hx rfl (hb hby at_81) rfl rfl ?_
  show Steps p.tables e below (T14.setTop (mkF m 82 #[.val (.int p0), .val (.int p1), .val (.int p2), .val (.int p3), .unset, .unset] [(.ref b1), (.ref b1)])) _
  refine XS.bipush X14.here hx rfl (hb hby at_82) ?_
  show Steps p.tables e below (T14.setTop (mkF m 84 #[.val (.int p0), .val (.int p1), .val (.int p2), .val (.int p3), .unset, .unset] [(.int (13 : Int32)), (.ref b1), (.ref b1)])) _
  refine XS.sipush X14.here hx rfl (hb hby at_84) ?_
  show Steps p.tables e below (T14.setTop (mkF m 87 #[.val (.int p0), .val (.int p1), .val (.int p2), .val (.int p3), .unset, .unset] [(.int (248 : Int32)), (.int (13 : Int32)), (.ref b1), (.ref b1)])) _
  refine st15 _ ?_
  show Steps p.tables e below (T15.setTop (mkF m 88 #[.val (.int p0), .val (.int p1), .val (.int p2), .val (.int p3), .unset, .unset] [(.ref b1)])) _
  refine XS.dup X15.here hx rfl (hb hby at_88) rfl rfl ?_
  show Steps p.tables e below (T15.setTop (mkF m 89 #[.val (.int p0), .val (.int p1), .val (.int p2), .val (.int p3), .unset, .unset] [(.ref b1), (.ref b1)])) _
  refine XS.bipush X15.here hx rfl (hb hby at_89) ?_
  show Steps p.tables e below (T15.setTop (mkF m 91 #[.val (.int p0), .val (.int p1), .val (.int p2), .val (.int p3), .unset, .unset] [(.int (14 : Int32)), (.ref b1), (.ref b1)])) _
  refine XS.sipush X15.here hx rfl (hb hby at_91) ?_
  show Steps p.tables e below (T15.setTop (mkF m 94 #[.val (.int p0), .val (.int p1), .val (.int p2), .val (.int p3), .unset, .unset] [(.int (767 : Int32)), (.int (14 : Int32)), (.ref b1), (.ref b1)])) _
  refine st16 _ ?_
  show Steps p.tables e below (T16.setTop (mkF m 95 #[.val (.int p0), .val (.int p1), .val (.int p2), .val (.int p3), .unset, .unset] [(.ref b1)])) _
  refine XS.dup X16.here hx rfl (hb hby at_95) rfl rfl ?_
  show Steps p.tables e below (T16.setTop (mkF m 96 #[.val (.int p0), .val (.int p1), .val (.int p2), .val (.int p3), .unset, .unset] [(.ref b1), (.ref b1)])) _
  refine XS.bipush X16.here hx rfl (hb hby at_96) ?_
  show Steps p.tables e below (T16.setTop (mkF m 98 #[.val (.int p0), .val (.int p1), .val (.int p2), .val (.int p3), .unset, .unset] [(.int (15 : Int32)), (.ref b1), (.ref b1)])) _
  refine XS.sipush X16.here hx rfl (hb hby at_98) ?_
  show Steps p.tables e below (T16.setTop (mkF m 101 #[.val (.int p0), .val (.int p1), .val (.int p2), .val (.int p3), .unset, .unset] [(.int (768 : Int32)), (.int (15 : Int32)), (.ref b1), (.ref b1)])) _
  refine st17 _ ?_
  show Steps p.tables e below (T17.setTop (mkF m 102 #[.val (.int p0), .val (.int p1), .val (.int p2), .val (.int p3), .unset, .unset] [(.ref b1)])) _
  refine XS.dup X17.here hx rfl (hb hby at_102) rfl rfl ?_
  show Steps p.tables e below (T17.setTop (mkF m 103 #[.val (.int p0), .val (.int p1), .val (.int p2), .val (.int p3), .unset, .unset] [(.ref b1), (.ref b1)])) _
  refine XS.bipush X17.here hx rfl (hb hby at_103) ?_
  show Steps p.tables e below (T17.setTop (mkF m 105 #[.val (.int p0), .val (.int p1), .val (.int p2), .val (.int p3), .unset, .unset] [(.int (16 : Int32)), (.ref b1), (.ref b1)])) _
  refine XS.sipush X17.here hx rfl (hb hby at_105) ?_
  show Steps p.tables e below (T17.setTop (mkF m 108 #[.val (.int p0), .val (.int p1), .val (.int p2), .val (.int p3), .unset, .unset] [(.int (879 : Int32)), (.int (16 : Int32)), (.ref b1), (.ref b1)])) _
  refine st18 _ ?_
  show Steps p.tables e below (T18.setTop (mkF m 109 #[.val (.int p0), .val (.int p1), .val (.int p2), .val (.int p3), .unset, .unset] [(.ref b1)])) _
  refine XS.dup X18.here hx rfl (hb hby at_109) rfl rfl ?_
  show Steps p.tables e below (T18.setTop (mkF m 110 #[.val (.int p0), .val (.int p1), .val (.int p2), .val (.int p3), .unset, .unset] [(.ref b1), (.ref b1)])) _
  refine XS.bipush X18.here hx rfl (hb hby at_110) ?_
  show Steps p.tables e below (T18.setTop (mkF m 112 #[.val (.int p0), .val (.int p1), .val (.int p2), .val (.int p3), .unset, .unset] [(.int (17 : Int32)), (.ref b1), (.ref b1)])) _
  refine XS.sipush X18.here hx rfl (hb hby at_112) ?_
  show Steps p.tables e below (T18.setTop (mkF m 115 #[.val (.int p0), .val (.int p1), .val (.int p2), .val (.int p3), .unset, .unset] [(.int (880 : Int32)), (.int (17 : Int32)), (.ref b1), (.ref b1)])) _
  refine st19 _ ?_
  show Steps p.tables e below (T19.setTop (mkF m 116 #[.val (.int p0), .val (.int p1), .val (.int p2), .val (.int p3), .unset, .unset] [(.ref b1)])) _
  refine XS.dup X19.here hx rfl (hb hby at_116) rfl rfl ?_
  show Steps p.tables e below (T19.setTop (mkF m 117 #[.val (.int p0), .val (.int p1), .val (.int p2), .val (.int p3), .unset, .unset] [(.ref b1), (.ref b1)])) _
  refine XS.bipush X19.here hx rfl (hb hby at_117) ?_
  show Steps p.tables e below (T19.setTop (mkF m 119 #[.val (.int p0), .val (.int p1), .val (.int p2), .val (.int p3), .unset, .unset] [(.int (18 : Int32)), (.ref b1), (.ref b1)])) _
  refine XS.sipush X19.here hx rfl (hb hby at_119) ?_
  show Steps p.tables e below (T19.setTop (mkF m 122 #[.val (.int p0), .val (.int p1), .val (.int p2), .val (.int p3), .unset, .unset] [(.int (893 : Int32)), (.int (18 : Int32)), (.ref b1), (.ref b1)])) _
  refine st20 _ ?_
  show Steps p.tables e below (T20.setTop (mkF m 123 #[.val (.int p0), .val (.int p1), .val (.int p2), .val (.int p3), .unset, .unset] [(.ref b1)])) _
  refine XS.dup X20.here hx rfl (hb hby at_123) rfl rfl ?_
  show Steps p.tables e below (T20.setTop (mkF m 124 #[.val (.int p0), .val (.int p1), .val (.int p2), .val (.int p3), .unset, .unset] [(.ref b1), (.ref b1)])) _
  refine XS.bipush X20.here hx rfl (hb hby at_124) ?_
  show Steps p.tables e below (T20.setTop (mkF m 126 #[.val (.int p0), .val (.int p1), .val (.int p2), .val (.int p3), .unset, .unset] [(.int (19 : Int32)), (.ref b1), (.ref b1)])) _
  refine XS.sipush X20.here hx rfl (hb hby at_126) ?_
  show Steps p.tables e below (T20.setTop (mkF m 129 #[.val (.int p0), .val (.int p1), .val (.int p2), .val (.int p3), .unset, .unset] [(.int (895 : Int32)), (.int (19 : Int32)), (.ref b1), (.ref b1)])) _
  refine st21 _ ?_
  show Steps p.tables e below (T21.setTop (mkF m 130 #[.val (.int p0), .val (.int p1), .val (.int p2), .val (.int p3), .unset, .unset] [(.ref b1)])) _
  refine XS.dup X21.here hx rfl (hb hby at_130) rfl rfl ?_
  show Steps p.tables e below (T21.setTop (mkF m 131 #[.val (.int p0), .val (.int p1), .val (.int p2), .val (.int p3), .unset, .unset] [(.ref b1), (.ref b1)])) _
  refine XS.bipush X21.here hx rfl (hb hby at_131) ?_
  show Steps p.tables e below (T21.setTop (mkF m 133 #[.val (.int p0), .val (.int p1), .val (.int p2), .val (.int p3), .unset, .unset] [(.int (20 : Int32)), (.ref b1), (.ref b1)])) _
  refine XS.sipush X21.here hx rfl (hb hby at_133) ?_
  show Steps p.tables e below (T21.setTop (mkF m 136 #[.val (.int p0), .val (.int p1), .val (.int p2), .val (.int p3), .unset, .unset] [(.int (8191 : Int32)), (.int (20 : Int32)), (.ref b1), (.ref b1)])) _
  refine st22 _ ?_
  show Steps p.tables e below (T22.setTop (mkF m 137 #[.val (.int p0), .val (.int p1), .val (.int p2), .val (.int p3), .unset, .unset] [(.ref b1)])) _
  refine XS.dup X22.here hx rfl (hb hby at_137) rfl rfl ?_
  show Steps p.tables e below (T22.setTop (mkF m 138 #[.val (.int p0), .val (.int p1), .val (.int p2), .val (.int p3), .unset, .unset] [(.ref b1), (.ref b1)])) _
  refine XS.bipush X22.here hx rfl (hb hby at_138) ?_
  show Steps p.tables e below (T22.setTop (mkF m 140 #[.val (.int p0), .val (.int p1), .val (.int p2), .val (.int p3), .unset, .unset] [(.int (21 : Int32)), (.ref b1), (.ref b1)])) _
  refine XS.sipush X22.here hx rfl (hb hby at_140) ?_
  show Steps p.tables e below (T22.setTop (mkF m 143 #[.val (.int p0), .val (.int p1), .val (.int p2), .val (.int p3), .unset, .unset] [(.int (8204 : Int32)), (.int (21 : Int32)), (.ref b1), (.ref b1)])) _
  refine st23 _ ?_
  show Steps p.tables e below (T23.setTop (mkF m 144 #[.val (.int p0), .val (.int p1), .val (.int p2), .val (.int p3), .unset, .unset] [(.ref b1)])) _
  refine XS.dup X23.here hx rfl (hb hby at_144) rfl rfl ?_
  show Steps p.tables e below (T23.setTop (mkF m 145 #[.val (.int p0), .val (.int p1), .val (.int p2), .val (.int p3), .unset, .unset] [(.ref b1), (.ref b1)])) _
  refine XS.bipush X23.here hx rfl (hb hby at_145) ?_
  show Steps p.tables e below (T23.setTop (mkF m 147 #[.val (.int p0), .val (.int p1), .val (.int p2), .val (.int p3), .unset, .unset] [(.int (22 : Int32)), (.ref b1), (.ref b1)])) _
  refine XS.sipush X23.here hx rfl (hb hby at_147) ?_
  show Steps p.tables e below (T23.setTop (mkF m 150 #[.val (.int p0), .val (.int p1), .val (.int p2), .val (.int p3), .unset, .unset] [(.int (8205 : Int32)), (.int (22 : Int32)), (.ref b1), (.ref b1)])) _
  refine st24 _ ?_
  show Steps p.tables e below (T24.setTop (mkF m 151 #[.val (.int p0), .val (.int p1), .val (.int p2), .val (.int p3), .unset, .unset] [(.ref b1)])) _
  refine XS.dup X24.here hx rfl (hb hby at_151) rfl rfl ?_
  show Steps p.tables e below (T24.setTop (mkF m 152 #[.val (.int p0), .val (.int p1), .val (.int p2), .val (.int p3), .unset, .unset] [(.ref b1), (.ref b1)])) _
  refine XS.bipush X24.here hx rfl (hb hby at_152) ?_
  show Steps p.tables e below (T24.setTop (mkF m 154 #[.val (.int p0), .val (.int p1), .val (.int p2), .val (.int p3), .unset, .unset] [(.int (23 : Int32)), (.ref b1), (.ref b1)])) _
  refine XS.sipush X24.here hx rfl (hb hby at_154) ?_
  show Steps p.tables e below (T24.setTop (mkF m 157 #[.val (.int p0), .val (.int p1), .val (.int p2), .val (.int p3), .unset, .unset] [(.int (8255 : Int32)), (.int (23 : Int32)), (.ref b1), (.ref b1)])) _
  refine st25 _ ?_
  show Steps p.tables e below (T25.setTop (mkF m 158 #[.val (.int p0), .val (.int p1), .val (.int p2), .val (.int p3), .unset, .unset] [(.ref b1)])) _
  refine XS.dup X25.here hx rfl (hb hby at_158) rfl rfl ?_
  show Steps p.tables e below (T25.setTop (mkF m 159 #[.val (.int p0), .val (.int p1), .val (.int p2), .val (.int p3), .unset, .unset] [(.ref b1), (.ref b1)])) _
  refine XS.bipush X25.here hx rfl (hb hby at_159) ?_
  show Steps p.tables e below (T25.setTop (mkF m 161 #[.val (.int p0), .val (.int p1), .val (.int p2), .val (.int p3), .unset, .unset] [(.int (24 : Int32)), (.ref b1), (.ref b1)])) _
  refine XS.sipush X25.here hx rfl (hb hby at_161) ?_
  show Steps p.tables e below (T25.setTop (mkF m 164 #[.val (.int p0), .val (.int p1), .val (.int p2), .val (.int p3), .unset, .unset] [(.int (8256 : Int32)), (.int (24 : Int32)), (.ref b1), (.ref b1)])) _
  refine st26 _ ?_
  show Steps p.tables e below (T26.setTop (mkF m 165 #[.val (.int p0), .val (.int p1), .val (.int p2), .val (.int p3), .unset, .unset] [(.ref b1)])) _
  refine XS.dup X26.here hx rfl (hb hby at_165) rfl rfl ?_
  show Steps p.tables e below (T26.setTop (mkF m 166 #[.val (.int p0), .val (.int p1), .val (.int p2), .val (.int p3), .unset, .unset] [(.ref b1), (.ref b1)])) _
  refine XS.bipush X26.here hx rfl (hb hby at_166) ?_
  show Steps p.tables e below (T26.setTop (mkF m 168 #[.val (.int p0), .val (.int p1), .val (.int p2), .val (.int p3), .unset, .unset] [(.int (25 : Int32)), (.ref b1), (.ref b1)])) _
  refine XS.sipush X26.here hx rfl (hb hby at_168) ?_
  show Steps p.tables e below (T26.setTop (mkF m 171 #[.val (.int p0), .val (.int p1), .val (.int p2), .val (.int p3), .unset, .unset] [(.int (8304 : Int32)), (.int (25 : Int32)), (.ref b1), (.ref b1)])) _
  refine st27 _ ?_
  show Steps p.tables e below (T27.setTop (mkF m 172 #[.val (.int p0), .val (.int p1), .val (.int p2), .val (.int p3), .unset, .unset] [(.ref b1)])) _
  refine XS.dup X27.here hx rfl (hb hby at_172) rfl rfl ?_
  show Steps p.tables e below (T27.setTop (mkF m 173 #[.val (.int p0), .val (.int p1), .val (.int p2), .val (.int p3), .unset, .unset] [(.ref b1), (.ref b1)])) _
  refine XS.bipush X27.here hx rfl (hb hby at_173) ?_
  show Steps p.tables e below (T27.setTop (mkF m 175 #[.val (.int p0), .val (.int p1), .val (.int p2), .val (.int p3), .unset, .unset] [(.int (26 : Int32)), (.ref b1), (.ref b1)])) _
  refine XS.sipush X27.here hx rfl (hb hby at_175) ?_
  show Steps p.tables e below (T27.setTop (mkF m 178 #[.val (.int p0), .val (.int p1), .val (.int p2), .val (.int p3), .unset, .unset] [(.int (8591 : Int32)), (.int (26 : Int32)), (.ref b1), (.ref b1)])) _
  refine st28 _ ?_
  show Steps p.tables e below (T28.setTop (mkF m 179 #[.val (.int p0), .val (.int p1), .val (.int p2), .val (.int p3), .unset, .unset] [(.ref b1)])) _
  refine XS.dup X28.here hx rfl (hb hby at_179) rfl rfl ?_
  show Steps p.tables e below (T28.setTop (mkF m 180 #[.val (.int p0), .val (.int p1), .val (.int p2), .val (.int p3), .unset, .unset] [(.ref b1), (.ref b1)])) _
  refine XS.bipush X28.here hx rfl (hb hby at_180) ?_
  show Steps p.tables e below (T28.setTop (mkF m 182 #[.val (.int p0), .val (.int p1), .val (.int p2), .val (.int p3), .unset, .unset] [(.int (27 : Int32)), (.ref b1), (.ref b1)])) _
  refine XS.sipush X28.here hx rfl (hb hby at_182) ?_
  show Steps p.tables e below (T28.setTop (mkF m 185 #[.val (.int p0), .val (.int p1), .val (.int p2), .val (.int p3), .unset, .unset] [(.int (11264 : Int32)), (.int (27 : Int32)), (.ref b1), (.ref b1)])) _
  refine st29 _ ?_
  show Steps p.tables e below (T29.setTop (mkF m 186 #[.val (.int p0), .val (.int p1), .val (.int p2), .val (.int p3), .unset, .unset] [(.ref b1)])) _
  refine XS.dup X29.here hx rfl (hb hby at_186) rfl rfl ?_
  show Steps p.tables e below (T29.setTop (mkF m 187 #[.val (.int p0), .val (.int p1), .val (.int p2), .val (.int p3), .unset, .unset] [(.ref b1), (.ref b1)])) _
  refine XS.bipush X29.here hx rfl (hb hby at_187) ?_
  show Steps p.tables e below (T29.setTop (mkF m 189 #[.val (.int p0), .val (.int p1), .val (.int p2), .val (.int p3), .unset, .unset] [(.int (28 : Int32)), (.ref b1), (.ref b1)])) _
  refine XS.sipush X29.here hx rfl (hb hby at_189) ?_
  show Steps p.tables e below (T29.setTop (mkF m 192 #[.val (.int p0), .val (.int p1), .val (.int p2), .val (.int p3), .unset, .unset] [(.int (12271 : Int32)), (.int (28 : Int32)), (.ref b1), (.ref b1)])) _
  refine st30 _ ?_
  show Steps p.tables e below (T30.setTop (mkF m 193 #[.val (.int p0), .val (.int p1), .val (.int p2), .val (.int p3), .unset, .unset] [(.ref b1)])) _
  refine XS.dup X30.here hx rfl (hb hby at_193) rfl rfl ?_
  show Steps p.tables e below (T30.setTop (mkF m 194 #[.val (.int p0), .val (.int p1), .val (.int p2), .val (.int p3), .unset, .unset] [(.ref b1), (.ref b1)])) _
  refine XS.bipush X30.here hx rfl (hb hby at_194) ?_
  show Steps p.tables e below (T30.setTop (mkF m 196 #[.val (.int p0), .val (.int p1), .val (.int p2), .val (.int p3), .unset, .unset] [(.int (29 : Int32)), (.ref b1), (.ref b1)])) _
  refine XS.sipush X30.here hx rfl (hb hby at_196) ?_
  show Steps p.tables e below (T30.setTop (mkF m 199 #[.val (.int p0), .val (.int p1), .val (.int p2), .val (.int p3), .unset, .unset] [(.int (12289 : Int32)), (.int (29 : Int32)), (.ref b1), (.ref b1)])) _
  refine st31 _ ?_
  show Steps p.tables e below (T31.setTop (mkF m 200 #[.val (.int p0), .val (.int p1), .val (.int p2), .val (.int p3), .unset, .unset] [(.ref b1)])) _
  refine XS.dup X31.here hx rfl (hb hby at_200) rfl rfl ?_
  show Steps p.tables e below (T31.setTop (mkF m 201 #[.val (.int p0), .val (.int p1), .val (.int p2), .val (.int p3), .unset, .unset] [(.ref b1), (.ref b1)])) _
  refine XS.bipush X31.here hx rfl (hb hby at_201) ?_
  show Steps p.tables e below (T31.setTop (mkF m 203 #[.val (.int p0), .val (.int p1), .val (.int p2), .val (.int p3), .unset, .unset] [(.int (30 : Int32)), (.ref b1), (.ref b1)])) _
  refine X31.ldcInt hx hown (mvT hZ (hw _ (List.mem_of_getElem? (i := 1) rfl))) (g := (mkF m 203 #[.val (.int p0), .val (.int p1), .val (.int p2), .val (.int p3), .unset, .unset] [(.int (30 : Int32)), (.ref b1), (.ref b1)])) rfl (hb hby at_203) _ ?_
  show Steps p.tables e below (T31.setTop (mkF m 205 #[.val (.int p0), .val (.int p1), .val (.int p2), .val (.int p3), .unset, .unset] [(.int (55295 : Int32)), (.int (30 : Int32)), (.ref b1), (.ref b1)])) _
  refine st32 _ ?_
  show Steps p.tables e below (T32.setTop (mkF m 206 #[.val (.int p0), .val (.int p1), .val (.int p2), .val (.int p3), .unset, .unset] [(.ref b1)])) _
  refine XS.dup X32.here hx rfl (hb hby at_206) rfl rfl ?_
  show Steps p.tables e below (T32.setTop (mkF m 207 #[.val (.int p0), .val (.int p1), .val (.int p2), .val (.int p3), .unset, .unset] [(.ref b1), (.ref b1)])) _
  refine XS.bipush X32.here hx rfl (hb hby at_207) ?_
  show Steps p.tables e below (T32.setTop (mkF m 209 #[.val (.int p0), .val (.int p1), .val (.int p2), .val (.int p3), .unset, .unset] [(.int (31 : Int32)), (.ref b1), (.ref b1)])) _
  refine X32.ldcInt hx hown (mvT hZ (hw _ (List.mem_of_getElem? (i := 2) rfl))) (g := (mkF m 209 #[.val (.int p0), .val (.int p1), .val (.int p2), .val (.int p3), .unset, .unset] [(.int (31 : Int32)), (.ref b1), (.ref b1)])) rfl (hb hby at_209) _ ?_
  show Steps p.tables e below (T32.setTop (mkF m 211 #[.val (.int p0), .val (.int p1), .val (.int p2), .val (.int p3), .unset, .unset] [(.int (63744 : Int32)), (.int (31 : Int32)), (.ref b1), (.ref b1)])) _
  refine st33 _ ?_
  show Steps p.tables e below (T33.setTop (mkF m 212 #[.val (.int p0), .val (.int p1), .val (.int p2), .val (.int p3), .unset, .unset] [(.ref b1)])) _
  refine XS.dup X33.here hx rfl (hb hby at_212) rfl rfl ?_
  show Steps p.tables e below (T33.setTop (mkF m 213 #[.val (.int p0), .val (.int p1), .val (.int p2), .val (.int p3), .unset, .unset] [(.ref b1), (.ref b1)])) _
  refine XS.bipush X33.here hx rfl (hb hby at_213) ?_
  show Steps p.tables e below (T33.setTop (mkF m 215 #[.val (.int p0), .val (.int p1), .val (.int p2), .val (.int p3), .unset, .unset] [(.int (32 : Int32)), (.ref b1), (.ref b1)])) _
  refine X33.ldcInt hx hown (mvT hZ (hw _ (List.mem_of_getElem? (i := 3) rfl))) (g := (mkF m 215 #[.val (.int p0), .val (.int p1), .val (.int p2), .val (.int p3), .unset, .unset] [(.int (32 : Int32)), (.ref b1), (.ref b1)])) rfl (hb hby at_215) _ ?_
  show Steps p.tables e below (T33.setTop (mkF m 217 #[.val (.int p0), .val (.int p1), .val (.int p2), .val (.int p3), .unset, .unset] [(.int (64975 : Int32)), (.int (32 : Int32)), (.ref b1), (.ref b1)])) _
  refine st34 _ ?_
  show Steps p.tables e below (T34.setTop (mkF m 218 #[.val (.int p0), .val (.int p1), .val (.int p2), .val (.int p3), .unset, .unset] [(.ref b1)])) _
  refine XS.dup X34.here hx rfl (hb hby at_218) rfl rfl ?_
  show Steps p.tables e below (T34.setTop (mkF m 219 #[.val (.int p0), .val (.int p1), .val (.int p2), .val (.int p3), .unset, .unset] [(.ref b1), (.ref b1)])) _
  refine XS.bipush X34.here hx rfl (hb hby at_219) ?_
  show Steps p.tables e below (T34.setTop (mkF m 221 #[.val (.int p0), .val (.int p1), .val (.int p2), .val (.int p3), .unset, .unset] [(.int (33 : Int32)), (.ref b1), (.ref b1)])) _
  refine X34.ldcInt hx hown (mvT hZ (hw _ (List.mem_of_getElem? (i := 4) rfl))) (g := (mkF m 221 #[.val (.int p0), .val (.int p1), .val (.int p2), .val (.int p3), .unset, .unset] [(.int (33 : Int32)), (.ref b1), (.ref b1)])) rfl (hb hby at_221) _ ?_
  show Steps p.tables e below (T34.setTop (mkF m 223 #[.val (.int p0), .val (.int p1), .val (.int p2), .val (.int p3), .unset, .unset] [(.int (65008 : Int32)), (.int (33 : Int32)), (.ref b1), (.ref b1)])) _
  refine st35 _ ?_
  show Steps p.tables e below (T35.setTop (mkF m 224 #[.val (.int p0), .val (.int p1), .val (.int p2), .val (.int p3), .unset, .unset] [(.ref b1)])) _
  refine XS.dup X35.here hx rfl (hb hby at_224) rfl rfl ?_
  show Steps p.tables e below (T35.setTop (mkF m 225 #[.val (.int p0), .val (.int p1), .val (.int p2), .val (.int p3), .unset, .unset] [(.ref b1), (.ref b1)])) _
  refine XS.bipush X35.here hx rfl (hb hby at_225) ?_
  show Steps p.tables e below (T35.setTop (mkF m 227 #[.val (.int p0), .val (.int p1), .val (.int p2), .val (.int p3), .unset, .unset] [(.int (34 : Int32)), (.ref b1), (.ref b1)])) _
  refine X35.ldcInt hx hown (mvT hZ (hw _ (List.mem_of_getElem? (i := 5) rfl))) (g := (mkF m 227 #[.val (.int p0), .val (.int p1), .val (.int p2), .val (.int p3), .unset, .unset] [(.int (34 : Int32)), (.ref b1), (.ref b1)])) rfl (hb hby at_227) _ ?_
  show Steps p.tables e below (T35.setTop (mkF m 229 #[.val (.int p0), .val (.int p1), .val (.int p2), .val (.int p3), .unset, .unset] [(.int (65533 : Int32)), (.int (34 : Int32)), (.ref b1), (.ref b1)])) _
  refine st36 _ ?_
  show Steps p.tables e below (T36.setTop (mkF m 230 #[.val (.int p0), .val (.int p1), .val (.int p2), .val (.int p3), .unset, .unset] [(.ref b1)])) _
  refine XS.dup X36.here hx rfl (hb hby at_230) rfl rfl ?_
  show Steps p.tables e below (T36.setTop (mkF m 231 #[.val (.int p0), .val (.int p1), .val (.int p2), .val (.int p3), .unset, .unset] [(.ref b1), (.ref b1)])) _
  refine XS.bipush X36.here hx rfl (hb hby at_231) ?_
  show Steps p.tables e below (T36.setTop (mkF m 233 #[.val (.int p0), .val (.int p1), .val (.int p2), .val (.int p3), .unset, .unset] [(.int (35 : Int32)), (.ref b1), (.ref b1)])) _
  refine X36.ldcInt hx hown (mvT hZ (hw _ (List.mem_of_getElem? (i := 6) rfl))) (g := (mkF m 233 #[.val (.int p0), .val (.int p1), .val (.int p2), .val (.int p3), .unset, .unset] [(.int (35 : Int32)), (.ref b1), (.ref b1)])) rfl (hb hby at_233) _ ?_
  show Steps p.tables e below (T36.setTop (mkF m 235 #[.val (.int p0), .val (.int p1), .val (.int p2), .val (.int p3), .unset, .unset] [(.int (65536 : Int32)), (.int (35 : Int32)), (.ref b1), (.ref b1)])) _
  refine st37 _ ?_
  show Steps p.tables e below (T37.setTop (mkF m 236 #[.val (.int p0), .val (.int p1), .val (.int p2), .val (.int p3), .unset, .unset] [(.ref b1)])) _
  refine XS.dup X37.here hx rfl (hb hby at_236) rfl rfl ?_
  show Steps p.tables e below (T37.setTop (mkF m 237 #[.val (.int p0), .val (.int p1), .val (.int p2), .val (.int p3), .unset, .unset] [(.ref b1), (.ref b1)])) _
  refine XS.bipush X37.here hx rfl (hb hby at_237) ?_
  show Steps p.tables e below (T37.setTop (mkF m 239 #[.val (.int p0), .val (.int p1), .val (.int p2), .val (.int p3), .unset, .unset] [(.int (36 : Int32)), (.ref b1), (.ref b1)])) _
  refine X37.ldcInt hx hown (mvT hZ (hw _ (List.mem_of_getElem? (i := 7) rfl))) (g := (mkF m 239 #[.val (.int p0), .val (.int p1), .val (.int p2), .val (.int p3), .unset, .unset] [(.int (36 : Int32)), (.ref b1), (.ref b1)])) rfl (hb hby at_239) _ ?_
  show Steps p.tables e below (T37.setTop (mkF m 241 #[.val (.int p0), .val (.int p1), .val (.int p2), .val (.int p3), .unset, .unset] [(.int (983039 : Int32)), (.int (36 : Int32)), (.ref b1), (.ref b1)])) _
  refine st38 _ ?_
  show Steps p.tables e below (T38.setTop (mkF m 242 #[.val (.int p0), .val (.int p1), .val (.int p2), .val (.int p3), .unset, .unset] [(.ref b1)])) _
  refine XS.astore X38.here hx rfl (hb hby at_242) rfl rfl (l' := #[.val (.int p0), .val (.int p1), .val (.int p2), .val (.int p3), .val (.ref b1), .unset]) rfl ?_
  show Steps p.tables e below (T38.setTop (mkF m 244 #[.val (.int p0), .val (.int p1), .val (.int p2), .val (.int p3), .val (.ref b1), .unset] [])) _
  refine XS.iloadN X38.here hx rfl (hb hby at_244) rfl ?_
  show Steps p.tables e below (T38.setTop (mkF m 245 #[.val (.int p0), .val (.int p1), .val (.int p2), .val (.int p3), .val (.ref b1), .unset] [(.int p1)])) _
  refine XS.iconst X38.here hx rfl (hb hby at_245) ?_
  show Steps p.tables e below (T38.setTop (mkF m 246 #[.val (.int p0), .val (.int p1), .val (.int p2), .val (.int p3), .val (.ref b1), .unset] [(.int (1 : Int32)), (.int p1)])) _
  refine XS.iand X38.here hx rfl (hb hby at_246) rfl ?_
  show Steps p.tables e below (T38.setTop (mkF m 247 #[.val (.int p0), .val (.int p1), .val (.int p2), .val (.int p3), .val (.ref b1), .unset] [(.int (p1 &&& (1 : Int32)))])) _
  refine XS.ifNo X38.here hx rfl (hb hby at_247) rfl ((if0 _ _).trans (teq hc247).2) ?_
  show Steps p.tables e below (T38.setTop (mkF m 250 #[.val (.int p0), .val (.int p1), .val (.int p2), .val (.int p3), .val (.ref b1), .unset] [])) _
  refine XS.iloadN X38.here hx rfl (hb hby at_250) rfl ?_
  show Steps p.tables e below (T38.setTop (mkF m 251 #[.val (.int p0), .val (.int p1), .val (.int p2), .val (.int p3), .val (.ref b1), .unset] [(.int p0)])) _
  refine XS.istore X38.here hx rfl (hb hby at_251) rfl (l' := #[.val (.int p0), .val (.int p1), .val (.int p2), .val (.int p3), .val (.ref b1), .val (.int p0)]) rfl ?_
  show Steps p.tables e below (T38.setTop (mkF m 253 #[.val (.int p0), .val (.int p1), .val (.int p2), .val (.int p3), .val (.ref b1), .val (.int p0)] [])) _
  refine XS.goto X38.here hx rfl (pc0 := 253) (pc' := 277) rfl (hb hby at_253) (by decide) (by decide) ?_
  show Steps p.tables e below (T38.setTop (mkF m 277 #[.val (.int p0), .val (.int p1), .val (.int p2), .val (.int p3), .val (.ref b1), .val (.int p0)] [])) _
  refine XS.iload X38.here hx rfl (hb hby at_277) rfl ?_
  show Steps p.tables e below (T38.setTop (mkF m 279 #[.val (.int p0), .val (.int p1), .val (.int p2), .val (.int p3), .val (.ref b1), .val (.int p0)] [(.int p0)])) _
  refine st39 _ ?_
  show Steps p.tables e below (T39.setTop (mkF m 282 #[.val (.int p0), .val (.int p1), .val (.int p2), .val (.int p3), .val (.ref b1), .val (.int p0)] [(.int (F1_0 p0))])) _
  refine XS.iload X39.here hx rfl (hb hby at_282) rfl ?_
  show Steps p.tables e below (T39.setTop (mkF m 284 #[.val (.int p0), .val (.int p1), .val (.int p2), .val (.int p3), .val (.ref b1), .val (.int p0)] [(.int p0), (.int (F1_0 p0))])) _
  refine st40 _ ?_
  show Steps p.tables e below (T40.setTop (mkF m 287 #[.val (.int p0), .val (.int p1), .val (.int p2), .val (.int p3), .val (.ref b1), .val (.int p0)] [(.int (F3_0 p0)), (.int (F1_0 p0))])) _
  refine XS.icmpNo X40.here hx rfl (hb hby at_287) rfl (teq (own_same _)).2 ?_
  show Steps p.tables e below (T40.setTop (mkF m 290 #[.val (.int p0), .val (.int p1), .val (.int p2), .val (.int p3), .val (.ref b1), .val (.int p0)] [])) _
  refine XS.iconst X40.here hx rfl (hb hby at_290) ?_
  show Steps p.tables e below (T40.setTop (mkF m 291 #[.val (.int p0), .val (.int p1), .val (.int p2), .val (.int p3), .val (.ref b1), .val (.int p0)] [(.int (1 : Int32))])) _
  refine XS.goto X40.here hx rfl (pc0 := 291) (pc' := 295) rfl (hb hby at_291) (by decide) (by decide) ?_
  show Steps p.tables e below (T40.setTop (mkF m 295 #[.val (.int p0), .val (.int p1), .val (.int p2), .val (.int p3), .val (.ref b1), .val (.int p0)] [(.int (1 : Int32))])) _
  exact retN X40 hx (t := .boolean) Bd.returns (by simp) (hb hby at_295) hr
def Q_rm0b (Z : State) (p0 : Int32) (p1 : Int32) (p2 : Int32) (p3 : Int32) (h0 : Heap) (n0 : Nat) (v : Option Value) (h : Heap) (L : List Loc) : Prop := (v = some (.int (1 : Int32)) ∧ Fr n0 L)
set_option maxRecDepth 65536 in
set_option maxHeartbeats 40000000 in
theorem rm0b (l : Launch) (Z : State) (a0 : Array Value) (hw : ∀ d ∈ tables_1, d.before a0 Z = true) (ws : List Jvm.Cond) (p0 : Int32) (p1 : Int32) (p2 : Int32) (p3 : Int32) (h0 : Heap) (n0 : Nat) (Z0 : n0 ≤ h0.size) (hc247 : ¬ ((p1 &&& (1 : Int32)) = (0 : Int32))) :
    MetFree l x (head1 (Jvm.Cond.code x code maxLocals ret :: ws) room_1) (fun a U => a = #[(.int p0), (.int p1), (.int p2), (.int p3)] ∧ Z.Warmed39 U.vm ∧ U.heap = h0) (fun _ _ _ _ _ => True) (fun _ U o U' => ∃ v L, o = .returned v ∧ Q_rm0b Z p0 p1 p2 p3 h0 n0 v U'.heap L ∧ FrameEnd U o U' L room_1.cells room_1.slots) := by
  refine MetFree.of_bodySF (plainFor_of_name pn_0) hisR ?_
  intro p e s m args below meth c s₁ Bd hml0 hP hK
  obtain ⟨rfl, hZ, hh⟩ := hP
  have hx := Bd.exec
  have hby := Bd.bytes
  have hml : c.maxLocals = 6 := hml0
  have hown : s.vm.findClass "shapewright/NameCharactersIsPartPinLaw" = some m.cls := findClass_of_methodNamed Bd.named
  have hnm := (name_of_methodNamed Bd.named Bd.method).1
  have X0 : Stand p l e room_1 s m #[(.int p0), (.int p1), (.int p2), (.int p3)] below meth c s₁ [] 0 0 := Stand.of_body Bd
  have e0 : s₁.heap = h0 := by rw [← hh, Bd.state]; rfl
  have N0 := Fr.nil n0
  have pre0 : ∀ t, Steps p.tables e below (s₁.setTop (mkF m 0 #[.val (.int p0), .val (.int p1), .val (.int p2), .val (.int p3), .unset, .unset] [])) t → Steps p.tables e below (s₁.setTop (entryFrame m #[(.int p0), (.int p1), (.int p2), (.int p3)] maxLocals)) t := fun t k => castTop (ef_0 m p0 p1 p2 p3) k
  obtain ⟨T1, h1, k1, X1, e1, E1, A1, st1⟩ := newP X0 hx hZ (hw _ (List.mem_of_getElem? (i := 0) rfl)) e0 (g := (mkF m 2 #[.val (.int p0), .val (.int p1), .val (.int p2), .val (.int p3), .unset, .unset] [(.int (37 : Int32))])) rfl (hb hby at_2) rfl (by decide) (cap := 37) (by decide) (by decide) (by decide) (by decide)
  obtain ⟨b1, g1⟩ : ∃ z, z = Array.size h0 := ⟨_, rfl⟩
  rw [← g1] at A1 st1
  have G1 : n0 ≤ b1 := Nat.le_trans Z0 (Nat.le_of_eq g1.symm)
  have V1 : IntArr Z T1.heap b1 37 := own_arr_new (by rw [e1]; exact Arv.new A1 (by decide)) (by decide)
  obtain ⟨T2, L2, X2, N2, V2, st2⟩ := own_arr_st X1 hx hZ V1 G1 N0 (g := (mkF m 8 #[.val (.int p0), .val (.int p1), .val (.int p2), .val (.int p3), .unset, .unset] [(.int (45 : Int32)), (.int (0 : Int32)), (.ref b1), (.ref b1)])) (by decide) (by decide) rfl rfl (hb hby at_8)
  obtain ⟨T3, L3, X3, N3, V3, st3⟩ := own_arr_st X2 hx hZ V2 G1 N2 (g := (mkF m 13 #[.val (.int p0), .val (.int p1), .val (.int p2), .val (.int p3), .unset, .unset] [(.int (48 : Int32)), (.int (1 : Int32)), (.ref b1), (.ref b1)])) (by decide) (by decide) rfl rfl (hb hby at_13)
  obtain ⟨T4, L4, X4, N4, V4, st4⟩ := own_arr_st X3 hx hZ V3 G1 N3 (g := (mkF m 18 #[.val (.int p0), .val (.int p1), .val (.int p2), .val (.int p3), .unset, .unset] [(.int (57 : Int32)), (.int (2 : Int32)), (.ref b1), (.ref b1)])) (by decide) (by decide) rfl rfl (hb hby at_18)
  obtain ⟨T5, L5, X5, N5, V5, st5⟩ := own_arr_st X4 hx hZ V4 G1 N4 (g := (mkF m 23 #[.val (.int p0), .val (.int p1), .val (.int p2), .val (.int p3), .unset, .unset] [(.int (65 : Int32)), (.int (3 : Int32)), (.ref b1), (.ref b1)])) (by decide) (by decide) rfl rfl (hb hby at_23)
  obtain ⟨T6, L6, X6, N6, V6, st6⟩ := own_arr_st X5 hx hZ V5 G1 N5 (g := (mkF m 28 #[.val (.int p0), .val (.int p1), .val (.int p2), .val (.int p3), .unset, .unset] [(.int (90 : Int32)), (.int (4 : Int32)), (.ref b1), (.ref b1)])) (by decide) (by decide) rfl rfl (hb hby at_28)
  obtain ⟨T7, L7, X7, N7, V7, st7⟩ := own_arr_st X6 hx hZ V6 G1 N6 (g := (mkF m 33 #[.val (.int p0), .val (.int p1), .val (.int p2), .val (.int p3), .unset, .unset] [(.int (95 : Int32)), (.int (5 : Int32)), (.ref b1), (.ref b1)])) (by decide) (by decide) rfl rfl (hb hby at_33)
  obtain ⟨T8, L8, X8, N8, V8, st8⟩ := own_arr_st X7 hx hZ V7 G1 N7 (g := (mkF m 39 #[.val (.int p0), .val (.int p1), .val (.int p2), .val (.int p3), .unset, .unset] [(.int (97 : Int32)), (.int (6 : Int32)), (.ref b1), (.ref b1)])) (by decide) (by decide) rfl rfl (hb hby at_39)
  obtain ⟨T9, L9, X9, N9, V9, st9⟩ := own_arr_st X8 hx hZ V8 G1 N8 (g := (mkF m 45 #[.val (.int p0), .val (.int p1), .val (.int p2), .val (.int p3), .unset, .unset] [(.int (122 : Int32)), (.int (7 : Int32)), (.ref b1), (.ref b1)])) (by decide) (by decide) rfl rfl (hb hby at_45)
  obtain ⟨T10, L10, X10, N10, V10, st10⟩ := own_arr_st X9 hx hZ V9 G1 N9 (g := (mkF m 52 #[.val (.int p0), .val (.int p1), .val (.int p2), .val (.int p3), .unset, .unset] [(.int (183 : Int32)), (.int (8 : Int32)), (.ref b1), (.ref b1)])) (by decide) (by decide) rfl rfl (hb hby at_52)
  obtain ⟨T11, L11, X11, N11, V11, st11⟩ := own_arr_st X10 hx hZ V10 G1 N10 (g := (mkF m 59 #[.val (.int p0), .val (.int p1), .val (.int p2), .val (.int p3), .unset, .unset] [(.int (192 : Int32)), (.int (9 : Int32)), (.ref b1), (.ref b1)])) (by decide) (by decide) rfl rfl (hb hby at_59)
  obtain ⟨T12, L12, X12, N12, V12, st12⟩ := own_arr_st X11 hx hZ V11 G1 N11 (g := (mkF m 66 #[.val (.int p0), .val (.int p1), .val (.int p2), .val (.int p3), .unset, .unset] [(.int (214 : Int32)), (.int (10 : Int32)), (.ref b1), (.ref b1)])) (by decide) (by decide) rfl rfl (hb hby at_66)
  obtain ⟨T13, L13, X13, N13, V13, st13⟩ := own_arr_st X12 hx hZ V12 G1 N12 (g := (mkF m 73 #[.val (.int p0), .val (.int p1), .val (.int p2), .val (.int p3), .unset, .unset] [(.int (216 : Int32)), (.int (11 : Int32)), (.ref b1), (.ref b1)])) (by decide) (by decide) rfl rfl (hb hby at_73)
  obtain ⟨T14, L14, X14, N14, V14, st14⟩ := own_arr_st X13 hx hZ V13 G1 N13 (g := (mkF m 80 #[.val (.int p0), .val (.int p1), .val (.int p2), .val (.int p3), .unset, .unset] [(.int (246 : Int32)), (.int (12 : Int32)), (.ref b1), (.ref b1)])) (by decide) (by decide) rfl rfl (hb hby at_80)
  obtain ⟨T15, L15, X15, N15, V15, st15⟩ := own_arr_st X14 hx hZ V14 G1 N14 (g := (mkF m 87 #[.val (.int p0), .val (.int p1), .val (.int p2), .val (.int p3), .unset, .unset] [(.int (248 : Int32)), (.int (13 : Int32)), (.ref b1), (.ref b1)])) (by decide) (by decide) rfl rfl (hb hby at_87)
  obtain ⟨T16, L16, X16, N16, V16, st16⟩ := own_arr_st X15 hx hZ V15 G1 N15 (g := (mkF m 94 #[.val (.int p0), .val (.int p1), .val (.int p2), .val (.int p3), .unset, .unset] [(.int (767 : Int32)), (.int (14 : Int32)), (.ref b1), (.ref b1)])) (by decide) (by decide) rfl rfl (hb hby at_94)
  obtain ⟨T17, L17, X17, N17, V17, st17⟩ := own_arr_st X16 hx hZ V16 G1 N16 (g := (mkF m 101 #[.val (.int p0), .val (.int p1), .val (.int p2), .val (.int p3), .unset, .unset] [(.int (768 : Int32)), (.int (15 : Int32)), (.ref b1), (.ref b1)])) (by decide) (by decide) rfl rfl (hb hby at_101)
  obtain ⟨T18, L18, X18, N18, V18, st18⟩ := own_arr_st X17 hx hZ V17 G1 N17 (g := (mkF m 108 #[.val (.int p0), .val (.int p1), .val (.int p2), .val (.int p3), .unset, .unset] [(.int (879 : Int32)), (.int (16 : Int32)), (.ref b1), (.ref b1)])) (by decide) (by decide) rfl rfl (hb hby at_108)
  obtain ⟨T19, L19, X19, N19, V19, st19⟩ := own_arr_st X18 hx hZ V18 G1 N18 (g := (mkF m 115 #[.val (.int p0), .val (.int p1), .val (.int p2), .val (.int p3), .unset, .unset] [(.int (880 : Int32)), (.int (17 : Int32)), (.ref b1), (.ref b1)])) (by decide) (by decide) rfl rfl (hb hby at_115)
  obtain ⟨T20, L20, X20, N20, V20, st20⟩ := own_arr_st X19 hx hZ V19 G1 N19 (g := (mkF m 122 #[.val (.int p0), .val (.int p1), .val (.int p2), .val (.int p3), .unset, .unset] [(.int (893 : Int32)), (.int (18 : Int32)), (.ref b1), (.ref b1)])) (by decide) (by decide) rfl rfl (hb hby at_122)
  obtain ⟨T21, L21, X21, N21, V21, st21⟩ := own_arr_st X20 hx hZ V20 G1 N20 (g := (mkF m 129 #[.val (.int p0), .val (.int p1), .val (.int p2), .val (.int p3), .unset, .unset] [(.int (895 : Int32)), (.int (19 : Int32)), (.ref b1), (.ref b1)])) (by decide) (by decide) rfl rfl (hb hby at_129)
  obtain ⟨T22, L22, X22, N22, V22, st22⟩ := own_arr_st X21 hx hZ V21 G1 N21 (g := (mkF m 136 #[.val (.int p0), .val (.int p1), .val (.int p2), .val (.int p3), .unset, .unset] [(.int (8191 : Int32)), (.int (20 : Int32)), (.ref b1), (.ref b1)])) (by decide) (by decide) rfl rfl (hb hby at_136)
  obtain ⟨T23, L23, X23, N23, V23, st23⟩ := own_arr_st X22 hx hZ V22 G1 N22 (g := (mkF m 143 #[.val (.int p0), .val (.int p1), .val (.int p2), .val (.int p3), .unset, .unset] [(.int (8204 : Int32)), (.int (21 : Int32)), (.ref b1), (.ref b1)])) (by decide) (by decide) rfl rfl (hb hby at_143)
  obtain ⟨T24, L24, X24, N24, V24, st24⟩ := own_arr_st X23 hx hZ V23 G1 N23 (g := (mkF m 150 #[.val (.int p0), .val (.int p1), .val (.int p2), .val (.int p3), .unset, .unset] [(.int (8205 : Int32)), (.int (22 : Int32)), (.ref b1), (.ref b1)])) (by decide) (by decide) rfl rfl (hb hby at_150)
  obtain ⟨T25, L25, X25, N25, V25, st25⟩ := own_arr_st X24 hx hZ V24 G1 N24 (g := (mkF m 157 #[.val (.int p0), .val (.int p1), .val (.int p2), .val (.int p3), .unset, .unset] [(.int (8255 : Int32)), (.int (23 : Int32)), (.ref b1), (.ref b1)])) (by decide) (by decide) rfl rfl (hb hby at_157)
  obtain ⟨T26, L26, X26, N26, V26, st26⟩ := own_arr_st X25 hx hZ V25 G1 N25 (g := (mkF m 164 #[.val (.int p0), .val (.int p1), .val (.int p2), .val (.int p3), .unset, .unset] [(.int (8256 : Int32)), (.int (24 : Int32)), (.ref b1), (.ref b1)])) (by decide) (by decide) rfl rfl (hb hby at_164)
  obtain ⟨T27, L27, X27, N27, V27, st27⟩ := own_arr_st X26 hx hZ V26 G1 N26 (g := (mkF m 171 #[.val (.int p0), .val (.int p1), .val (.int p2), .val (.int p3), .unset, .unset] [(.int (8304 : Int32)), (.int (25 : Int32)), (.ref b1), (.ref b1)])) (by decide) (by decide) rfl rfl (hb hby at_171)
  obtain ⟨T28, L28, X28, N28, V28, st28⟩ := own_arr_st X27 hx hZ V27 G1 N27 (g := (mkF m 178 #[.val (.int p0), .val (.int p1), .val (.int p2), .val (.int p3), .unset, .unset] [(.int (8591 : Int32)), (.int (26 : Int32)), (.ref b1), (.ref b1)])) (by decide) (by decide) rfl rfl (hb hby at_178)
  obtain ⟨T29, L29, X29, N29, V29, st29⟩ := own_arr_st X28 hx hZ V28 G1 N28 (g := (mkF m 185 #[.val (.int p0), .val (.int p1), .val (.int p2), .val (.int p3), .unset, .unset] [(.int (11264 : Int32)), (.int (27 : Int32)), (.ref b1), (.ref b1)])) (by decide) (by decide) rfl rfl (hb hby at_185)
  obtain ⟨T30, L30, X30, N30, V30, st30⟩ := own_arr_st X29 hx hZ V29 G1 N29 (g := (mkF m 192 #[.val (.int p0), .val (.int p1), .val (.int p2), .val (.int p3), .unset, .unset] [(.int (12271 : Int32)), (.int (28 : Int32)), (.ref b1), (.ref b1)])) (by decide) (by decide) rfl rfl (hb hby at_192)
  obtain ⟨T31, L31, X31, N31, V31, st31⟩ := own_arr_st X30 hx hZ V30 G1 N30 (g := (mkF m 199 #[.val (.int p0), .val (.int p1), .val (.int p2), .val (.int p3), .unset, .unset] [(.int (12289 : Int32)), (.int (29 : Int32)), (.ref b1), (.ref b1)])) (by decide) (by decide) rfl rfl (hb hby at_199)
  obtain ⟨T32, L32, X32, N32, V32, st32⟩ := own_arr_st X31 hx hZ V31 G1 N31 (g := (mkF m 205 #[.val (.int p0), .val (.int p1), .val (.int p2), .val (.int p3), .unset, .unset] [(.int (55295 : Int32)), (.int (30 : Int32)), (.ref b1), (.ref b1)])) (by decide) (by decide) rfl rfl (hb hby at_205)
  obtain ⟨T33, L33, X33, N33, V33, st33⟩ := own_arr_st X32 hx hZ V32 G1 N32 (g := (mkF m 211 #[.val (.int p0), .val (.int p1), .val (.int p2), .val (.int p3), .unset, .unset] [(.int (63744 : Int32)), (.int (31 : Int32)), (.ref b1), (.ref b1)])) (by decide) (by decide) rfl rfl (hb hby at_211)
  obtain ⟨T34, L34, X34, N34, V34, st34⟩ := own_arr_st X33 hx hZ V33 G1 N33 (g := (mkF m 217 #[.val (.int p0), .val (.int p1), .val (.int p2), .val (.int p3), .unset, .unset] [(.int (64975 : Int32)), (.int (32 : Int32)), (.ref b1), (.ref b1)])) (by decide) (by decide) rfl rfl (hb hby at_217)
  obtain ⟨T35, L35, X35, N35, V35, st35⟩ := own_arr_st X34 hx hZ V34 G1 N34 (g := (mkF m 223 #[.val (.int p0), .val (.int p1), .val (.int p2), .val (.int p3), .unset, .unset] [(.int (65008 : Int32)), (.int (33 : Int32)), (.ref b1), (.ref b1)])) (by decide) (by decide) rfl rfl (hb hby at_223)
  obtain ⟨T36, L36, X36, N36, V36, st36⟩ := own_arr_st X35 hx hZ V35 G1 N35 (g := (mkF m 229 #[.val (.int p0), .val (.int p1), .val (.int p2), .val (.int p3), .unset, .unset] [(.int (65533 : Int32)), (.int (34 : Int32)), (.ref b1), (.ref b1)])) (by decide) (by decide) rfl rfl (hb hby at_229)
  obtain ⟨T37, L37, X37, N37, V37, st37⟩ := own_arr_st X36 hx hZ V36 G1 N36 (g := (mkF m 235 #[.val (.int p0), .val (.int p1), .val (.int p2), .val (.int p3), .unset, .unset] [(.int (65536 : Int32)), (.int (35 : Int32)), (.ref b1), (.ref b1)])) (by decide) (by decide) rfl rfl (hb hby at_235)
  obtain ⟨T38, L38, X38, N38, V38, st38⟩ := own_arr_st X37 hx hZ V37 G1 N37 (g := (mkF m 241 #[.val (.int p0), .val (.int p1), .val (.int p2), .val (.int p3), .unset, .unset] [(.int (983039 : Int32)), (.int (36 : Int32)), (.ref b1), (.ref b1)])) (by decide) (by decide) rfl rfl (hb hby at_241)
  obtain ⟨z39, st39⟩ := own_arr_ld X38 hx hZ V38 (g := (mkF m 266 #[.val (.int p0), .val (.int p1), .val (.int p2), .val (.int p3), .val (.ref b1), .unset] [(.int ((p2 &&& (2147483647 : Int32)) - ((p2 &&& (2147483647 : Int32)) / (37 : Int32)) * (37 : Int32))), (.ref b1)])) (own_idx p2 (37 : Int32) 37 rfl (by decide)) rfl rfl (hb hby at_266)
  obtain ⟨_, _, ⟨T40, L40, k40, n40⟩, -, X40, ⟨Lc40, hQ40, l40, y40, z40⟩, st40⟩ := Jvm.LawKit.callS X38 hx (y := (⟨"shapewright/NameCharacters", "isPart", "(I)Z"⟩ : MethodName)) hown (mvT hZ (hw _ (List.mem_of_getElem? (i := 9) rfl))) (mvT hZ (hw _ (List.mem_of_getElem? (i := 10) rfl))) (mvT hZ (hw _ (List.mem_of_getElem? (i := 11) rfl))) (mvT hZ (hw _ (List.mem_of_getElem? (i := 12) rfl))) (by decide) (backOf (W := 0) (rm1 l Z a0 hw [] ((z39 + ((p3 &&& (3 : Int32)) - ((p3 &&& (3 : Int32)) / (3 : Int32)) * (3 : Int32))) - (1 : Int32)) T38.heap n0 (own_arr_sz G1 V38)) hZ (hw _ (List.mem_of_getElem? (i := 12) rfl)) (hw _ (List.mem_of_getElem? (i := 11) rfl)) (by decide) (by decide)) (g := (mkF m 279 #[.val (.int p0), .val (.int p1), .val (.int p2), .val (.int p3), .val (.ref b1), .val (.int ((z39 + ((p3 &&& (3 : Int32)) - ((p3 &&& (3 : Int32)) / (3 : Int32)) * (3 : Int32))) - (1 : Int32)))] [(.int ((z39 + ((p3 &&& (3 : Int32)) - ((p3 &&& (3 : Int32)) / (3 : Int32)) * (3 : Int32))) - (1 : Int32)))])) rfl (by rw [hml]; rfl) (argsL := [(.int ((z39 + ((p3 &&& (3 : Int32)) - ((p3 &&& (3 : Int32)) / (3 : Int32)) * (3 : Int32))) - (1 : Int32)))]) (rest := []) (lenOf pd0 rfl) rfl (by show 2 * 0 + _ ≤ _; exact Nat.le_of_eq rfl) (hb hby at_279) (fun _ _ => ⟨rfl, rfl, (by decide : 1 + 0 ≤ _), (by decide : 37 + 0 ≤ _)⟩)
  dsimp only [Pt.U, Pt.locs, Pt.cells, Pt.slots] at X40 l40 y40 z40 st40 hQ40
  subst l40 y40 z40
  obtain ⟨rfl, N40q, e40⟩ := hQ40
  have N40 := Fr.app N38 N40q
  obtain ⟨_, _, ⟨T41, L41, k41, n41⟩, -, X41, ⟨Lc41, hQ41, l41, y41, z41⟩, st41⟩ := Jvm.LawKit.callS X40 hx (y := (⟨"shapewright/NameCharactersIsPartPinLaw", "ref", "(I)Z"⟩ : MethodName)) hown (mvT hZ (hw _ (List.mem_of_getElem? (i := 19) rfl))) (mvT hZ (hw _ (List.mem_of_getElem? (i := 20) rfl))) (mvT hZ (hw _ (List.mem_of_getElem? (i := 21) rfl))) (mvT hZ (hw _ (List.mem_of_getElem? (i := 22) rfl))) (by decide) (backOf (W := 1) (rm3 l Z a0 hw [] ((z39 + ((p3 &&& (3 : Int32)) - ((p3 &&& (3 : Int32)) / (3 : Int32)) * (3 : Int32))) - (1 : Int32)) T38.heap n0 (own_arr_sz G1 V38)) hZ (hw _ (List.mem_of_getElem? (i := 22) rfl)) (hw _ (List.mem_of_getElem? (i := 21) rfl)) (by decide) (by decide)) (g := (mkF m 284 #[.val (.int p0), .val (.int p1), .val (.int p2), .val (.int p3), .val (.ref b1), .val (.int ((z39 + ((p3 &&& (3 : Int32)) - ((p3 &&& (3 : Int32)) / (3 : Int32)) * (3 : Int32))) - (1 : Int32)))] [(.int ((z39 + ((p3 &&& (3 : Int32)) - ((p3 &&& (3 : Int32)) / (3 : Int32)) * (3 : Int32))) - (1 : Int32))), (.int (F1_0 ((z39 + ((p3 &&& (3 : Int32)) - ((p3 &&& (3 : Int32)) / (3 : Int32)) * (3 : Int32))) - (1 : Int32))))])) rfl (by rw [hml]; rfl) (argsL := [(.int ((z39 + ((p3 &&& (3 : Int32)) - ((p3 &&& (3 : Int32)) / (3 : Int32)) * (3 : Int32))) - (1 : Int32)))]) (rest := [(.int (F1_0 ((z39 + ((p3 &&& (3 : Int32)) - ((p3 &&& (3 : Int32)) / (3 : Int32)) * (3 : Int32))) - (1 : Int32))))]) (lenOf pd0 rfl) rfl (by show 2 * 0 + _ ≤ _; exact Nat.le_of_eq rfl) (hb hby at_284) (fun _ _ => ⟨rfl, e40, (by decide : 1 + 0 ≤ _), (by decide : 37 + 0 ≤ _)⟩)
  dsimp only [Pt.U, Pt.locs, Pt.cells, Pt.slots] at X41 l41 y41 z41 st41 hQ41
  subst l41 y41 z41
  obtain ⟨rfl, N41q, e41⟩ := hQ41
  have N41 := Fr.app N40 N41q
  obtain ⟨fs, hr, hrun, hended, hW, hsame⟩ := X41.leave (v := some (.int (1 : Int32))) (fun h => by rw [Bd.returns] at h; cases h)
  refine ⟨_, _, pre0 _ ?_, hrun, hended, _, _, rfl, ⟨rfl, N41⟩, ⟨_, rfl⟩, hW, hsame.mono (by decide) (by decide)⟩
  show Steps p.tables e below (s₁.setTop (mkF m 0 #[.val (.int p0), .val (.int p1), .val (.int p2), .val (.int p3), .unset, .unset] [])) _
  refine XS.bipush X0.here hx rfl (hb hby at_0) ?_
  show Steps p.tables e below (s₁.setTop (mkF m 2 #[.val (.int p0), .val (.int p1), .val (.int p2), .val (.int p3), .unset, .unset] [(.int (37 : Int32))])) _
  refine st1 _ ?_
  show Steps p.tables e below (T1.setTop (mkF m 4 #[.val (.int p0), .val (.int p1), .val (.int p2), .val (.int p3), .unset, .unset] [(.ref b1)])) _
  refine XS.dup X1.here hx rfl (hb hby at_4) rfl rfl ?_
  show Steps p.tables e below (T1.setTop (mkF m 5 #[.val (.int p0), .val (.int p1), .val (.int p2), .val (.int p3), .unset, .unset] [(.ref b1), (.ref b1)])) _
  refine XS.iconst X1.here hx rfl (hb hby at_5) ?_
  show Steps p.tables e below (T1.setTop (mkF m 6 #[.val (.int p0), .val (.int p1), .val (.int p2), .val (.int p3), .unset, .unset] [(.int (0 : Int32)), (.ref b1), (.ref b1)])) _
  refine XS.bipush X1.here hx rfl (hb hby at_6) ?_
  show Steps p.tables e below (T1.setTop (mkF m 8 #[.val (.int p0), .val (.int p1), .val (.int p2), .val (.int p3), .unset, .unset] [(.int (45 : Int32)), (.int (0 : Int32)), (.ref b1), (.ref b1)])) _
  refine st2 _ ?_
  show Steps p.tables e below (T2.setTop (mkF m 9 #[.val (.int p0), .val (.int p1), .val (.int p2), .val (.int p3), .unset, .unset] [(.ref b1)])) _
  refine XS.dup X2.here hx rfl (hb hby at_9) rfl rfl ?_
  show Steps p.tables e below (T2.setTop (mkF m 10 #[.val (.int p0), .val (.int p1), .val (.int p2), .val (.int p3), .unset, .unset] [(.ref b1), (.ref b1)])) _
  refine XS.iconst X2.here hx rfl (hb hby at_10) ?_
  show Steps p.tables e below (T2.setTop (mkF m 11 #[.val (.int p0), .val (.int p1), .val (.int p2), .val (.int p3), .unset, .unset] [(.int (1 : Int32)), (.ref b1), (.ref b1)])) _
  refine XS.bipush X2.here hx rfl (hb hby at_11) ?_
  show Steps p.tables e below (T2.setTop (mkF m 13 #[.val (.int p0), .val (.int p1), .val (.int p2), .val (.int p3), .unset, .unset] [(.int (48 : Int32)), (.int (1 : Int32)), (.ref b1), (.ref b1)])) _
  refine st3 _ ?_
  show Steps p.tables e below (T3.setTop (mkF m 14 #[.val (.int p0), .val (.int p1), .val (.int p2), .val (.int p3), .unset, .unset] [(.ref b1)])) _
  refine XS.dup X3.here hx rfl (hb hby at_14) rfl rfl ?_
  show Steps p.tables e below (T3.setTop (mkF m 15 #[.val (.int p0), .val (.int p1), .val (.int p2), .val (.int p3), .unset, .unset] [(.ref b1), (.ref b1)])) _
  refine XS.iconst X3.here hx rfl (hb hby at_15) ?_
  show Steps p.tables e below (T3.setTop (mkF m 16 #[.val (.int p0), .val (.int p1), .val (.int p2), .val (.int p3), .unset, .unset] [(.int (2 : Int32)), (.ref b1), (.ref b1)])) _
  refine XS.bipush X3.here hx rfl (hb hby at_16) ?_
  show Steps p.tables e below (T3.setTop (mkF m 18 #[.val (.int p0), .val (.int p1), .val (.int p2), .val (.int p3), .unset, .unset] [(.int (57 : Int32)), (.int (2 : Int32)), (.ref b1), (.ref b1)])) _
  refine st4 _ ?_
  show Steps p.tables e below (T4.setTop (mkF m 19 #[.val (.int p0), .val (.int p1), .val (.int p2), .val (.int p3), .unset, .unset] [(.ref b1)])) _
  refine XS.dup X4.here hx rfl (hb hby at_19) rfl rfl ?_
  show Steps p.tables e below (T4.setTop (mkF m 20 #[.val (.int p0), .val (.int p1), .val (.int p2), .val (.int p3), .unset, .unset] [(.ref b1), (.ref b1)])) _
  refine XS.iconst X4.here hx rfl (hb hby at_20) ?_
  show Steps p.tables e below (T4.setTop (mkF m 21 #[.val (.int p0), .val (.int p1), .val (.int p2), .val (.int p3), .unset, .unset] [(.int (3 : Int32)), (.ref b1), (.ref b1)])) _
  refine XS.bipush X4.here hx rfl (hb hby at_21) ?_
  show Steps p.tables e below (T4.setTop (mkF m 23 #[.val (.int p0), .val (.int p1), .val (.int p2), .val (.int p3), .unset, .unset] [(.int (65 : Int32)), (.int (3 : Int32)), (.ref b1), (.ref b1)])) _
  refine st5 _ ?_
  show Steps p.tables e below (T5.setTop (mkF m 24 #[.val (.int p0), .val (.int p1), .val (.int p2), .val (.int p3), .unset, .unset] [(.ref b1)])) _
  refine XS.dup X5.here hx rfl (hb hby at_24) rfl rfl ?_
  show Steps p.tables e below (T5.setTop (mkF m 25 #[.val (.int p0), .val (.int p1), .val (.int p2), .val (.int p3), .unset, .unset] [(.ref b1), (.ref b1)])) _
  refine XS.iconst X5.here hx rfl (hb hby at_25) ?_
  show Steps p.tables e below (T5.setTop (mkF m 26 #[.val (.int p0), .val (.int p1), .val (.int p2), .val (.int p3), .unset, .unset] [(.int (4 : Int32)), (.ref b1), (.ref b1)])) _
  refine XS.bipush X5.here hx rfl (hb hby at_26) ?_
  show Steps p.tables e below (T5.setTop (mkF m 28 #[.val (.int p0), .val (.int p1), .val (.int p2), .val (.int p3), .unset, .unset] [(.int (90 : Int32)), (.int (4 : Int32)), (.ref b1), (.ref b1)])) _
  refine st6 _ ?_
  show Steps p.tables e below (T6.setTop (mkF m 29 #[.val (.int p0), .val (.int p1), .val (.int p2), .val (.int p3), .unset, .unset] [(.ref b1)])) _
  refine XS.dup X6.here hx rfl (hb hby at_29) rfl rfl ?_
  show Steps p.tables e below (T6.setTop (mkF m 30 #[.val (.int p0), .val (.int p1), .val (.int p2), .val (.int p3), .unset, .unset] [(.ref b1), (.ref b1)])) _
  refine XS.iconst X6.here hx rfl (hb hby at_30) ?_
  show Steps p.tables e below (T6.setTop (mkF m 31 #[.val (.int p0), .val (.int p1), .val (.int p2), .val (.int p3), .unset, .unset] [(.int (5 : Int32)), (.ref b1), (.ref b1)])) _
  refine XS.bipush X6.here hx rfl (hb hby at_31) ?_
  show Steps p.tables e below (T6.setTop (mkF m 33 #[.val (.int p0), .val (.int p1), .val (.int p2), .val (.int p3), .unset, .unset] [(.int (95 : Int32)), (.int (5 : Int32)), (.ref b1), (.ref b1)])) _
  refine st7 _ ?_
  show Steps p.tables e below (T7.setTop (mkF m 34 #[.val (.int p0), .val (.int p1), .val (.int p2), .val (.int p3), .unset, .unset] [(.ref b1)])) _
  refine XS.dup X7.here hx rfl (hb hby at_34) rfl rfl ?_
  show Steps p.tables e below (T7.setTop (mkF m 35 #[.val (.int p0), .val (.int p1), .val (.int p2), .val (.int p3), .unset, .unset] [(.ref b1), (.ref b1)])) _
  refine XS.bipush X7.here hx rfl (hb hby at_35) ?_
  show Steps p.tables e below (T7.setTop (mkF m 37 #[.val (.int p0), .val (.int p1), .val (.int p2), .val (.int p3), .unset, .unset] [(.int (6 : Int32)), (.ref b1), (.ref b1)])) _
  refine XS.bipush X7.here hx rfl (hb hby at_37) ?_
  show Steps p.tables e below (T7.setTop (mkF m 39 #[.val (.int p0), .val (.int p1), .val (.int p2), .val (.int p3), .unset, .unset] [(.int (97 : Int32)), (.int (6 : Int32)), (.ref b1), (.ref b1)])) _
  refine st8 _ ?_
  show Steps p.tables e below (T8.setTop (mkF m 40 #[.val (.int p0), .val (.int p1), .val (.int p2), .val (.int p3), .unset, .unset] [(.ref b1)])) _
  refine XS.dup X8.here hx rfl (hb hby at_40) rfl rfl ?_
  show Steps p.tables e below (T8.setTop (mkF m 41 #[.val (.int p0), .val (.int p1), .val (.int p2), .val (.int p3), .unset, .unset] [(.ref b1), (.ref b1)])) _
  refine XS.bipush X8.here hx rfl (hb hby at_41) ?_
  show Steps p.tables e below (T8.setTop (mkF m 43 #[.val (.int p0), .val (.int p1), .val (.int p2), .val (.int p3), .unset, .unset] [(.int (7 : Int32)), (.ref b1), (.ref b1)])) _
  refine XS.bipush X8.here hx rfl (hb hby at_43) ?_
  show Steps p.tables e below (T8.setTop (mkF m 45 #[.val (.int p0), .val (.int p1), .val (.int p2), .val (.int p3), .unset, .unset] [(.int (122 : Int32)), (.int (7 : Int32)), (.ref b1), (.ref b1)])) _
  refine st9 _ ?_
  show Steps p.tables e below (T9.setTop (mkF m 46 #[.val (.int p0), .val (.int p1), .val (.int p2), .val (.int p3), .unset, .unset] [(.ref b1)])) _
  refine XS.dup X9.here hx rfl (hb hby at_46) rfl rfl ?_
  show Steps p.tables e below (T9.setTop (mkF m 47 #[.val (.int p0), .val (.int p1), .val (.int p2), .val (.int p3), .unset, .unset] [(.ref b1), (.ref b1)])) _
  refine XS.bipush X9.here hx rfl (hb hby at_47) ?_
  show Steps p.tables e below (T9.setTop (mkF m 49 #[.val (.int p0), .val (.int p1), .val (.int p2), .val (.int p3), .unset, .unset] [(.int (8 : Int32)), (.ref b1), (.ref b1)])) _
  refine XS.sipush X9.here hx rfl (hb hby at_49) ?_
  show Steps p.tables e below (T9.setTop (mkF m 52 #[.val (.int p0), .val (.int p1), .val (.int p2), .val (.int p3), .unset, .unset] [(.int (183 : Int32)), (.int (8 : Int32)), (.ref b1), (.ref b1)])) _
  refine st10 _ ?_
  show Steps p.tables e below (T10.setTop (mkF m 53 #[.val (.int p0), .val (.int p1), .val (.int p2), .val (.int p3), .unset, .unset] [(.ref b1)])) _
  refine XS.dup X10.here hx rfl (hb hby at_53) rfl rfl ?_
  show Steps p.tables e below (T10.setTop (mkF m 54 #[.val (.int p0), .val (.int p1), .val (.int p2), .val (.int p3), .unset, .unset] [(.ref b1), (.ref b1)])) _
  refine XS.bipush X10.here hx rfl (hb hby at_54) ?_
  show Steps p.tables e below (T10.setTop (mkF m 56 #[.val (.int p0), .val (.int p1), .val (.int p2), .val (.int p3), .unset, .unset] [(.int (9 : Int32)), (.ref b1), (.ref b1)])) _
  refine XS.sipush X10.here hx rfl (hb hby at_56) ?_
  show Steps p.tables e below (T10.setTop (mkF m 59 #[.val (.int p0), .val (.int p1), .val (.int p2), .val (.int p3), .unset, .unset] [(.int (192 : Int32)), (.int (9 : Int32)), (.ref b1), (.ref b1)])) _
  refine st11 _ ?_
  show Steps p.tables e below (T11.setTop (mkF m 60 #[.val (.int p0), .val (.int p1), .val (.int p2), .val (.int p3), .unset, .unset] [(.ref b1)])) _
  refine XS.dup X11.here hx rfl (hb hby at_60) rfl rfl ?_
  show Steps p.tables e below (T11.setTop (mkF m 61 #[.val (.int p0), .val (.int p1), .val (.int p2), .val (.int p3), .unset, .unset] [(.ref b1), (.ref b1)])) _
  refine XS.bipush X11.here hx rfl (hb hby at_61) ?_
  show Steps p.tables e below (T11.setTop (mkF m 63 #[.val (.int p0), .val (.int p1), .val (.int p2), .val (.int p3), .unset, .unset] [(.int (10 : Int32)), (.ref b1), (.ref b1)])) _
  refine XS.sipush X11.here hx rfl (hb hby at_63) ?_
  show Steps p.tables e below (T11.setTop (mkF m 66 #[.val (.int p0), .val (.int p1), .val (.int p2), .val (.int p3), .unset, .unset] [(.int (214 : Int32)), (.int (10 : Int32)), (.ref b1), (.ref b1)])) _
  refine st12 _ ?_
  show Steps p.tables e below (T12.setTop (mkF m 67 #[.val (.int p0), .val (.int p1), .val (.int p2), .val (.int p3), .unset, .unset] [(.ref b1)])) _
  refine XS.dup X12.here hx rfl (hb hby at_67) rfl rfl ?_
  show Steps p.tables e below (T12.setTop (mkF m 68 #[.val (.int p0), .val (.int p1), .val (.int p2), .val (.int p3), .unset, .unset] [(.ref b1), (.ref b1)])) _
  refine XS.bipush X12.here hx rfl (hb hby at_68) ?_
  show Steps p.tables e below (T12.setTop (mkF m 70 #[.val (.int p0), .val (.int p1), .val (.int p2), .val (.int p3), .unset, .unset] [(.int (11 : Int32)), (.ref b1), (.ref b1)])) _
  refine XS.sipush X12.here hx rfl (hb hby at_70) ?_
  show Steps p.tables e below (T12.setTop (mkF m 73 #[.val (.int p0), .val (.int p1), .val (.int p2), .val (.int p3), .unset, .unset] [(.int (216 : Int32)), (.int (11 : Int32)), (.ref b1), (.ref b1)])) _
  refine st13 _ ?_
  show Steps p.tables e below (T13.setTop (mkF m 74 #[.val (.int p0), .val (.int p1), .val (.int p2), .val (.int p3), .unset, .unset] [(.ref b1)])) _
  refine XS.dup X13.here hx rfl (hb hby at_74) rfl rfl ?_
  show Steps p.tables e below (T13.setTop (mkF m 75 #[.val (.int p0), .val (.int p1), .val (.int p2), .val (.int p3), .unset, .unset] [(.ref b1), (.ref b1)])) _
  refine XS.bipush X13.here hx rfl (hb hby at_75) ?_
  show Steps p.tables e below (T13.setTop (mkF m 77 #[.val (.int p0), .val (.int p1), .val (.int p2), .val (.int p3), .unset, .unset] [(.int (12 : Int32)), (.ref b1), (.ref b1)])) _
  refine XS.sipush X13.here hx rfl (hb hby at_77) ?_
  show Steps p.tables e below (T13.setTop (mkF m 80 #[.val (.int p0), .val (.int p1), .val (.int p2), .val (.int p3), .unset, .unset] [(.int (246 : Int32)), (.int (12 : Int32)), (.ref b1), (.ref b1)])) _
  refine st14 _ ?_
  show Steps p.tables e below (T14.setTop (mkF m 81 #[.val (.int p0), .val (.int p1), .val (.int p2), .val (.int p3), .unset, .unset] [(.ref b1)])) _
  refine XS.dup X14.here hx rfl (hb hby at_81) rfl rfl ?_
  show Steps p.tables e below (T14.setTop (mkF m 82 #[.val (.int p0), .val (.int p1), .val (.int p2), .val (.int p3), .unset, .unset] [(.ref b1), (.ref b1)])) _
  refine XS.bipush X14.here hx rfl (hb hby at_82) ?_
  show Steps p.tables e below (T14.setTop (mkF m 84 #[.val (.int p0), .val (.int p1), .val (.int p2), .val (.int p3), .unset, .unset] [(.int (13 : Int32)), (.ref b1), (.ref b1)])) _
  refine XS.sipush X14.here hx rfl (hb hby at_84) ?_
  show Steps p.tables e below (T14.setTop (mkF m 87 #[.val (.int p0), .val (.int p1), .val (.int p2), .val (.int p3), .unset, .unset] [(.int (248 : Int32)), (.int (13 : Int32)), (.ref b1), (.ref b1)])) _
  refine st15 _ ?_
  show Steps p.tables e below (T15.setTop (mkF m 88 #[.val (.int p0), .val (.int p1), .val (.int p2), .val (.int p3), .unset, .unset] [(.ref b1)])) _
  refine XS.dup X15.here hx rfl (hb hby at_88) rfl rfl ?_
  show Steps p.tables e below (T15.setTop (mkF m 89 #[.val (.int p0), .val (.int p1), .val (.int p2), .val (.int p3), .unset, .unset] [(.ref b1), (.ref b1)])) _
  refine XS.bipush X15.here hx rfl (hb hby at_89) ?_
  show Steps p.tables e below (T15.setTop (mkF m 91 #[.val (.int p0), .val (.int p1), .val (.int p2), .val (.int p3), .unset, .unset] [(.int (14 : Int32)), (.ref b1), (.ref b1)])) _
  refine XS.sipush X15.here hx rfl (hb hby at_91) ?_
  show Steps p.tables e below (T15.setTop (mkF m 94 #[.val (.int p0), .val (.int p1), .val (.int p2), .val (.int p3), .unset, .unset] [(.int (767 : Int32)), (.int (14 : Int32)), (.ref b1), (.ref b1)])) _
  refine st16 _ ?_
  show Steps p.tables e below (T16.setTop (mkF m 95 #[.val (.int p0), .val (.int p1), .val (.int p2), .val (.int p3), .unset, .unset] [(.ref b1)])) _
  refine XS.dup X16.here hx rfl (hb hby at_95) rfl rfl ?_
  show Steps p.tables e below (T16.setTop (mkF m 96 #[.val (.int p0), .val (.int p1), .val (.int p2), .val (.int p3), .unset, .unset] [(.ref b1), (.ref b1)])) _
  refine XS.bipush X16.here hx rfl (hb hby at_96) ?_
  show Steps p.tables e below (T16.setTop (mkF m 98 #[.val (.int p0), .val (.int p1), .val (.int p2), .val (.int p3), .unset, .unset] [(.int (15 : Int32)), (.ref b1), (.ref b1)])) _
  refine XS.sipush X16.here hx rfl (hb hby at_98) ?_
  show Steps p.tables e below (T16.setTop (mkF m 101 #[.val (.int p0), .val (.int p1), .val (.int p2), .val (.int p3), .unset, .unset] [(.int (768 : Int32)), (.int (15 : Int32)), (.ref b1), (.ref b1)])) _
  refine st17 _ ?_
  show Steps p.tables e below (T17.setTop (mkF m 102 #[.val (.int p0), .val (.int p1), .val (.int p2), .val (.int p3), .unset, .unset] [(.ref b1)])) _
  refine XS.dup X17.here hx rfl (hb hby at_102) rfl rfl ?_
  show Steps p.tables e below (T17.setTop (mkF m 103 #[.val (.int p0), .val (.int p1), .val (.int p2), .val (.int p3), .unset, .unset] [(.ref b1), (.ref b1)])) _
  refine XS.bipush X17.here hx rfl (hb hby at_103) ?_
  show Steps p.tables e below (T17.setTop (mkF m 105 #[.val (.int p0), .val (.int p1), .val (.int p2), .val (.int p3), .unset, .unset] [(.int (16 : Int32)), (.ref b1), (.ref b1)])) _
  refine XS.sipush X17.here hx rfl (hb hby at_105) ?_
  show Steps p.tables e below (T17.setTop (mkF m 108 #[.val (.int p0), .val (.int p1), .val (.int p2), .val (.int p3), .unset, .unset] [(.int (879 : Int32)), (.int (16 : Int32)), (.ref b1), (.ref b1)])) _
  refine st18 _ ?_
  show Steps p.tables e below (T18.setTop (mkF m 109 #[.val (.int p0), .val (.int p1), .val (.int p2), .val (.int p3), .unset, .unset] [(.ref b1)])) _
  refine XS.dup X18.here hx rfl (hb hby at_109) rfl rfl ?_
  show Steps p.tables e below (T18.setTop (mkF m 110 #[.val (.int p0), .val (.int p1), .val (.int p2), .val (.int p3), .unset, .unset] [(.ref b1), (.ref b1)])) _
  refine XS.bipush X18.here hx rfl (hb hby at_110) ?_
  show Steps p.tables e below (T18.setTop (mkF m 112 #[.val (.int p0), .val (.int p1), .val (.int p2), .val (.int p3), .unset, .unset] [(.int (17 : Int32)), (.ref b1), (.ref b1)])) _
  refine XS.sipush X18.here hx rfl (hb hby at_112) ?_
  show Steps p.tables e below (T18.setTop (mkF m 115 #[.val (.int p0), .val (.int p1), .val (.int p2), .val (.int p3), .unset, .unset] [(.int (880 : Int32)), (.int (17 : Int32)), (.ref b1), (.ref b1)])) _
  refine st19 _ ?_
  show Steps p.tables e below (T19.setTop (mkF m 116 #[.val (.int p0), .val (.int p1), .val (.int p2), .val (.int p3), .unset, .unset] [(.ref b1)])) _
  refine XS.dup X19.here hx rfl (hb hby at_116) rfl rfl ?_
  show Steps p.tables e below (T19.setTop (mkF m 117 #[.val (.int p0), .val (.int p1), .val (.int p2), .val (.int p3), .unset, .unset] [(.ref b1), (.ref b1)])) _
  refine XS.bipush X19.here hx rfl (hb hby at_117) ?_
  show Steps p.tables e below (T19.setTop (mkF m 119 #[.val (.int p0), .val (.int p1), .val (.int p2), .val (.int p3), .unset, .unset] [(.int (18 : Int32)), (.ref b1), (.ref b1)])) _
  refine XS.sipush X19.here hx rfl (hb hby at_119) ?_
  show Steps p.tables e below (T19.setTop (mkF m 122 #[.val (.int p0), .val (.int p1), .val (.int p2), .val (.int p3), .unset, .unset] [(.int (893 : Int32)), (.int (18 : Int32)), (.ref b1), (.ref b1)])) _
  refine st20 _ ?_
  show Steps p.tables e below (T20.setTop (mkF m 123 #[.val (.int p0), .val (.int p1), .val (.int p2), .val (.int p3), .unset, .unset] [(.ref b1)])) _
  refine XS.dup X20.here hx rfl (hb hby at_123) rfl rfl ?_
  show Steps p.tables e below (T20.setTop (mkF m 124 #[.val (.int p0), .val (.int p1), .val (.int p2), .val (.int p3), .unset, .unset] [(.ref b1), (.ref b1)])) _
  refine XS.bipush X20.here hx rfl (hb hby at_124) ?_
  show Steps p.tables e below (T20.setTop (mkF m 126 #[.val (.int p0), .val (.int p1), .val (.int p2), .val (.int p3), .unset, .unset] [(.int (19 : Int32)), (.ref b1), (.ref b1)])) _
  refine XS.sipush X20.here hx rfl (hb hby at_126) ?_
  show Steps p.tables e below (T20.setTop (mkF m 129 #[.val (.int p0), .val (.int p1), .val (.int p2), .val (.int p3), .unset, .unset] [(.int (895 : Int32)), (.int (19 : Int32)), (.ref b1), (.ref b1)])) _
  refine st21 _ ?_
  show Steps p.tables e below (T21.setTop (mkF m 130 #[.val (.int p0), .val (.int p1), .val (.int p2), .val (.int p3), .unset, .unset] [(.ref b1)])) _
  refine XS.dup X21.here hx rfl (hb hby at_130) rfl rfl ?_
  show Steps p.tables e below (T21.setTop (mkF m 131 #[.val (.int p0), .val (.int p1), .val (.int p2), .val (.int p3), .unset, .unset] [(.ref b1), (.ref b1)])) _
  refine XS.bipush X21.here hx rfl (hb hby at_131) ?_
  show Steps p.tables e below (T21.setTop (mkF m 133 #[.val (.int p0), .val (.int p1), .val (.int p2), .val (.int p3), .unset, .unset] [(.int (20 : Int32)), (.ref b1), (.ref b1)])) _
  refine XS.sipush X21.here hx rfl (hb hby at_133) ?_
  show Steps p.tables e below (T21.setTop (mkF m 136 #[.val (.int p0), .val (.int p1), .val (.int p2), .val (.int p3), .unset, .unset] [(.int (8191 : Int32)), (.int (20 : Int32)), (.ref b1), (.ref b1)])) _
  refine st22 _ ?_
  show Steps p.tables e below (T22.setTop (mkF m 137 #[.val (.int p0), .val (.int p1), .val (.int p2), .val (.int p3), .unset, .unset] [(.ref b1)])) _
  refine XS.dup X22.here hx rfl (hb hby at_137) rfl rfl ?_
  show Steps p.tables e below (T22.setTop (mkF m 138 #[.val (.int p0), .val (.int p1), .val (.int p2), .val (.int p3), .unset, .unset] [(.ref b1), (.ref b1)])) _
  refine XS.bipush X22.here hx rfl (hb hby at_138) ?_
  show Steps p.tables e below (T22.setTop (mkF m 140 #[.val (.int p0), .val (.int p1), .val (.int p2), .val (.int p3), .unset, .unset] [(.int (21 : Int32)), (.ref b1), (.ref b1)])) _
  refine XS.sipush X22.here hx rfl (hb hby at_140) ?_
  show Steps p.tables e below (T22.setTop (mkF m 143 #[.val (.int p0), .val (.int p1), .val (.int p2), .val (.int p3), .unset, .unset] [(.int (8204 : Int32)), (.int (21 : Int32)), (.ref b1), (.ref b1)])) _
  refine st23 _ ?_
  show Steps p.tables e below (T23.setTop (mkF m 144 #[.val (.int p0), .val (.int p1), .val (.int p2), .val (.int p3), .unset, .unset] [(.ref b1)])) _
  refine XS.dup X23.here hx rfl (hb hby at_144) rfl rfl ?_
  show Steps p.tables e below (T23.setTop (mkF m 145 #[.val (.int p0), .val (.int p1), .val (.int p2), .val (.int p3), .unset, .unset] [(.ref b1), (.ref b1)])) _
  refine XS.bipush X23.here hx rfl (hb hby at_145) ?_
  show Steps p.tables e below (T23.setTop (mkF m 147 #[.val (.int p0), .val (.int p1), .val (.int p2), .val (.int p3), .unset, .unset] [(.int (22 : Int32)), (.ref b1), (.ref b1)])) _
  refine XS.sipush X23.here hx rfl (hb hby at_147) ?_
  show Steps p.tables e below (T23.setTop (mkF m 150 #[.val (.int p0), .val (.int p1), .val (.int p2), .val (.int p3), .unset, .unset] [(.int (8205 : Int32)), (.int (22 : Int32)), (.ref b1), (.ref b1)])) _
  refine st24 _ ?_
  show Steps p.tables e below (T24.setTop (mkF m 151 #[.val (.int p0), .val (.int p1), .val (.int p2), .val (.int p3), .unset, .unset] [(.ref b1)])) _
  refine XS.dup X24.here hx rfl (hb hby at_151) rfl rfl ?_
  show Steps p.tables e below (T24.setTop (mkF m 152 #[.val (.int p0), .val (.int p1), .val (.int p2), .val (.int p3), .unset, .unset] [(.ref b1), (.ref b1)])) _
  refine XS.bipush X24.here hx rfl (hb hby at_152) ?_
  show Steps p.tables e below (T24.setTop (mkF m 154 #[.val (.int p0), .val (.int p1), .val (.int p2), .val (.int p3), .unset, .unset] [(.int (23 : Int32)), (.ref b1), (.ref b1)])) _
  refine XS.sipush X24.here hx rfl (hb hby at_154) ?_
  show Steps p.tables e below (T24.setTop (mkF m 157 #[.val (.int p0), .val (.int p1), .val (.int p2), .val (.int p3), .unset, .unset] [(.int (8255 : Int32)), (.int (23 : Int32)), (.ref b1), (.ref b1)])) _
  refine st25 _ ?_
  show Steps p.tables e below (T25.setTop (mkF m 158 #[.val (.int p0), .val (.int p1), .val (.int p2), .val (.int p3), .unset, .unset] [(.ref b1)])) _
  refine XS.dup X25.here hx rfl (hb hby at_158) rfl rfl ?_
  show Steps p.tables e below (T25.setTop (mkF m 159 #[.val (.int p0), .val (.int p1), .val (.int p2), .val (.int p3), .unset, .unset] [(.ref b1), (.ref b1)])) _
  refine XS.bipush X25.here hx rfl (hb hby at_159) ?_
  show Steps p.tables e below (T25.setTop (mkF m 161 #[.val (.int p0), .val (.int p1), .val (.int p2), .val (.int p3), .unset, .unset] [(.int (24 : Int32)), (.ref b1), (.ref b1)])) _
  refine XS.sipush X25.here hx rfl (hb hby at_161) ?_
  show Steps p.tables e below (T25.setTop (mkF m 164 #[.val (.int p0), .val (.int p1), .val (.int p2), .val (.int p3), .unset, .unset] [(.int (8256 : Int32)), (.int (24 : Int32)), (.ref b1), (.ref b1)])) _
  refine st26 _ ?_
  show Steps p.tables e below (T26.setTop (mkF m 165 #[.val (.int p0), .val (.int p1), .val (.int p2), .val (.int p3), .unset, .unset] [(.ref b1)])) _
  refine XS.dup X26.here hx rfl (hb hby at_165) rfl rfl ?_
  show Steps p.tables e below (T26.setTop (mkF m 166 #[.val (.int p0), .val (.int p1), .val (.int p2), .val (.int p3), .unset, .unset] [(.ref b1), (.ref b1)])) _
  refine XS.bipush X26.here hx rfl (hb hby at_166) ?_
  show Steps p.tables e below (T26.setTop (mkF m 168 #[.val (.int p0), .val (.int p1), .val (.int p2), .val (.int p3), .unset, .unset] [(.int (25 : Int32)), (.ref b1), (.ref b1)])) _
  refine XS.sipush X26.here hx rfl (hb hby at_168) ?_
  show Steps p.tables e below (T26.setTop (mkF m 171 #[.val (.int p0), .val (.int p1), .val (.int p2), .val (.int p3), .unset, .unset] [(.int (8304 : Int32)), (.int (25 : Int32)), (.ref b1), (.ref b1)])) _
  refine st27 _ ?_
  show Steps p.tables e below (T27.setTop (mkF m 172 #[.val (.int p0), .val (.int p1), .val (.int p2), .val (.int p3), .unset, .unset] [(.ref b1)])) _
  refine XS.dup X27.here hx rfl (hb hby at_172) rfl rfl ?_
  show Steps p.tables e below (T27.setTop (mkF m 173 #[.val (.int p0), .val (.int p1), .val (.int p2), .val (.int p3), .unset, .unset] [(.ref b1), (.ref b1)])) _
  refine XS.bipush X27.here hx rfl (hb hby at_173) ?_
  show Steps p.tables e below (T27.setTop (mkF m 175 #[.val (.int p0), .val (.int p1), .val (.int p2), .val (.int p3), .unset, .unset] [(.int (26 : Int32)), (.ref b1), (.ref b1)])) _
  refine XS.sipush X27.here hx rfl (hb hby at_175) ?_
  show Steps p.tables e below (T27.setTop (mkF m 178 #[.val (.int p0), .val (.int p1), .val (.int p2), .val (.int p3), .unset, .unset] [(.int (8591 : Int32)), (.int (26 : Int32)), (.ref b1), (.ref b1)])) _
  refine st28 _ ?_
  show Steps p.tables e below (T28.setTop (mkF m 179 #[.val (.int p0), .val (.int p1), .val (.int p2), .val (.int p3), .unset, .unset] [(.ref b1)])) _
  refine XS.dup X28.here hx rfl (hb hby at_179) rfl rfl ?_
  show Steps p.tables e below (T28.setTop (mkF m 180 #[.val (.int p0), .val (.int p1), .val (.int p2), .val (.int p3), .unset, .unset] [(.ref b1), (.ref b1)])) _
  refine XS.bipush X28.here hx rfl (hb hby at_180) ?_
  show Steps p.tables e below (T28.setTop (mkF m 182 #[.val (.int p0), .val (.int p1), .val (.int p2), .val (.int p3), .unset, .unset] [(.int (27 : Int32)), (.ref b1), (.ref b1)])) _
  refine XS.sipush X28.here hx rfl (hb hby at_182) ?_
  show Steps p.tables e below (T28.setTop (mkF m 185 #[.val (.int p0), .val (.int p1), .val (.int p2), .val (.int p3), .unset, .unset] [(.int (11264 : Int32)), (.int (27 : Int32)), (.ref b1), (.ref b1)])) _
  refine st29 _ ?_
  show Steps p.tables e below (T29.setTop (mkF m 186 #[.val (.int p0), .val (.int p1), .val (.int p2), .val (.int p3), .unset, .unset] [(.ref b1)])) _
  refine XS.dup X29.here hx rfl (hb hby at_186) rfl rfl ?_
  show Steps p.tables e below (T29.setTop (mkF m 187 #[.val (.int p0), .val (.int p1), .val (.int p2), .val (.int p3), .unset, .unset] [(.ref b1), (.ref b1)])) _
  refine XS.bipush X29.here hx rfl (hb hby at_187) ?_
  show Steps p.tables e below (T29.setTop (mkF m 189 #[.val (.int p0), .val (.int p1), .val (.int p2), .val (.int p3), .unset, .unset] [(.int (28 : Int32)), (.ref b1), (.ref b1)])) _
  refine XS.sipush X29.here hx rfl (hb hby at_189) ?_
  show Steps p.tables e below (T29.setTop (mkF m 192 #[.val (.int p0), .val (.int p1), .val (.int p2), .val (.int p3), .unset, .unset] [(.int (12271 : Int32)), (.int (28 : Int32)), (.ref b1), (.ref b1)])) _
  refine st30 _ ?_
  show Steps p.tables e below (T30.setTop (mkF m 193 #[.val (.int p0), .val (.int p1), .val (.int p2), .val (.int p3), .unset, .unset] [(.ref b1)])) _
  refine XS.dup X30.here hx rfl (hb hby at_193) rfl rfl ?_
  show Steps p.tables e below (T30.setTop (mkF m 194 #[.val (.int p0), .val (.int p1), .val (.int p2), .val (.int p3), .unset, .unset] [(.ref b1), (.ref b1)])) _
  refine XS.bipush X30.here hx rfl (hb hby at_194) ?_
  show Steps p.tables e below (T30.setTop (mkF m 196 #[.val (.int p0), .val (.int p1), .val (.int p2), .val (.int p3), .unset, .unset] [(.int (29 : Int32)), (.ref b1), (.ref b1)])) _
  refine XS.sipush X30.here hx rfl (hb hby at_196) ?_
  show Steps p.tables e below (T30.setTop (mkF m 199 #[.val (.int p0), .val (.int p1), .val (.int p2), .val (.int p3), .unset, .unset] [(.int (12289 : Int32)), (.int (29 : Int32)), (.ref b1), (.ref b1)])) _
  refine st31 _ ?_
  show Steps p.tables e below (T31.setTop (mkF m 200 #[.val (.int p0), .val (.int p1), .val (.int p2), .val (.int p3), .unset, .unset] [(.ref b1)])) _
  refine XS.dup X31.here hx rfl (hb hby at_200) rfl rfl ?_
  show Steps p.tables e below (T31.setTop (mkF m 201 #[.val (.int p0), .val (.int p1), .val (.int p2), .val (.int p3), .unset, .unset] [(.ref b1), (.ref b1)])) _
  refine XS.bipush X31.here hx rfl (hb hby at_201) ?_
  show Steps p.tables e below (T31.setTop (mkF m 203 #[.val (.int p0), .val (.int p1), .val (.int p2), .val (.int p3), .unset, .unset] [(.int (30 : Int32)), (.ref b1), (.ref b1)])) _
  refine X31.ldcInt hx hown (mvT hZ (hw _ (List.mem_of_getElem? (i := 1) rfl))) (g := (mkF m 203 #[.val (.int p0), .val (.int p1), .val (.int p2), .val (.int p3), .unset, .unset] [(.int (30 : Int32)), (.ref b1), (.ref b1)])) rfl (hb hby at_203) _ ?_
  show Steps p.tables e below (T31.setTop (mkF m 205 #[.val (.int p0), .val (.int p1), .val (.int p2), .val (.int p3), .unset, .unset] [(.int (55295 : Int32)), (.int (30 : Int32)), (.ref b1), (.ref b1)])) _
  refine st32 _ ?_
  show Steps p.tables e below (T32.setTop (mkF m 206 #[.val (.int p0), .val (.int p1), .val (.int p2), .val (.int p3), .unset, .unset] [(.ref b1)])) _
  refine XS.dup X32.here hx rfl (hb hby at_206) rfl rfl ?_
  show Steps p.tables e below (T32.setTop (mkF m 207 #[.val (.int p0), .val (.int p1), .val (.int p2), .val (.int p3), .unset, .unset] [(.ref b1), (.ref b1)])) _
  refine XS.bipush X32.here hx rfl (hb hby at_207) ?_
  show Steps p.tables e below (T32.setTop (mkF m 209 #[.val (.int p0), .val (.int p1), .val (.int p2), .val (.int p3), .unset, .unset] [(.int (31 : Int32)), (.ref b1), (.ref b1)])) _
  refine X32.ldcInt hx hown (mvT hZ (hw _ (List.mem_of_getElem? (i := 2) rfl))) (g := (mkF m 209 #[.val (.int p0), .val (.int p1), .val (.int p2), .val (.int p3), .unset, .unset] [(.int (31 : Int32)), (.ref b1), (.ref b1)])) rfl (hb hby at_209) _ ?_
  show Steps p.tables e below (T32.setTop (mkF m 211 #[.val (.int p0), .val (.int p1), .val (.int p2), .val (.int p3), .unset, .unset] [(.int (63744 : Int32)), (.int (31 : Int32)), (.ref b1), (.ref b1)])) _
  refine st33 _ ?_
  show Steps p.tables e below (T33.setTop (mkF m 212 #[.val (.int p0), .val (.int p1), .val (.int p2), .val (.int p3), .unset, .unset] [(.ref b1)])) _
  refine XS.dup X33.here hx rfl (hb hby at_212) rfl rfl ?_
  show Steps p.tables e below (T33.setTop (mkF m 213 #[.val (.int p0), .val (.int p1), .val (.int p2), .val (.int p3), .unset, .unset] [(.ref b1), (.ref b1)])) _
  refine XS.bipush X33.here hx rfl (hb hby at_213) ?_
  show Steps p.tables e below (T33.setTop (mkF m 215 #[.val (.int p0), .val (.int p1), .val (.int p2), .val (.int p3), .unset, .unset] [(.int (32 : Int32)), (.ref b1), (.ref b1)])) _
  refine X33.ldcInt hx hown (mvT hZ (hw _ (List.mem_of_getElem? (i := 3) rfl))) (g := (mkF m 215 #[.val (.int p0), .val (.int p1), .val (.int p2), .val (.int p3), .unset, .unset] [(.int (32 : Int32)), (.ref b1), (.ref b1)])) rfl (hb hby at_215) _ ?_
  show Steps p.tables e below (T33.setTop (mkF m 217 #[.val (.int p0), .val (.int p1), .val (.int p2), .val (.int p3), .unset, .unset] [(.int (64975 : Int32)), (.int (32 : Int32)), (.ref b1), (.ref b1)])) _
  refine st34 _ ?_
  show Steps p.tables e below (T34.setTop (mkF m 218 #[.val (.int p0), .val (.int p1), .val (.int p2), .val (.int p3), .unset, .unset] [(.ref b1)])) _
  refine XS.dup X34.here hx rfl (hb hby at_218) rfl rfl ?_
  show Steps p.tables e below (T34.setTop (mkF m 219 #[.val (.int p0), .val (.int p1), .val (.int p2), .val (.int p3), .unset, .unset] [(.ref b1), (.ref b1)])) _
  refine XS.bipush X34.here hx rfl (hb hby at_219) ?_
  show Steps p.tables e below (T34.setTop (mkF m 221 #[.val (.int p0), .val (.int p1), .val (.int p2), .val (.int p3), .unset, .unset] [(.int (33 : Int32)), (.ref b1), (.ref b1)])) _
  refine X34.ldcInt hx hown (mvT hZ (hw _ (List.mem_of_getElem? (i := 4) rfl))) (g := (mkF m 221 #[.val (.int p0), .val (.int p1), .val (.int p2), .val (.int p3), .unset, .unset] [(.int (33 : Int32)), (.ref b1), (.ref b1)])) rfl (hb hby at_221) _ ?_
  show Steps p.tables e below (T34.setTop (mkF m 223 #[.val (.int p0), .val (.int p1), .val (.int p2), .val (.int p3), .unset, .unset] [(.int (65008 : Int32)), (.int (33 : Int32)), (.ref b1), (.ref b1)])) _
  refine st35 _ ?_
  show Steps p.tables e below (T35.setTop (mkF m 224 #[.val (.int p0), .val (.int p1), .val (.int p2), .val (.int p3), .unset, .unset] [(.ref b1)])) _
  refine XS.dup X35.here hx rfl (hb hby at_224) rfl rfl ?_
  show Steps p.tables e below (T35.setTop (mkF m 225 #[.val (.int p0), .val (.int p1), .val (.int p2), .val (.int p3), .unset, .unset] [(.ref b1), (.ref b1)])) _
  refine XS.bipush X35.here hx rfl (hb hby at_225) ?_
  show Steps p.tables e below (T35.setTop (mkF m 227 #[.val (.int p0), .val (.int p1), .val (.int p2), .val (.int p3), .unset, .unset] [(.int (34 : Int32)), (.ref b1), (.ref b1)])) _
  refine X35.ldcInt hx hown (mvT hZ (hw _ (List.mem_of_getElem? (i := 5) rfl))) (g := (mkF m 227 #[.val (.int p0), .val (.int p1), .val (.int p2), .val (.int p3), .unset, .unset] [(.int (34 : Int32)), (.ref b1), (.ref b1)])) rfl (hb hby at_227) _ ?_
  show Steps p.tables e below (T35.setTop (mkF m 229 #[.val (.int p0), .val (.int p1), .val (.int p2), .val (.int p3), .unset, .unset] [(.int (65533 : Int32)), (.int (34 : Int32)), (.ref b1), (.ref b1)])) _
  refine st36 _ ?_
  show Steps p.tables e below (T36.setTop (mkF m 230 #[.val (.int p0), .val (.int p1), .val (.int p2), .val (.int p3), .unset, .unset] [(.ref b1)])) _
  refine XS.dup X36.here hx rfl (hb hby at_230) rfl rfl ?_
  show Steps p.tables e below (T36.setTop (mkF m 231 #[.val (.int p0), .val (.int p1), .val (.int p2), .val (.int p3), .unset, .unset] [(.ref b1), (.ref b1)])) _
  refine XS.bipush X36.here hx rfl (hb hby at_231) ?_
  show Steps p.tables e below (T36.setTop (mkF m 233 #[.val (.int p0), .val (.int p1), .val (.int p2), .val (.int p3), .unset, .unset] [(.int (35 : Int32)), (.ref b1), (.ref b1)])) _
  refine X36.ldcInt hx hown (mvT hZ (hw _ (List.mem_of_getElem? (i := 6) rfl))) (g := (mkF m 233 #[.val (.int p0), .val (.int p1), .val (.int p2), .val (.int p3), .unset, .unset] [(.int (35 : Int32)), (.ref b1), (.ref b1)])) rfl (hb hby at_233) _ ?_
  show Steps p.tables e below (T36.setTop (mkF m 235 #[.val (.int p0), .val (.int p1), .val (.int p2), .val (.int p3), .unset, .unset] [(.int (65536 : Int32)), (.int (35 : Int32)), (.ref b1), (.ref b1)])) _
  refine st37 _ ?_
  show Steps p.tables e below (T37.setTop (mkF m 236 #[.val (.int p0), .val (.int p1), .val (.int p2), .val (.int p3), .unset, .unset] [(.ref b1)])) _
  refine XS.dup X37.here hx rfl (hb hby at_236) rfl rfl ?_
  show Steps p.tables e below (T37.setTop (mkF m 237 #[.val (.int p0), .val (.int p1), .val (.int p2), .val (.int p3), .unset, .unset] [(.ref b1), (.ref b1)])) _
  refine XS.bipush X37.here hx rfl (hb hby at_237) ?_
  show Steps p.tables e below (T37.setTop (mkF m 239 #[.val (.int p0), .val (.int p1), .val (.int p2), .val (.int p3), .unset, .unset] [(.int (36 : Int32)), (.ref b1), (.ref b1)])) _
  refine X37.ldcInt hx hown (mvT hZ (hw _ (List.mem_of_getElem? (i := 7) rfl))) (g := (mkF m 239 #[.val (.int p0), .val (.int p1), .val (.int p2), .val (.int p3), .unset, .unset] [(.int (36 : Int32)), (.ref b1), (.ref b1)])) rfl (hb hby at_239) _ ?_
  show Steps p.tables e below (T37.setTop (mkF m 241 #[.val (.int p0), .val (.int p1), .val (.int p2), .val (.int p3), .unset, .unset] [(.int (983039 : Int32)), (.int (36 : Int32)), (.ref b1), (.ref b1)])) _
  refine st38 _ ?_
  show Steps p.tables e below (T38.setTop (mkF m 242 #[.val (.int p0), .val (.int p1), .val (.int p2), .val (.int p3), .unset, .unset] [(.ref b1)])) _
  refine XS.astore X38.here hx rfl (hb hby at_242) rfl rfl (l' := #[.val (.int p0), .val (.int p1), .val (.int p2), .val (.int p3), .val (.ref b1), .unset]) rfl ?_
  show Steps p.tables e below (T38.setTop (mkF m 244 #[.val (.int p0), .val (.int p1), .val (.int p2), .val (.int p3), .val (.ref b1), .unset] [])) _
  refine XS.iloadN X38.here hx rfl (hb hby at_244) rfl ?_
  show Steps p.tables e below (T38.setTop (mkF m 245 #[.val (.int p0), .val (.int p1), .val (.int p2), .val (.int p3), .val (.ref b1), .unset] [(.int p1)])) _
  refine XS.iconst X38.here hx rfl (hb hby at_245) ?_
  show Steps p.tables e below (T38.setTop (mkF m 246 #[.val (.int p0), .val (.int p1), .val (.int p2), .val (.int p3), .val (.ref b1), .unset] [(.int (1 : Int32)), (.int p1)])) _
  refine XS.iand X38.here hx rfl (hb hby at_246) rfl ?_
  show Steps p.tables e below (T38.setTop (mkF m 247 #[.val (.int p0), .val (.int p1), .val (.int p2), .val (.int p3), .val (.ref b1), .unset] [(.int (p1 &&& (1 : Int32)))])) _
  refine XS.ifYes X38.here hx rfl (pc0 := 247) (pc' := 256) rfl (hb hby at_247) rfl ((if0 _ _).trans (feq hc247).2) (by decide) (by decide) ?_
  show Steps p.tables e below (T38.setTop (mkF m 256 #[.val (.int p0), .val (.int p1), .val (.int p2), .val (.int p3), .val (.ref b1), .unset] [])) _
  refine XS.aload X38.here hx rfl (hb hby at_256) rfl rfl ?_
  show Steps p.tables e below (T38.setTop (mkF m 258 #[.val (.int p0), .val (.int p1), .val (.int p2), .val (.int p3), .val (.ref b1), .unset] [(.ref b1)])) _
  refine XS.iloadN X38.here hx rfl (hb hby at_258) rfl ?_
  show Steps p.tables e below (T38.setTop (mkF m 259 #[.val (.int p0), .val (.int p1), .val (.int p2), .val (.int p3), .val (.ref b1), .unset] [(.int p2), (.ref b1)])) _
  refine X38.ldcInt hx hown (mvT hZ (hw _ (List.mem_of_getElem? (i := 8) rfl))) (g := (mkF m 259 #[.val (.int p0), .val (.int p1), .val (.int p2), .val (.int p3), .val (.ref b1), .unset] [(.int p2), (.ref b1)])) rfl (hb hby at_259) _ ?_
  show Steps p.tables e below (T38.setTop (mkF m 261 #[.val (.int p0), .val (.int p1), .val (.int p2), .val (.int p3), .val (.ref b1), .unset] [(.int (2147483647 : Int32)), (.int p2), (.ref b1)])) _
  refine XS.iand X38.here hx rfl (hb hby at_261) rfl ?_
  show Steps p.tables e below (T38.setTop (mkF m 262 #[.val (.int p0), .val (.int p1), .val (.int p2), .val (.int p3), .val (.ref b1), .unset] [(.int (p2 &&& (2147483647 : Int32))), (.ref b1)])) _
  refine XS.aload X38.here hx rfl (hb hby at_262) rfl rfl ?_
  show Steps p.tables e below (T38.setTop (mkF m 264 #[.val (.int p0), .val (.int p1), .val (.int p2), .val (.int p3), .val (.ref b1), .unset] [(.ref b1), (.int (p2 &&& (2147483647 : Int32))), (.ref b1)])) _
  refine own_arr_len X38 hx hZ V38 (g := (mkF m 264 #[.val (.int p0), .val (.int p1), .val (.int p2), .val (.int p3), .val (.ref b1), .unset] [(.ref b1), (.int (p2 &&& (2147483647 : Int32))), (.ref b1)])) (z := (37 : Int32)) (by decide) rfl rfl (hb hby at_264) _ ?_
  show Steps p.tables e below (T38.setTop (mkF m 265 #[.val (.int p0), .val (.int p1), .val (.int p2), .val (.int p3), .val (.ref b1), .unset] [(.int (37 : Int32)), (.int (p2 &&& (2147483647 : Int32))), (.ref b1)])) _
  refine XS.irem X38.here hx rfl (hb hby at_265) rfl (by decide) ?_
  show Steps p.tables e below (T38.setTop (mkF m 266 #[.val (.int p0), .val (.int p1), .val (.int p2), .val (.int p3), .val (.ref b1), .unset] [(.int ((p2 &&& (2147483647 : Int32)) - ((p2 &&& (2147483647 : Int32)) / (37 : Int32)) * (37 : Int32))), (.ref b1)])) _
  refine st39 _ ?_
  show Steps p.tables e below (T38.setTop (mkF m 267 #[.val (.int p0), .val (.int p1), .val (.int p2), .val (.int p3), .val (.ref b1), .unset] [(.int z39)])) _
  refine XS.iloadN X38.here hx rfl (hb hby at_267) rfl ?_
  show Steps p.tables e below (T38.setTop (mkF m 268 #[.val (.int p0), .val (.int p1), .val (.int p2), .val (.int p3), .val (.ref b1), .unset] [(.int p3), (.int z39)])) _
  refine XS.iconst X38.here hx rfl (hb hby at_268) ?_
  show Steps p.tables e below (T38.setTop (mkF m 269 #[.val (.int p0), .val (.int p1), .val (.int p2), .val (.int p3), .val (.ref b1), .unset] [(.int (3 : Int32)), (.int p3), (.int z39)])) _
  refine XS.iand X38.here hx rfl (hb hby at_269) rfl ?_
  show Steps p.tables e below (T38.setTop (mkF m 270 #[.val (.int p0), .val (.int p1), .val (.int p2), .val (.int p3), .val (.ref b1), .unset] [(.int (p3 &&& (3 : Int32))), (.int z39)])) _
  refine XS.iconst X38.here hx rfl (hb hby at_270) ?_
  show Steps p.tables e below (T38.setTop (mkF m 271 #[.val (.int p0), .val (.int p1), .val (.int p2), .val (.int p3), .val (.ref b1), .unset] [(.int (3 : Int32)), (.int (p3 &&& (3 : Int32))), (.int z39)])) _
  refine XS.irem X38.here hx rfl (hb hby at_271) rfl (by decide) ?_
  show Steps p.tables e below (T38.setTop (mkF m 272 #[.val (.int p0), .val (.int p1), .val (.int p2), .val (.int p3), .val (.ref b1), .unset] [(.int ((p3 &&& (3 : Int32)) - ((p3 &&& (3 : Int32)) / (3 : Int32)) * (3 : Int32))), (.int z39)])) _
  refine XS.iadd X38.here hx rfl (hb hby at_272) rfl ?_
  show Steps p.tables e below (T38.setTop (mkF m 273 #[.val (.int p0), .val (.int p1), .val (.int p2), .val (.int p3), .val (.ref b1), .unset] [(.int (z39 + ((p3 &&& (3 : Int32)) - ((p3 &&& (3 : Int32)) / (3 : Int32)) * (3 : Int32))))])) _
  refine XS.iconst X38.here hx rfl (hb hby at_273) ?_
  show Steps p.tables e below (T38.setTop (mkF m 274 #[.val (.int p0), .val (.int p1), .val (.int p2), .val (.int p3), .val (.ref b1), .unset] [(.int (1 : Int32)), (.int (z39 + ((p3 &&& (3 : Int32)) - ((p3 &&& (3 : Int32)) / (3 : Int32)) * (3 : Int32))))])) _
  refine XS.isub X38.here hx rfl (hb hby at_274) rfl ?_
  show Steps p.tables e below (T38.setTop (mkF m 275 #[.val (.int p0), .val (.int p1), .val (.int p2), .val (.int p3), .val (.ref b1), .unset] [(.int ((z39 + ((p3 &&& (3 : Int32)) - ((p3 &&& (3 : Int32)) / (3 : Int32)) * (3 : Int32))) - (1 : Int32)))])) _
  refine XS.istore X38.here hx rfl (hb hby at_275) rfl (l' := #[.val (.int p0), .val (.int p1), .val (.int p2), .val (.int p3), .val (.ref b1), .val (.int ((z39 + ((p3 &&& (3 : Int32)) - ((p3 &&& (3 : Int32)) / (3 : Int32)) * (3 : Int32))) - (1 : Int32)))]) rfl ?_
  show Steps p.tables e below (T38.setTop (mkF m 277 #[.val (.int p0), .val (.int p1), .val (.int p2), .val (.int p3), .val (.ref b1), .val (.int ((z39 + ((p3 &&& (3 : Int32)) - ((p3 &&& (3 : Int32)) / (3 : Int32)) * (3 : Int32))) - (1 : Int32)))] [])) _
  refine XS.iload X38.here hx rfl (hb hby at_277) rfl ?_
  show Steps p.tables e below (T38.setTop (mkF m 279 #[.val (.int p0), .val (.int p1), .val (.int p2), .val (.int p3), .val (.ref b1), .val (.int ((z39 + ((p3 &&& (3 : Int32)) - ((p3 &&& (3 : Int32)) / (3 : Int32)) * (3 : Int32))) - (1 : Int32)))] [(.int ((z39 + ((p3 &&& (3 : Int32)) - ((p3 &&& (3 : Int32)) / (3 : Int32)) * (3 : Int32))) - (1 : Int32)))])) _
  refine st40 _ ?_
  show Steps p.tables e below (T40.setTop (mkF m 282 #[.val (.int p0), .val (.int p1), .val (.int p2), .val (.int p3), .val (.ref b1), .val (.int ((z39 + ((p3 &&& (3 : Int32)) - ((p3 &&& (3 : Int32)) / (3 : Int32)) * (3 : Int32))) - (1 : Int32)))] [(.int (F1_0 ((z39 + ((p3 &&& (3 : Int32)) - ((p3 &&& (3 : Int32)) / (3 : Int32)) * (3 : Int32))) - (1 : Int32))))])) _
  refine XS.iload X40.here hx rfl (hb hby at_282) rfl ?_
  show Steps p.tables e below (T40.setTop (mkF m 284 #[.val (.int p0), .val (.int p1), .val (.int p2), .val (.int p3), .val (.ref b1), .val (.int ((z39 + ((p3 &&& (3 : Int32)) - ((p3 &&& (3 : Int32)) / (3 : Int32)) * (3 : Int32))) - (1 : Int32)))] [(.int ((z39 + ((p3 &&& (3 : Int32)) - ((p3 &&& (3 : Int32)) / (3 : Int32)) * (3 : Int32))) - (1 : Int32))), (.int (F1_0 ((z39 + ((p3 &&& (3 : Int32)) - ((p3 &&& (3 : Int32)) / (3 : Int32)) * (3 : Int32))) - (1 : Int32))))])) _
  refine st41 _ ?_
  show Steps p.tables e below (T41.setTop (mkF m 287 #[.val (.int p0), .val (.int p1), .val (.int p2), .val (.int p3), .val (.ref b1), .val (.int ((z39 + ((p3 &&& (3 : Int32)) - ((p3 &&& (3 : Int32)) / (3 : Int32)) * (3 : Int32))) - (1 : Int32)))] [(.int (F3_0 ((z39 + ((p3 &&& (3 : Int32)) - ((p3 &&& (3 : Int32)) / (3 : Int32)) * (3 : Int32))) - (1 : Int32)))), (.int (F1_0 ((z39 + ((p3 &&& (3 : Int32)) - ((p3 &&& (3 : Int32)) / (3 : Int32)) * (3 : Int32))) - (1 : Int32))))])) _
  refine XS.icmpNo X41.here hx rfl (hb hby at_287) rfl (teq (own_same _)).2 ?_
  show Steps p.tables e below (T41.setTop (mkF m 290 #[.val (.int p0), .val (.int p1), .val (.int p2), .val (.int p3), .val (.ref b1), .val (.int ((z39 + ((p3 &&& (3 : Int32)) - ((p3 &&& (3 : Int32)) / (3 : Int32)) * (3 : Int32))) - (1 : Int32)))] [])) _
  refine XS.iconst X41.here hx rfl (hb hby at_290) ?_
  show Steps p.tables e below (T41.setTop (mkF m 291 #[.val (.int p0), .val (.int p1), .val (.int p2), .val (.int p3), .val (.ref b1), .val (.int ((z39 + ((p3 &&& (3 : Int32)) - ((p3 &&& (3 : Int32)) / (3 : Int32)) * (3 : Int32))) - (1 : Int32)))] [(.int (1 : Int32))])) _
  refine XS.goto X41.here hx rfl (pc0 := 291) (pc' := 295) rfl (hb hby at_291) (by decide) (by decide) ?_
  show Steps p.tables e below (T41.setTop (mkF m 295 #[.val (.int p0), .val (.int p1), .val (.int p2), .val (.int p3), .val (.ref b1), .val (.int ((z39 + ((p3 &&& (3 : Int32)) - ((p3 &&& (3 : Int32)) / (3 : Int32)) * (3 : Int32))) - (1 : Int32)))] [(.int (1 : Int32))])) _
  exact retN X41 hx (t := .boolean) Bd.returns (by simp) (hb hby at_295) hr
def Q_rm0 (Z : State) (p0 : Int32) (p1 : Int32) (p2 : Int32) (p3 : Int32) (h0 : Heap) (n0 : Nat) (v : Option Value) (h : Heap) (L : List Loc) : Prop := (v = some (.int (1 : Int32)) ∧ Fr n0 L)
set_option maxRecDepth 65536 in
set_option maxHeartbeats 40000000 in
theorem rm0 (l : Launch) (Z : State) (a0 : Array Value) (hw : ∀ d ∈ tables_1, d.before a0 Z = true) (ws : List Jvm.Cond) (p0 : Int32) (p1 : Int32) (p2 : Int32) (p3 : Int32) (h0 : Heap) (n0 : Nat) (Z0 : n0 ≤ h0.size) :
    MetFree l x (head1 (Jvm.Cond.code x code maxLocals ret :: ws) room_1) (fun a U => a = #[(.int p0), (.int p1), (.int p2), (.int p3)] ∧ Z.Warmed39 U.vm ∧ U.heap = h0) (fun _ _ _ _ _ => True) (fun _ U o U' => ∃ v L, o = .returned v ∧ Q_rm0 Z p0 p1 p2 p3 h0 n0 v U'.heap L ∧ FrameEnd U o U' L room_1.cells room_1.slots) := by
  by_cases hc : (p1 &&& (1 : Int32)) = (0 : Int32)
  · exact rm0a l Z a0 hw ws p0 p1 p2 p3 h0 n0 Z0 hc
  · exact rm0b l Z a0 hw ws p0 p1 p2 p3 h0 n0 Z0 hc
set_option maxRecDepth 65536 in
set_option maxHeartbeats 40000000 in
theorem comes_1 {Post : Tables → Env → Array Value → State → Outcome → State → Prop} (hpost : ∀ tb e args s v u, (limb_1_1.after args s (.returned v) u = true ∧ limb_1_2.after args s (.returned v) u = true ∧ True) → FrameEnd s (.returned v) u (Jvm.fieldLocs frame_1_writes args s ++ Jvm.arrayLocs frame_1_arrays args s ++ Jvm.staticLocs frame_1_statics s) 16 192 → Post tb e args s (.returned v) u) :
    ArmFor flags0 classFile x code maxLocals ret World_1 tables_1 room_1 Calls_1 rest_1 Pre_1 Post := by
  intro l hfl _ _ p e ha hc hk s m args below hf hA hF happ hP
  obtain ⟨hcalls, hrest, hpre⟩ := hP
  obtain ⟨-, -, -, hnamed, -, -, -, hat⟩ := (Spec.applies_iff hf).mp happ
  obtain ⟨hg, hn⟩ := and_e (Cond.before_iff.mp (show (Jvm.Cond.and given_1 narrow_1).before args s = true from hpre))
  obtain ⟨gc, g0⟩ := and_e hg
  obtain ⟨k0, g1⟩ := and_e g0
  obtain ⟨k1, g2⟩ := and_e g1
  obtain ⟨k2, g3⟩ := and_e g2
  have k3 := g3
  obtain ⟨w0, w1, w2, w3, rfl⟩ : ∃ w0 w1 w2 w3 : Value, args = #[w0, w1, w2, w3] := by
    have hs : args.size = 4 := by simpa [Cond.value, given_1] using gc
    obtain ⟨L⟩ := args
    match L, hs with
    | [w0, w1, w2, w3], _ => exact ⟨w0, w1, w2, w3, rfl⟩
  have hw := fun d (hd : d ∈ tables_1) => atoms_spec (ws := Jvm.Cond.code x code maxLocals ret :: tables_1) hat d (List.mem_cons_of_mem _ hd)
  obtain ⟨i0, ei0⟩ := is_v k0
  obtain rfl : w0 = (.int i0) := Option.some.inj ei0
  obtain ⟨i1, ei1⟩ := is_v k1
  obtain rfl : w1 = (.int i1) := Option.some.inj ei1
  obtain ⟨i2, ei2⟩ := is_v k2
  obtain rfl : w2 = (.int i2) := Option.some.inj ei2
  obtain ⟨i3, ei3⟩ := is_v k3
  obtain rfl : w3 = (.int i3) := Option.some.inj ei3
  obtain ⟨n, o, h1, h2, h3, _, L, rfl, ⟨rfl, N⟩, hq⟩ := rm0 l s _ hw tables_1 i0 i1 i2 i3 s.heap s.heap.size (Nat.le_refl _) p e ha hc hk s m _ below hf ((Spec.applies_iff_loose hf).mp happ).1 ⟨rfl, State.Warmed39.refl s, rfl⟩ trivial
  refine ⟨n, _, h1, h2, h3, hpost _ _ _ _ _ _ ⟨Cond.after_iff.mpr rfl, Cond.after_iff.mpr (eq_i res_at (Term.int_eval (1)) rfl), trivial⟩ ⟨hq.1, hq.2.1, (hq.2.2.sift fun y hy => Or.inr (N y hy)).mono (by decide) (by decide)⟩⟩
theorem main_1_1 : Claimed_1_1 := comes_1 fun _ _ _ _ _ _ h hF => ⟨h.1, hF⟩
theorem main_1_2 : Claimed_1_2 := comes_1 fun _ _ _ _ _ _ h hF => ⟨h.2.1, hF⟩
end Jvm.Pilot.@@N@@
namespace Jvm.Pilot.@@N@@
open Jvm Jvm.ClassFile Sem Op Lib Jvm.Free Jvm.Stand Jvm.Pilot.@@N@@.Jvm.D
/-! MADE BY PROGRAM (witnessworld.py) out of the Statement's table words and the real class files: 9 classes; the members and pool entries that the words name. The judged class is class 1, her method 1. -/
namespace start1
open Jvm.ClassFile
def u (s : String) : CpInfo := .utf8 (stringToUtf16 s)
/-- a pool by its gaps: so many unusable entries, then the entry; so many at the end -/
def gap : Nat → List CpInfo → List CpInfo
  | 0, r => r
  | n + 1, r => .unusable :: gap n r
def poolList (es : List (Nat × CpInfo)) (last : Nat) : List CpInfo := es.foldr (fun e r => gap e.1 (e.2 :: r)) (gap last [])
def pool (es : List (Nat × CpInfo)) (last : Nat) : Array CpInfo := ⟨poolList es last⟩
def fileOf (pool : Array CpInfo) (this : Nat) (attrs : Array Attribute := #[]) (ms : Array MethodInfo := #[]) (fl : Nat := 33) (sup : Nat := 0) (ifs : Array Nat := #[]) (fds : Array FieldInfo := #[]) : ClassFile where
  minorVersion := 0
  majorVersion := 65
  constantPool := pool
  accessFlags := fl
  thisClass := this
  superClass := sup
  interfaces := ifs
  fields := fds
  methods := ms
  attributes := attrs
def plain (name : String) (sup : Option ClassId) : Class where
  name := name
  kind := .ordinary
  loader := none
  accessFlags := 33
  super := sup
  interfaces := #[]
  cf := none
  fields := #[]
  methods := #[]
  instanceTypes := #[]
  staticTypes := #[]
  resolved := #[]
  callSites := []
  init := .initialized
  statics := none
  mirror := none

def pool0 : Array CpInfo := pool [(5, u "<init>"), (0, u "()V"), (1, .class_ 10), (1, u "java/lang/Object")] 113

def k0m0 : Method := { name := "<init>", desc := "()V", sig := { parameters := [], returnType := none }, accessFlags := 1, code := none }
/-- java/lang/Object -/
def k0 : Class := { plain "java/lang/Object" none with
  accessFlags := 33
  interfaces := #[]
  cf := some (fileOf pool0 8 #[] #[{ accessFlags := 1, nameIndex := 5, descriptorIndex := 6, attributes := #[] }] 33 0 #[] #[])
  fields := #[]
  methods := #[k0m0]
  instanceTypes := #[]
  staticTypes := #[]
  resolved := Array.replicate 124 none
  statics := none }

def pool1 : Array CpInfo := pool [(2, .class_ 4), (1, u "java/lang/Object"), (0, u "<init>"), (0, u "()V"), (0, .integer 55295), (0, .integer 63744), (0, .integer 64975), (0, .integer 65008), (0, .integer 65533), (0, .integer 65536), (0, .integer 983039), (0, .integer 2147483647), (0, .methodref 16 17), (0, .class_ 18), (0, .nameAndType 19 20), (0, u "shapewright/NameCharacters"), (0, u "isPart"), (0, u "(I)Z"), (0, .methodref 22 23), (0, .class_ 24), (0, .nameAndType 25 20), (0, u "shapewright/NameCharactersIsPartPinLaw"), (0, u "ref"), (2, u "law"), (0, u "(IIII)Z")] 5

def k1m0 : Method := { name := "<init>", desc := "()V", sig := { parameters := [], returnType := none }, accessFlags := 2, code := none }
def k1c1 : Code := { maxStack := 4, maxLocals := 6, code := code, exceptionTable := #[], attributes := #[] }
def k1m1 : Method := { name := "law", desc := "(IIII)Z", sig := { parameters := [.int, .int, .int, .int], returnType := some .boolean }, accessFlags := 9, code := some k1c1 }
def k1c2 : Code := { maxStack := 2, maxLocals := 1, code := method_3_code, exceptionTable := #[], attributes := #[] }
def k1m2 : Method := { name := "ref", desc := "(I)Z", sig := { parameters := [.int], returnType := some .boolean }, accessFlags := 10, code := some k1c2 }
/-- shapewright/NameCharactersIsPartPinLaw -/
def k1 : Class := { plain "shapewright/NameCharactersIsPartPinLaw" (some 0) with
  accessFlags := 49
  interfaces := #[]
  cf := some (fileOf pool1 22 #[] #[{ accessFlags := 2, nameIndex := 5, descriptorIndex := 6, attributes := #[] }, { accessFlags := 9, nameIndex := 28, descriptorIndex := 29, attributes := #[] }, { accessFlags := 10, nameIndex := 25, descriptorIndex := 20, attributes := #[] }] 49 2 #[] #[])
  fields := #[]
  methods := #[k1m0, k1m1, k1m2]
  instanceTypes := #[]
  staticTypes := #[]
  resolved := Array.replicate 35 none
  statics := none }

def pool2 : Array CpInfo := pool [(2, .class_ 4), (1, u "java/lang/Object"), (0, u "<init>"), (0, u "()V"), (0, .integer 55295), (0, .integer 63744), (0, .integer 64975), (0, .integer 65008), (0, .integer 65533), (0, .integer 65536), (0, .integer 983039), (0, .methodref 15 16), (0, .class_ 17), (0, .nameAndType 18 19), (0, u "shapewright/NameCharacters"), (0, u "isBase"), (0, u "(I)Z"), (3, u "isPart")] 2

def k2m0 : Method := { name := "<init>", desc := "()V", sig := { parameters := [], returnType := none }, accessFlags := 2, code := none }
def k2c1 : Code := { maxStack := 2, maxLocals := 1, code := prog_5_method_2_code, exceptionTable := #[], attributes := #[] }
def k2m1 : Method := { name := "isBase", desc := "(I)Z", sig := { parameters := [.int], returnType := some .boolean }, accessFlags := 8, code := some k2c1 }
def k2c2 : Code := { maxStack := 2, maxLocals := 1, code := prog_5_method_3_code, exceptionTable := #[], attributes := #[] }
def k2m2 : Method := { name := "isPart", desc := "(I)Z", sig := { parameters := [.int], returnType := some .boolean }, accessFlags := 8, code := some k2c2 }
/-- shapewright/NameCharacters -/
def k2 : Class := { plain "shapewright/NameCharacters" (some 0) with
  accessFlags := 48
  interfaces := #[]
  cf := some (fileOf pool2 15 #[] #[{ accessFlags := 2, nameIndex := 5, descriptorIndex := 6, attributes := #[] }, { accessFlags := 8, nameIndex := 18, descriptorIndex := 19, attributes := #[] }, { accessFlags := 8, nameIndex := 23, descriptorIndex := 19, attributes := #[] }] 48 2 #[] #[])
  fields := #[]
  methods := #[k2m0, k2m1, k2m2]
  instanceTypes := #[]
  staticTypes := #[]
  resolved := Array.replicate 26 none
  statics := none }

def pool3 : Array CpInfo := pool [(1, u "java/lang/Cloneable"), (0, .class_ 1), (0, u "java/lang/Object"), (0, .class_ 3)] 3

/-- java/lang/Cloneable -/
def k3 : Class := { plain "java/lang/Cloneable" (some 0) with
  accessFlags := 1537
  interfaces := #[]
  cf := some (fileOf pool3 2 #[] #[] 1537 4 #[] #[])
  fields := #[]
  methods := #[]
  instanceTypes := #[]
  staticTypes := #[]
  resolved := Array.replicate 8 none
  statics := none }

def pool4 : Array CpInfo := pool [(1, u "java/io/Serializable"), (0, .class_ 1), (0, u "java/lang/Object"), (0, .class_ 3)] 3

/-- java/io/Serializable -/
def k4 : Class := { plain "java/io/Serializable" (some 0) with
  accessFlags := 1537
  interfaces := #[]
  cf := some (fileOf pool4 2 #[] #[] 1537 4 #[] #[])
  fields := #[]
  methods := #[]
  instanceTypes := #[]
  staticTypes := #[]
  resolved := Array.replicate 8 none
  statics := none }

/-- the primitive byte -/
def k5 : Class := { plain "byte" none with kind := .primitive 'B', accessFlags := 0x411 }
/-- [B -/
def k6 : Class := { plain "[B" (some 0) with kind := .array 5 .byte, interfaces := #[3, 4], accessFlags := 1041 }

/-- the primitive int -/
def k7 : Class := { plain "int" none with kind := .primitive 'I', accessFlags := 0x411 }
/-- [I -/
def k8 : Class := { plain "[I" (some 0) with kind := .array 7 .int, interfaces := #[3, 4], accessFlags := 1041 }

def heap : Heap := #[]
def classes : Array Class := #[k0, k1, k2, k3, k4, k5, k6, k7, k8]
def interned : List (Array UInt16 × Addr) := []
def slotsUsed : Nat := 0
def theMethod : MethodId := ⟨1, 1⟩
def args0 : Array Value := #[.int 5, .int 5, .int 5, .int 5]
def aboutOver (below : List Frame) : State where
  vm := { classes := classes, interned := interned.toArray }
  heap := heap
  slotsUsed := slotsUsed
  threads := #[{ frames := .invoking theMethod args0 :: below }]
def below0 : List Frame := [.native { method := ⟨0, 0⟩, args := #[] }]
def about1 : State := aboutOver below0
def p0 : Program := .bare "" "" ""
def e0 : Env := launch0.env 0 0 0
theorem w_frames : about1.frames = Frame.invoking theMethod args0 :: below0 := rfl
set_option maxRecDepth 65536 in
theorem w_args : argsFit about1.vm theMethod args0 = true := by decide +kernel
set_option maxRecDepth 65536 in
theorem w_heap : heapFits about1 = true := by decide +kernel
set_option maxRecDepth 65536 in
theorem w_runnable : about1.curStatus? = some .runnable := by decide +kernel
set_option maxRecDepth 65536 in
theorem w_alone : about1.alone = true := by decide +kernel
set_option maxRecDepth 65536 in
theorem w_named : about1.methodNamed? x = some theMethod := by decide +kernel
set_option maxRecDepth 65536 in
theorem w_hears : about1.hears theMethod below0 = true := by decide +kernel
set_option maxRecDepth 65536 in
theorem w_ripe : about1.ripe theMethod args0 below0 = true := by decide +kernel
theorem w_running : about1.status = .running := rfl
set_option maxRecDepth 65536 in
theorem w_room : about1.hasRoom e0.platform room_1 = true :=
  launch0.hasRoom_least _ room_1 (by decide +kernel) (by decide +kernel) (by decide +kernel) (by decide +kernel) (by decide +kernel) (by decide +kernel)
theorem allAtoms_all (ts : List Jvm.Cond) (a : Array Jvm.Value) (st : Jvm.State) : (allAtoms ts).before a st = ts.all (fun c => c.before a st) := by
  induction ts with
  | nil => rfl
  | cons c t ih =>
    show (Jvm.Cond.and c (allAtoms t)).before a st = _
    rw [Jvm.Cond.before_and, ih, List.all_cons]
def words1 : List Jvm.Cond := Jvm.Cond.code x code maxLocals ret :: tables_1
/-- a 'code' word, met by the world's own term for the bytes: nothing is compared byte by byte -/
theorem code_word {y : MethodName} {bytes : ByteArray} {mx : Nat} {rt : Option FieldType} {a : Array Value} {s : State} {m : MethodId} {meth : Method} {c : Code} (h1 : s.methodNamed? y = some m) (h2 : s.vm.method? m = some meth) (h3 : meth.code = some c) (h4 : c.code = bytes)
    (h5 : (c.maxLocals == mx && c.exceptionTable.isEmpty && decide (c.maxStack ≤ mostOperands) && decide (meth.sig.returnType = rt) && !meth.locks && decide (parseMethodDescriptor y.desc = some meth.sig)) = true) : (Jvm.Cond.code y bytes mx rt).before a s = true := by
  simp only [Bool.and_eq_true, beq_iff_eq, Bool.not_eq_true', decide_eq_true_eq] at h5
  obtain ⟨⟨⟨⟨⟨g1, g2⟩, g3⟩, g4⟩, g5⟩, g6⟩ := h5
  simp [Cond.before, Cond.holds, Cond.value, h1, h2, h3, h4, g1, g2, g3, g4, g5, g6]
def isCode : Jvm.Cond → Bool
  | .code _ _ _ _ => true
  | _ => false
theorem all_split {L : List Jvm.Cond} {P : Jvm.Cond → Bool} (h1 : L.all (fun c => isCode c || P c) = true) (h2 : ∀ c ∈ L.filter isCode, P c = true) : L.all P = true := by
  refine List.all_eq_true.mpr fun c hc => ?_
  have h := List.all_eq_true.mp h1 c hc
  rcases Bool.eq_false_or_eq_true (isCode c) with hi | hi
  · exact h2 c (List.mem_filter.mpr ⟨hc, hi⟩)
  · simpa [hi] using h
set_option maxRecDepth 65536 in
theorem w_c0 : (Jvm.Cond.code x code maxLocals ret).before args0 about1 = true := code_word (m := ⟨1, 1⟩) (meth := k1m1) (c := k1c1) (by decide +kernel) rfl rfl rfl (by decide +kernel)
set_option maxRecDepth 65536 in
theorem w_c1 : (Jvm.Cond.code ({ cls := "shapewright/NameCharacters", name := "isPart", desc := "(I)Z" } : Jvm.MethodName) prog_5_method_3_code (1 : Nat) (Option.some Jvm.ClassFile.FieldType.boolean)).before args0 about1 = true := code_word (m := ⟨2, 2⟩) (meth := k2m2) (c := k2c2) (by decide +kernel) rfl rfl rfl (by decide +kernel)
set_option maxRecDepth 65536 in
theorem w_c2 : (Jvm.Cond.code ({ cls := "shapewright/NameCharacters", name := "isBase", desc := "(I)Z" } : Jvm.MethodName) prog_5_method_2_code (1 : Nat) (Option.some Jvm.ClassFile.FieldType.boolean)).before args0 about1 = true := code_word (m := ⟨2, 1⟩) (meth := k2m1) (c := k2c1) (by decide +kernel) rfl rfl rfl (by decide +kernel)
set_option maxRecDepth 65536 in
theorem w_c3 : (Jvm.Cond.code ({ cls := "shapewright/NameCharactersIsPartPinLaw", name := "ref", desc := "(I)Z" } : Jvm.MethodName) method_3_code (1 : Nat) (Option.some Jvm.ClassFile.FieldType.boolean)).before args0 about1 = true := code_word (m := ⟨1, 2⟩) (meth := k1m2) (c := k1c2) (by decide +kernel) rfl rfl rfl (by decide +kernel)
def codes1 : List Jvm.Cond := [Jvm.Cond.code x code maxLocals ret, Jvm.Cond.code ({ cls := "shapewright/NameCharacters", name := "isPart", desc := "(I)Z" } : Jvm.MethodName) prog_5_method_3_code (1 : Nat) (Option.some Jvm.ClassFile.FieldType.boolean), Jvm.Cond.code ({ cls := "shapewright/NameCharacters", name := "isBase", desc := "(I)Z" } : Jvm.MethodName) prog_5_method_2_code (1 : Nat) (Option.some Jvm.ClassFile.FieldType.boolean), Jvm.Cond.code ({ cls := "shapewright/NameCharactersIsPartPinLaw", name := "ref", desc := "(I)Z" } : Jvm.MethodName) method_3_code (1 : Nat) (Option.some Jvm.ClassFile.FieldType.boolean)]
set_option maxRecDepth 65536 in
theorem codes_eq : words1.filter isCode = codes1 := rfl
theorem w_codes : ∀ c ∈ words1.filter isCode, c.before args0 about1 = true := by
  rw [codes_eq]
  intro c hc
  simp only [codes1, List.mem_cons, List.not_mem_nil, or_false] at hc
  rcases hc with rfl | rfl | rfl | rfl
  · exact w_c0
  · exact w_c1
  · exact w_c2
  · exact w_c3
set_option maxRecDepth 65536 in
theorem w_t1 : (words1.take 24).all (fun c => isCode c || c.before args0 about1) = true := by decide +kernel
set_option maxRecDepth 65536 in
theorem w_t2 : (words1.drop 24).all (fun c => isCode c || c.before args0 about1) = true := by decide +kernel
theorem w_tables : (allAtoms (Jvm.Cond.code x code maxLocals ret :: tables_1)).before args0 about1 = true := by
  rw [allAtoms_all]
  show words1.all (fun c => c.before args0 about1) = true
  refine all_split ?_ w_codes
  rw [← List.take_append_drop 24 words1, List.all_append, w_t1, w_t2]
  rfl
set_option maxRecDepth 65536 in
theorem w_case : (Jvm.Cond.and given_1 narrow_1).before args0 about1 = true := by decide +kernel
theorem w_applies : (headSpec (Jvm.Cond.code x code maxLocals ret :: tables_1) room_1).applies x e0.platform about1 = true :=
  (Spec.applies_iff w_frames).mpr ⟨w_running, w_runnable, w_alone, w_named, w_hears, w_ripe, w_room, w_tables⟩
theorem atStart : AtStart classFile x code maxLocals ret World_1 tables_1 room_1 Calls_1 rest_1 Pre_1 launch0 p0 e0 about1 theMethod args0 below0 :=
  ⟨lists_1, trivial, launch0.admits_env _ _ _, launch0.least_env, fairChoices_fair.cas, fairChoices_fair.clock, w_frames, w_args, w_heap, w_applies, trivial, trivial, w_case⟩
end start1
theorem witness_1 : WitnessClaimed_1 := ⟨start1.p0, start1.e0, start1.about1, start1.theMethod, start1.args0, start1.below0, start1.atStart⟩
end Jvm.Pilot.@@N@@
