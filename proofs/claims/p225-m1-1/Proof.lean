import JvmDerived
import JvmDerived.Pilot.@@N@@Statement
import JvmDerived.Pilot.@@N@@Code
set_option linter.unusedVariables false
set_option linter.unusedSimpArgs false
namespace Jvm.RoadKit
open Sem ClassFile Op Lib Jvm.Stand Jvm.Free Jvm.LawKit
section New
variable {p : Program} {l : Launch} {e : Env} {R : Room} {s : State} {m : MethodId} {args : Array Value} {below : List Frame} {meth : Method} {c : Code} {T : State} {locs : List Loc} {cells slots : Nat}
theorem retI (X : Stand p l e R s m args below meth c T locs cells slots) (hx : p.tables.exec = Jvm.exec) {pc : Nat} {Ls : Array Slot} {z : Int32} {rest : List Value} (hret : meth.sig.returnType = some .int) (hd : decode c.code pc = .ok (.ireturn, 1)) {fs : List Frame}
    (hl : ∀ (f : JFrame) (acts : List Action), f.method = m → f.locked = none → f.entered = [] → (doReturn e (T.setTop f) acts (some (.int z))).1 = T.setFrames fs) : Steps p.tables e below (T.setTop (mkF m pc Ls (.int z :: rest))) (T.setFrames fs) := by
  have hm' : T.vm.method? m = some meth := X.method'
  have hn : narrow .int (.int z) = .int z := rfl
  show Steps p.tables e below (T.setTop { method := m, pc := pc, locals := Ls, stack := _ :: rest, locked := none }) _
  jvm_step X.here [X.here.top, hx, hd, hm', hret, hn]
  first | (intro acts; rw [hl _ acts rfl rfl rfl]) | rw [hl _ _ rfl rfl rfl]
  exact Steps.refl _
end New
end Jvm.RoadKit
namespace Jvm.Pilot.@@N@@
open Jvm Jvm.ClassFile Sem Op Lib Jvm.Free Jvm.Stand Jvm.LawKit Jvm.RoadKit Bundle Jvm.Pilot.@@N@@.Jvm.D
theorem pd0 : parseMethodDescriptor "(I)Z" = some ⟨[.int], some .boolean⟩ := by decide +kernel
def IntArr (Z : State) (h : Heap) (a : Addr) (n : Nat) : Prop := ∃ c : Cell, Arr Z h a c .int ∧ c.slots.size = n ∧ ∀ i, i < n → ∃ z : Int32, c.slots[i]? = some (.int z)
theorem own_arr_lt {Z : State} {h : Heap} {a : Addr} {n : Nat} (V : IntArr Z h a n) : a < h.size := by obtain ⟨c, A, -⟩ := V; exact A.lt
theorem own_arr_sz {Z : State} {h : Heap} {a : Addr} {n n0 : Nat} (G : n0 ≤ a) (V : IntArr Z h a n) : n0 ≤ h.size := Nat.le_of_lt (Nat.lt_of_le_of_lt G (own_arr_lt V))
theorem own_arr_new {Z : State} {h : Heap} {a : Addr} {k : ClassId} {z : Int32} {n : Nat} (V : Arv Z h a k .int z [] (defaultValue .int)) (hz : z.toNatClampNeg = n) : IntArr Z h a n := by
  obtain ⟨c, A, -, S, -, H, -⟩ := V
  exact ⟨c, A, S.trans hz, fun i hi => ⟨0, H i (by rw [S, hz]; exact hi)⟩⟩
section OwnArr
variable {p : Program} {l : Launch} {e : Env} {R : Room} {s : State} {m : MethodId} {args : Array Value} {below : List Frame} {meth : Method} {c : Code} {T : State} {locs : List Loc} {cells slots : Nat} {Z : State}
theorem own_arr_in {cl : Cell} {n : Nat} {j : Int32} (S : cl.slots.size = n) (hj : ¬ j < 0) (hj2 : j.toNatClampNeg < n) : ¬ (j < 0 ∨ cl.slots.size ≤ j.toNatClampNeg) := by
  rw [S]; rintro (q | q)
  · exact hj q
  · omega
theorem own_arr_st {n n0 : Nat} {a : Addr} (X : Stand p l e R s m args below meth c T locs cells slots) (hx : p.tables.exec = Jvm.exec) (hZ : Z.Warmed39 s.vm) (V : IntArr Z T.heap a n) (ga : n0 ≤ a) (N : Fr n0 locs) {i v : Int32} {g : JFrame} {rest : List Value} (hi : ¬ i < 0) (hi2 : i.toNatClampNeg < n)
    (hg : g.method = m) (hs : g.stack = .int v :: .int i :: .ref a :: rest) (hd : decode c.code g.pc = .ok (.iastore, 1)) :
    ∃ T' L', Stand p l e R s m args below meth c T' L' cells slots ∧ Fr n0 L' ∧ IntArr Z T'.heap a n ∧ ∀ target, Steps p.tables e below (T'.setTop { g with pc := g.pc + 1, stack := rest }) target → Steps p.tables e below (T.setTop g) target := by
  obtain ⟨cl, A, S, H⟩ := V
  obtain ⟨T', h', X', e', W, st⟩ := stI X hx hZ rfl A (own_arr_in S hi hi2) hg hs hd
  refine ⟨T', _, X', Fr.snoc X' N ga, ?_, st⟩
  rw [e']
  refine ⟨_, A.same W, by rw [sz_set]; exact S, fun k hk => ?_⟩
  by_cases u : i.toNatClampNeg = k
  · subst u; exact ⟨v, by simp [Cell.setSlot, S, hk]⟩
  · obtain ⟨z, hz⟩ := H k hk
    exact ⟨z, by simp only [Cell.setSlot]; rw [Array.getElem?_setIfInBounds_ne u]; exact hz⟩
theorem own_arr_ld {n : Nat} {a : Addr} (X : Stand p l e R s m args below meth c T locs cells slots) (hx : p.tables.exec = Jvm.exec) (hZ : Z.Warmed39 s.vm) (V : IntArr Z T.heap a n) {j : Int32} {g : JFrame} {rest : List Value} (hj : ¬ j < 0 ∧ j.toNatClampNeg < n)
    (hg : g.method = m) (hs : g.stack = .int j :: .ref a :: rest) (hd : decode c.code g.pc = .ok (.iaload, 1)) :
    ∃ z : Int32, ∀ target, Steps p.tables e below (T.setTop { g with pc := g.pc + 1, stack := .int z :: rest }) target → Steps p.tables e below (T.setTop g) target := by
  obtain ⟨cl, A, S, H⟩ := V
  obtain ⟨z, hz⟩ := H _ hj.2
  exact ⟨z, fun target k => X.iaload hx A.1 (State.isArrayOf_alike hZ.alike A.2.1) A.2.2 (own_arr_in S hj.1 hj.2) hz hg hs hd target k⟩
theorem own_arr_len {n : Nat} {a : Addr} (X : Stand p l e R s m args below meth c T locs cells slots) (hx : p.tables.exec = Jvm.exec) (hZ : Z.Warmed39 s.vm) (V : IntArr Z T.heap a n) {g : JFrame} {rest : List Value} {z : Int32} (hz : n.toInt32 = z)
    (hg : g.method = m) (hs : g.stack = .ref a :: rest) (hd : decode c.code g.pc = .ok (.arraylength, 1)) (target : State) (k : Steps p.tables e below (T.setTop { g with pc := g.pc + 1, stack := .int z :: rest }) target) : Steps p.tables e below (T.setTop g) target := by
  obtain ⟨cl, A, S, H⟩ := V
  refine X.arraylength hx A.1 (State.isArrayOf_alike hZ.alike A.2.1) hg hs hd _ ?_
  rw [S, hz]; exact k
end OwnArr
theorem d1_0 : decode prog_16_method_3_code 0 = .ok (.iload_n 0, 1) := by decide +kernel
theorem d1_1 : decode prog_16_method_3_code 1 = .ok (.bipush 32, 2) := by decide +kernel
theorem d1_3 : decode prog_16_method_3_code 3 = .ok (.if_icmp .le 92, 3) := by decide +kernel
theorem d1_6 : decode prog_16_method_3_code 6 = .ok (.iload_n 0, 1) := by decide +kernel
theorem d1_7 : decode prog_16_method_3_code 7 = .ok (.lookupswitch 84 #[(34, 81), (60, 81), (62, 81), (92, 81), (94, 81), (96, 81), (123, 81), (124, 81), (125, 81)], 81) := by decide +kernel
theorem d1_88 : decode prog_16_method_3_code 88 = .ok (.goto 7, 3) := by decide +kernel
theorem d1_91 : decode prog_16_method_3_code 91 = .ok (.iconst 1, 1) := by decide +kernel
theorem d1_92 : decode prog_16_method_3_code 92 = .ok (.goto 4, 3) := by decide +kernel
theorem d1_95 : decode prog_16_method_3_code 95 = .ok (.iconst 0, 1) := by decide +kernel
theorem d1_96 : decode prog_16_method_3_code 96 = .ok (.ireturn, 1) := by decide +kernel
def F1_95 : Int32 := (0 : Int32)
theorem b1_95 {p : Program} {l : Launch} {e : Env} {R : Room} {s : State} {m : MethodId} {args : Array Value} {below : List Frame} {meth : Method} {c : Code} {T : State} {locs : List Loc} {cells slots : Nat} {Z : State} {a0 : Array Value} (X : Stand p l e R s m args below meth c T locs cells slots) (hx : p.tables.exec = Jvm.exec) (hZ : Z.Warmed39 s.vm) (hw : ∀ d ∈ tables_1, d.before a0 Z = true) (hby : c.code = prog_16_method_3_code) (hown : s.vm.findClass "com/example/defacto/defacto/graph/Iri" = some m.cls) (v0 : Int32) (hret : meth.sig.returnType = some .boolean) {fs : List Frame} (hr : ∀ (f : JFrame) (acts : List Action), f.method = m → f.locked = none → f.entered = [] → (doReturn e (T.setTop f) acts (some (.int F1_95))).1 = T.setFrames fs) : Steps p.tables e below (T.setTop (mkF m 95 #[.val (.int v0)] [])) (T.setFrames fs) := by
  show Steps p.tables e below (T.setTop (mkF m 95 #[.val (.int v0)] [])) _
  refine XS.iconst X.here hx rfl (hb hby d1_95) ?_
  show Steps p.tables e below (T.setTop (mkF m 96 #[.val (.int v0)] [(.int (0 : Int32))])) _
  rw [show F1_95 = nar .boolean (0 : Int32) from rfl] at hr
  exact retN X hx (t := .boolean) hret (by simp) (hb hby d1_96) hr
def F1_88 : Int32 := (0 : Int32)
theorem b1_88 {p : Program} {l : Launch} {e : Env} {R : Room} {s : State} {m : MethodId} {args : Array Value} {below : List Frame} {meth : Method} {c : Code} {T : State} {locs : List Loc} {cells slots : Nat} {Z : State} {a0 : Array Value} (X : Stand p l e R s m args below meth c T locs cells slots) (hx : p.tables.exec = Jvm.exec) (hZ : Z.Warmed39 s.vm) (hw : ∀ d ∈ tables_1, d.before a0 Z = true) (hby : c.code = prog_16_method_3_code) (hown : s.vm.findClass "com/example/defacto/defacto/graph/Iri" = some m.cls) (v0 : Int32) (hret : meth.sig.returnType = some .boolean) {fs : List Frame} (hr : ∀ (f : JFrame) (acts : List Action), f.method = m → f.locked = none → f.entered = [] → (doReturn e (T.setTop f) acts (some (.int F1_88))).1 = T.setFrames fs) : Steps p.tables e below (T.setTop (mkF m 88 #[.val (.int v0)] [])) (T.setFrames fs) := by
  show Steps p.tables e below (T.setTop (mkF m 88 #[.val (.int v0)] [])) _
  refine XS.goto X.here hx rfl (pc0 := 88) (pc' := 95) rfl (hb hby d1_88) (by decide) (by decide) ?_
  show Steps p.tables e below (T.setTop (mkF m 95 #[.val (.int v0)] [])) _
  refine XS.iconst X.here hx rfl (hb hby d1_95) ?_
  show Steps p.tables e below (T.setTop (mkF m 96 #[.val (.int v0)] [(.int (0 : Int32))])) _
  rw [show F1_88 = nar .boolean (0 : Int32) from rfl] at hr
  exact retN X hx (t := .boolean) hret (by simp) (hb hby d1_96) hr
def F1_91 : Int32 := (1 : Int32)
theorem b1_91 {p : Program} {l : Launch} {e : Env} {R : Room} {s : State} {m : MethodId} {args : Array Value} {below : List Frame} {meth : Method} {c : Code} {T : State} {locs : List Loc} {cells slots : Nat} {Z : State} {a0 : Array Value} (X : Stand p l e R s m args below meth c T locs cells slots) (hx : p.tables.exec = Jvm.exec) (hZ : Z.Warmed39 s.vm) (hw : ∀ d ∈ tables_1, d.before a0 Z = true) (hby : c.code = prog_16_method_3_code) (hown : s.vm.findClass "com/example/defacto/defacto/graph/Iri" = some m.cls) (v0 : Int32) (hret : meth.sig.returnType = some .boolean) {fs : List Frame} (hr : ∀ (f : JFrame) (acts : List Action), f.method = m → f.locked = none → f.entered = [] → (doReturn e (T.setTop f) acts (some (.int F1_91))).1 = T.setFrames fs) : Steps p.tables e below (T.setTop (mkF m 91 #[.val (.int v0)] [])) (T.setFrames fs) := by
  show Steps p.tables e below (T.setTop (mkF m 91 #[.val (.int v0)] [])) _
  refine XS.iconst X.here hx rfl (hb hby d1_91) ?_
  show Steps p.tables e below (T.setTop (mkF m 92 #[.val (.int v0)] [(.int (1 : Int32))])) _
  refine XS.goto X.here hx rfl (pc0 := 92) (pc' := 96) rfl (hb hby d1_92) (by decide) (by decide) ?_
  show Steps p.tables e below (T.setTop (mkF m 96 #[.val (.int v0)] [(.int (1 : Int32))])) _
  rw [show F1_91 = nar .boolean (1 : Int32) from rfl] at hr
  exact retN X hx (t := .boolean) hret (by simp) (hb hby d1_96) hr
def F1_6 (v0 : Int32) : Int32 := if v0 = (34 : Int32) then F1_88 else if v0 = (60 : Int32) then F1_88 else if v0 = (62 : Int32) then F1_88 else if v0 = (92 : Int32) then F1_88 else if v0 = (94 : Int32) then F1_88 else if v0 = (96 : Int32) then F1_88 else if v0 = (123 : Int32) then F1_88 else if v0 = (124 : Int32) then F1_88 else if v0 = (125 : Int32) then F1_88 else F1_91
theorem own_miss1_7 {v : Int32} (h0 : ¬ v = (34 : Int32)) (h1 : ¬ v = (60 : Int32)) (h2 : ¬ v = (62 : Int32)) (h3 : ¬ v = (92 : Int32)) (h4 : ¬ v = (94 : Int32)) (h5 : ¬ v = (96 : Int32)) (h6 : ¬ v = (123 : Int32)) (h7 : ¬ v = (124 : Int32)) (h8 : ¬ v = (125 : Int32)) : (#[(34, 81), (60, 81), (62, 81), (92, 81), (94, 81), (96, 81), (123, 81), (124, 81), (125, 81)] : Array (Int × Int)).find? (fun x => x.1 == v.toInt) = none := by
  rw [Array.find?_eq_none]
  intro x hx q
  rw [← Int32.toInt_inj] at h0 h1 h2 h3 h4 h5 h6 h7 h8
  have q' := beq_iff_eq.mp q
  simp only [Array.mem_def, List.mem_cons, List.not_mem_nil, or_false] at hx
  rcases hx with rfl | rfl | rfl | rfl | rfl | rfl | rfl | rfl | rfl
  · exact h0 q'.symm
  · exact h1 q'.symm
  · exact h2 q'.symm
  · exact h3 q'.symm
  · exact h4 q'.symm
  · exact h5 q'.symm
  · exact h6 q'.symm
  · exact h7 q'.symm
  · exact h8 q'.symm
theorem b1_6 {p : Program} {l : Launch} {e : Env} {R : Room} {s : State} {m : MethodId} {args : Array Value} {below : List Frame} {meth : Method} {c : Code} {T : State} {locs : List Loc} {cells slots : Nat} {Z : State} {a0 : Array Value} (X : Stand p l e R s m args below meth c T locs cells slots) (hx : p.tables.exec = Jvm.exec) (hZ : Z.Warmed39 s.vm) (hw : ∀ d ∈ tables_1, d.before a0 Z = true) (hby : c.code = prog_16_method_3_code) (hown : s.vm.findClass "com/example/defacto/defacto/graph/Iri" = some m.cls) (v0 : Int32) (hret : meth.sig.returnType = some .boolean) {fs : List Frame} (hr : ∀ (f : JFrame) (acts : List Action), f.method = m → f.locked = none → f.entered = [] → (doReturn e (T.setTop f) acts (some (.int (F1_6 v0)))).1 = T.setFrames fs) : Steps p.tables e below (T.setTop (mkF m 6 #[.val (.int v0)] [])) (T.setFrames fs) := by
  show Steps p.tables e below (T.setTop (mkF m 6 #[.val (.int v0)] [])) _
  refine XS.iloadN X.here hx rfl (hb hby d1_6) rfl ?_
  show Steps p.tables e below (T.setTop (mkF m 7 #[.val (.int v0)] [(.int v0)])) _
  by_cases hc0 : v0 = (34 : Int32)
  · rw [show (F1_6 v0) = F1_88 from if_pos hc0] at hr
    refine X.lookupswitchHit hx (g := (mkF m 7 #[.val (.int v0)] [(.int v0)])) rfl rfl (hb hby d1_7) (by decide) (a := 34) (off := 81) (by rw [hc0]; decide) (show (0 : Int) ≤ ((7 : Nat) : Int) + 81 from by decide) _ ?_
    exact b1_88 X hx hZ hw hby hown v0 hret hr
  · skip
    by_cases hc1 : v0 = (60 : Int32)
    · rw [show (F1_6 v0) = F1_88 from (if_neg hc0).trans (if_pos hc1)] at hr
      refine X.lookupswitchHit hx (g := (mkF m 7 #[.val (.int v0)] [(.int v0)])) rfl rfl (hb hby d1_7) (by decide) (a := 60) (off := 81) (by rw [hc1]; decide) (show (0 : Int) ≤ ((7 : Nat) : Int) + 81 from by decide) _ ?_
      exact b1_88 X hx hZ hw hby hown v0 hret hr
    · skip
      by_cases hc2 : v0 = (62 : Int32)
      · rw [show (F1_6 v0) = F1_88 from (if_neg hc0).trans ((if_neg hc1).trans (if_pos hc2))] at hr
        refine X.lookupswitchHit hx (g := (mkF m 7 #[.val (.int v0)] [(.int v0)])) rfl rfl (hb hby d1_7) (by decide) (a := 62) (off := 81) (by rw [hc2]; decide) (show (0 : Int) ≤ ((7 : Nat) : Int) + 81 from by decide) _ ?_
        exact b1_88 X hx hZ hw hby hown v0 hret hr
      · skip
        by_cases hc3 : v0 = (92 : Int32)
        · rw [show (F1_6 v0) = F1_88 from (if_neg hc0).trans ((if_neg hc1).trans ((if_neg hc2).trans (if_pos hc3)))] at hr
          refine X.lookupswitchHit hx (g := (mkF m 7 #[.val (.int v0)] [(.int v0)])) rfl rfl (hb hby d1_7) (by decide) (a := 92) (off := 81) (by rw [hc3]; decide) (show (0 : Int) ≤ ((7 : Nat) : Int) + 81 from by decide) _ ?_
          exact b1_88 X hx hZ hw hby hown v0 hret hr
        · skip
          by_cases hc4 : v0 = (94 : Int32)
          · rw [show (F1_6 v0) = F1_88 from (if_neg hc0).trans ((if_neg hc1).trans ((if_neg hc2).trans ((if_neg hc3).trans (if_pos hc4))))] at hr
            refine X.lookupswitchHit hx (g := (mkF m 7 #[.val (.int v0)] [(.int v0)])) rfl rfl (hb hby d1_7) (by decide) (a := 94) (off := 81) (by rw [hc4]; decide) (show (0 : Int) ≤ ((7 : Nat) : Int) + 81 from by decide) _ ?_
            exact b1_88 X hx hZ hw hby hown v0 hret hr
          · skip
            by_cases hc5 : v0 = (96 : Int32)
            · rw [show (F1_6 v0) = F1_88 from (if_neg hc0).trans ((if_neg hc1).trans ((if_neg hc2).trans ((if_neg hc3).trans ((if_neg hc4).trans (if_pos hc5)))))] at hr
              refine X.lookupswitchHit hx (g := (mkF m 7 #[.val (.int v0)] [(.int v0)])) rfl rfl (hb hby d1_7) (by decide) (a := 96) (off := 81) (by rw [hc5]; decide) (show (0 : Int) ≤ ((7 : Nat) : Int) + 81 from by decide) _ ?_
              exact b1_88 X hx hZ hw hby hown v0 hret hr
            · skip
              by_cases hc6 : v0 = (123 : Int32)
              · rw [show (F1_6 v0) = F1_88 from (if_neg hc0).trans ((if_neg hc1).trans ((if_neg hc2).trans ((if_neg hc3).trans ((if_neg hc4).trans ((if_neg hc5).trans (if_pos hc6))))))] at hr
                refine X.lookupswitchHit hx (g := (mkF m 7 #[.val (.int v0)] [(.int v0)])) rfl rfl (hb hby d1_7) (by decide) (a := 123) (off := 81) (by rw [hc6]; decide) (show (0 : Int) ≤ ((7 : Nat) : Int) + 81 from by decide) _ ?_
                exact b1_88 X hx hZ hw hby hown v0 hret hr
              · skip
                by_cases hc7 : v0 = (124 : Int32)
                · rw [show (F1_6 v0) = F1_88 from (if_neg hc0).trans ((if_neg hc1).trans ((if_neg hc2).trans ((if_neg hc3).trans ((if_neg hc4).trans ((if_neg hc5).trans ((if_neg hc6).trans (if_pos hc7)))))))] at hr
                  refine X.lookupswitchHit hx (g := (mkF m 7 #[.val (.int v0)] [(.int v0)])) rfl rfl (hb hby d1_7) (by decide) (a := 124) (off := 81) (by rw [hc7]; decide) (show (0 : Int) ≤ ((7 : Nat) : Int) + 81 from by decide) _ ?_
                  exact b1_88 X hx hZ hw hby hown v0 hret hr
                · skip
                  by_cases hc8 : v0 = (125 : Int32)
                  · rw [show (F1_6 v0) = F1_88 from (if_neg hc0).trans ((if_neg hc1).trans ((if_neg hc2).trans ((if_neg hc3).trans ((if_neg hc4).trans ((if_neg hc5).trans ((if_neg hc6).trans ((if_neg hc7).trans (if_pos hc8))))))))] at hr
                    refine X.lookupswitchHit hx (g := (mkF m 7 #[.val (.int v0)] [(.int v0)])) rfl rfl (hb hby d1_7) (by decide) (a := 125) (off := 81) (by rw [hc8]; decide) (show (0 : Int) ≤ ((7 : Nat) : Int) + 81 from by decide) _ ?_
                    exact b1_88 X hx hZ hw hby hown v0 hret hr
                  · skip
                    rw [show (F1_6 v0) = F1_91 from (if_neg hc0).trans ((if_neg hc1).trans ((if_neg hc2).trans ((if_neg hc3).trans ((if_neg hc4).trans ((if_neg hc5).trans ((if_neg hc6).trans ((if_neg hc7).trans (if_neg hc8))))))))] at hr
                    refine X.lookupswitchMiss hx (g := (mkF m 7 #[.val (.int v0)] [(.int v0)])) rfl rfl (hb hby d1_7) (by decide) (own_miss1_7 hc0 hc1 hc2 hc3 hc4 hc5 hc6 hc7 hc8) (show (0 : Int) ≤ ((7 : Nat) : Int) + 84 from by decide) _ ?_
                    exact b1_91 X hx hZ hw hby hown v0 hret hr
def F1_0 (v0 : Int32) : Int32 := if (32 : Int32) < v0 then (F1_6 v0) else F1_95
theorem b1_0 {p : Program} {l : Launch} {e : Env} {R : Room} {s : State} {m : MethodId} {args : Array Value} {below : List Frame} {meth : Method} {c : Code} {T : State} {locs : List Loc} {cells slots : Nat} {Z : State} {a0 : Array Value} (X : Stand p l e R s m args below meth c T locs cells slots) (hx : p.tables.exec = Jvm.exec) (hZ : Z.Warmed39 s.vm) (hw : ∀ d ∈ tables_1, d.before a0 Z = true) (hby : c.code = prog_16_method_3_code) (hown : s.vm.findClass "com/example/defacto/defacto/graph/Iri" = some m.cls) (v0 : Int32) (hret : meth.sig.returnType = some .boolean) {fs : List Frame} (hr : ∀ (f : JFrame) (acts : List Action), f.method = m → f.locked = none → f.entered = [] → (doReturn e (T.setTop f) acts (some (.int (F1_0 v0)))).1 = T.setFrames fs) : Steps p.tables e below (T.setTop (mkF m 0 #[.val (.int v0)] [])) (T.setFrames fs) := by
  show Steps p.tables e below (T.setTop (mkF m 0 #[.val (.int v0)] [])) _
  refine XS.iloadN X.here hx rfl (hb hby d1_0) rfl ?_
  show Steps p.tables e below (T.setTop (mkF m 1 #[.val (.int v0)] [(.int v0)])) _
  refine XS.bipush X.here hx rfl (hb hby d1_1) ?_
  show Steps p.tables e below (T.setTop (mkF m 3 #[.val (.int v0)] [(.int (32 : Int32)), (.int v0)])) _
  by_cases hc : (32 : Int32) < v0
  · rw [show (F1_0 v0) = (F1_6 v0) from if_pos hc] at hr
    refine XS.icmpNo X.here hx rfl (hb hby d1_3) rfl (tlt hc).2.2.2 ?_
    exact b1_6 X hx hZ hw hby hown v0 hret hr
  · rw [show (F1_0 v0) = F1_95 from if_neg hc] at hr
    refine XS.icmpYes X.here hx rfl (pc0 := 3) (pc' := 95) rfl (hb hby d1_3) rfl (flt hc).2.2.2 (by decide) (by decide) ?_
    exact b1_95 X hx hZ hw hby hown v0 hret hr
theorem pn_1 : plainName "com/example/defacto/defacto/graph/Iri" = true := by first | (simp [plainName, overriddenIn]; done) | decide +kernel
theorem ef_1 (m : MethodId) (p0 : Int32) : entryFrame m #[(.int p0)] 1 = mkF m 0 #[.val (.int p0)] [] := by first | (simp [entryFrame, mkF, argsToLocals, Value.category]; done) | rfl
def Q_rm1 (Z : State) (p0 : Int32) (h0 : Heap) (n0 : Nat) (v : Option Value) (h : Heap) (L : List Loc) : Prop := (v = some (.int (F1_0 p0)) ∧ Fr n0 L ∧ h = h0)
set_option maxRecDepth 65536 in
set_option maxHeartbeats 40000000 in
theorem rm1 (l : Launch) (Z : State) (a0 : Array Value) (hw : ∀ d ∈ tables_1, d.before a0 Z = true) (ws : List Jvm.Cond) (p0 : Int32) (h0 : Heap) (n0 : Nat) (Z0 : n0 ≤ h0.size) :
    MetFree l (⟨"com/example/defacto/defacto/graph/Iri", "mayHold", "(I)Z"⟩ : MethodName) (head1 (Jvm.Cond.code (⟨"com/example/defacto/defacto/graph/Iri", "mayHold", "(I)Z"⟩ : MethodName) prog_16_method_3_code 1 (some .boolean) :: ws) ({ frames := 0, cells := 0, slots := 0, locals := 0 } : Room)) (fun a U => a = #[(.int p0)] ∧ Z.Warmed39 U.vm ∧ U.heap = h0) (fun _ _ _ _ _ => True) (fun _ U o U' => ∃ v L, o = .returned v ∧ Q_rm1 Z p0 h0 n0 v U'.heap L ∧ FrameEnd U o U' L ({ frames := 0, cells := 0, slots := 0, locals := 0 } : Room).cells ({ frames := 0, cells := 0, slots := 0, locals := 0 } : Room).slots) := by
  refine MetFree.of_bodySF (plainFor_of_name pn_1) hisR ?_
  intro p e s m args below meth c s₁ Bd hml0 hP hK
  obtain ⟨rfl, hZ, hh⟩ := hP
  have hx := Bd.exec
  have hby := Bd.bytes
  have hml : c.maxLocals = 1 := hml0
  have hown : s.vm.findClass "com/example/defacto/defacto/graph/Iri" = some m.cls := findClass_of_methodNamed Bd.named
  have hnm := (name_of_methodNamed Bd.named Bd.method).1
  have X0 : Stand p l e ({ frames := 0, cells := 0, slots := 0, locals := 0 } : Room) s m #[(.int p0)] below meth c s₁ [] 0 0 := Stand.of_body Bd
  have e0 : s₁.heap = h0 := by rw [← hh, Bd.state]; rfl
  have N0 := Fr.nil n0
  have pre0 : ∀ t, Steps p.tables e below (s₁.setTop (mkF m 0 #[.val (.int p0)] [])) t → Steps p.tables e below (s₁.setTop (entryFrame m #[(.int p0)] 1)) t := fun t k => castTop (ef_1 m p0) k
  obtain ⟨fs, hr, hrun, hended, hW, hsame⟩ := X0.leave (v := some (.int (F1_0 p0))) (fun h => by rw [Bd.returns] at h; cases h)
  refine ⟨_, _, pre0 _ ?_, hrun, hended, _, _, rfl, ⟨rfl, N0, e0⟩, ⟨_, rfl⟩, hW, hsame.mono (by decide) (by decide)⟩
  exact b1_0 X0 hx hZ hw hby hown p0 Bd.returns hr
theorem d2_0 : decode method_3_code 0 = .ok (.iload_n 0, 1) := by decide +kernel
theorem d2_1 : decode method_3_code 1 = .ok (.bipush 32, 2) := by decide +kernel
theorem d2_3 : decode method_3_code 3 = .ok (.if_icmp .gt 5, 3) := by decide +kernel
theorem d2_6 : decode method_3_code 6 = .ok (.iconst 0, 1) := by decide +kernel
theorem d2_7 : decode method_3_code 7 = .ok (.ireturn, 1) := by decide +kernel
theorem d2_8 : decode method_3_code 8 = .ok (.iload_n 0, 1) := by decide +kernel
theorem d2_9 : decode method_3_code 9 = .ok (.bipush 34, 2) := by decide +kernel
theorem d2_11 : decode method_3_code 11 = .ok (.if_icmp .eq 33, 3) := by decide +kernel
theorem d2_14 : decode method_3_code 14 = .ok (.iload_n 0, 1) := by decide +kernel
theorem d2_15 : decode method_3_code 15 = .ok (.bipush 60, 2) := by decide +kernel
theorem d2_17 : decode method_3_code 17 = .ok (.if_icmp .eq 27, 3) := by decide +kernel
theorem d2_20 : decode method_3_code 20 = .ok (.iload_n 0, 1) := by decide +kernel
theorem d2_21 : decode method_3_code 21 = .ok (.bipush 62, 2) := by decide +kernel
theorem d2_23 : decode method_3_code 23 = .ok (.if_icmp .eq 21, 3) := by decide +kernel
theorem d2_26 : decode method_3_code 26 = .ok (.iload_n 0, 1) := by decide +kernel
theorem d2_27 : decode method_3_code 27 = .ok (.bipush 92, 2) := by decide +kernel
theorem d2_29 : decode method_3_code 29 = .ok (.if_icmp .eq 15, 3) := by decide +kernel
theorem d2_32 : decode method_3_code 32 = .ok (.iload_n 0, 1) := by decide +kernel
theorem d2_33 : decode method_3_code 33 = .ok (.bipush 94, 2) := by decide +kernel
theorem d2_35 : decode method_3_code 35 = .ok (.if_icmp .eq 9, 3) := by decide +kernel
theorem d2_38 : decode method_3_code 38 = .ok (.iload_n 0, 1) := by decide +kernel
theorem d2_39 : decode method_3_code 39 = .ok (.bipush 96, 2) := by decide +kernel
theorem d2_41 : decode method_3_code 41 = .ok (.if_icmp .ne 5, 3) := by decide +kernel
theorem d2_44 : decode method_3_code 44 = .ok (.iconst 0, 1) := by decide +kernel
theorem d2_45 : decode method_3_code 45 = .ok (.ireturn, 1) := by decide +kernel
theorem d2_46 : decode method_3_code 46 = .ok (.iload_n 0, 1) := by decide +kernel
theorem d2_47 : decode method_3_code 47 = .ok (.bipush 123, 2) := by decide +kernel
theorem d2_49 : decode method_3_code 49 = .ok (.if_icmp .eq 15, 3) := by decide +kernel
theorem d2_52 : decode method_3_code 52 = .ok (.iload_n 0, 1) := by decide +kernel
theorem d2_53 : decode method_3_code 53 = .ok (.bipush 124, 2) := by decide +kernel
theorem d2_55 : decode method_3_code 55 = .ok (.if_icmp .eq 9, 3) := by decide +kernel
theorem d2_58 : decode method_3_code 58 = .ok (.iload_n 0, 1) := by decide +kernel
theorem d2_59 : decode method_3_code 59 = .ok (.bipush 125, 2) := by decide +kernel
theorem d2_61 : decode method_3_code 61 = .ok (.if_icmp .ne 5, 3) := by decide +kernel
theorem d2_64 : decode method_3_code 64 = .ok (.iconst 0, 1) := by decide +kernel
theorem d2_65 : decode method_3_code 65 = .ok (.ireturn, 1) := by decide +kernel
theorem d2_66 : decode method_3_code 66 = .ok (.iconst 1, 1) := by decide +kernel
theorem d2_67 : decode method_3_code 67 = .ok (.ireturn, 1) := by decide +kernel
def F2_44 : Int32 := (0 : Int32)
theorem b2_44 {p : Program} {l : Launch} {e : Env} {R : Room} {s : State} {m : MethodId} {args : Array Value} {below : List Frame} {meth : Method} {c : Code} {T : State} {locs : List Loc} {cells slots : Nat} {Z : State} {a0 : Array Value} (X : Stand p l e R s m args below meth c T locs cells slots) (hx : p.tables.exec = Jvm.exec) (hZ : Z.Warmed39 s.vm) (hw : ∀ d ∈ tables_1, d.before a0 Z = true) (hby : c.code = method_3_code) (hown : s.vm.findClass "com/example/defacto/defacto/graph/IriMayHoldPinLaw" = some m.cls) (v0 : Int32) (hret : meth.sig.returnType = some .boolean) {fs : List Frame} (hr : ∀ (f : JFrame) (acts : List Action), f.method = m → f.locked = none → f.entered = [] → (doReturn e (T.setTop f) acts (some (.int F2_44))).1 = T.setFrames fs) : Steps p.tables e below (T.setTop (mkF m 44 #[.val (.int v0)] [])) (T.setFrames fs) := by
  show Steps p.tables e below (T.setTop (mkF m 44 #[.val (.int v0)] [])) _
  refine XS.iconst X.here hx rfl (hb hby d2_44) ?_
  show Steps p.tables e below (T.setTop (mkF m 45 #[.val (.int v0)] [(.int (0 : Int32))])) _
  rw [show F2_44 = nar .boolean (0 : Int32) from rfl] at hr
  exact retN X hx (t := .boolean) hret (by simp) (hb hby d2_45) hr
def F2_64 : Int32 := (0 : Int32)
theorem b2_64 {p : Program} {l : Launch} {e : Env} {R : Room} {s : State} {m : MethodId} {args : Array Value} {below : List Frame} {meth : Method} {c : Code} {T : State} {locs : List Loc} {cells slots : Nat} {Z : State} {a0 : Array Value} (X : Stand p l e R s m args below meth c T locs cells slots) (hx : p.tables.exec = Jvm.exec) (hZ : Z.Warmed39 s.vm) (hw : ∀ d ∈ tables_1, d.before a0 Z = true) (hby : c.code = method_3_code) (hown : s.vm.findClass "com/example/defacto/defacto/graph/IriMayHoldPinLaw" = some m.cls) (v0 : Int32) (hret : meth.sig.returnType = some .boolean) {fs : List Frame} (hr : ∀ (f : JFrame) (acts : List Action), f.method = m → f.locked = none → f.entered = [] → (doReturn e (T.setTop f) acts (some (.int F2_64))).1 = T.setFrames fs) : Steps p.tables e below (T.setTop (mkF m 64 #[.val (.int v0)] [])) (T.setFrames fs) := by
  show Steps p.tables e below (T.setTop (mkF m 64 #[.val (.int v0)] [])) _
  refine XS.iconst X.here hx rfl (hb hby d2_64) ?_
  show Steps p.tables e below (T.setTop (mkF m 65 #[.val (.int v0)] [(.int (0 : Int32))])) _
  rw [show F2_64 = nar .boolean (0 : Int32) from rfl] at hr
  exact retN X hx (t := .boolean) hret (by simp) (hb hby d2_65) hr
def F2_66 : Int32 := (1 : Int32)
theorem b2_66 {p : Program} {l : Launch} {e : Env} {R : Room} {s : State} {m : MethodId} {args : Array Value} {below : List Frame} {meth : Method} {c : Code} {T : State} {locs : List Loc} {cells slots : Nat} {Z : State} {a0 : Array Value} (X : Stand p l e R s m args below meth c T locs cells slots) (hx : p.tables.exec = Jvm.exec) (hZ : Z.Warmed39 s.vm) (hw : ∀ d ∈ tables_1, d.before a0 Z = true) (hby : c.code = method_3_code) (hown : s.vm.findClass "com/example/defacto/defacto/graph/IriMayHoldPinLaw" = some m.cls) (v0 : Int32) (hret : meth.sig.returnType = some .boolean) {fs : List Frame} (hr : ∀ (f : JFrame) (acts : List Action), f.method = m → f.locked = none → f.entered = [] → (doReturn e (T.setTop f) acts (some (.int F2_66))).1 = T.setFrames fs) : Steps p.tables e below (T.setTop (mkF m 66 #[.val (.int v0)] [])) (T.setFrames fs) := by
  show Steps p.tables e below (T.setTop (mkF m 66 #[.val (.int v0)] [])) _
  refine XS.iconst X.here hx rfl (hb hby d2_66) ?_
  show Steps p.tables e below (T.setTop (mkF m 67 #[.val (.int v0)] [(.int (1 : Int32))])) _
  rw [show F2_66 = nar .boolean (1 : Int32) from rfl] at hr
  exact retN X hx (t := .boolean) hret (by simp) (hb hby d2_67) hr
def F2_58 (v0 : Int32) : Int32 := if v0 = (125 : Int32) then F2_64 else F2_66
theorem b2_58 {p : Program} {l : Launch} {e : Env} {R : Room} {s : State} {m : MethodId} {args : Array Value} {below : List Frame} {meth : Method} {c : Code} {T : State} {locs : List Loc} {cells slots : Nat} {Z : State} {a0 : Array Value} (X : Stand p l e R s m args below meth c T locs cells slots) (hx : p.tables.exec = Jvm.exec) (hZ : Z.Warmed39 s.vm) (hw : ∀ d ∈ tables_1, d.before a0 Z = true) (hby : c.code = method_3_code) (hown : s.vm.findClass "com/example/defacto/defacto/graph/IriMayHoldPinLaw" = some m.cls) (v0 : Int32) (hret : meth.sig.returnType = some .boolean) {fs : List Frame} (hr : ∀ (f : JFrame) (acts : List Action), f.method = m → f.locked = none → f.entered = [] → (doReturn e (T.setTop f) acts (some (.int (F2_58 v0)))).1 = T.setFrames fs) : Steps p.tables e below (T.setTop (mkF m 58 #[.val (.int v0)] [])) (T.setFrames fs) := by
  show Steps p.tables e below (T.setTop (mkF m 58 #[.val (.int v0)] [])) _
  refine XS.iloadN X.here hx rfl (hb hby d2_58) rfl ?_
  show Steps p.tables e below (T.setTop (mkF m 59 #[.val (.int v0)] [(.int v0)])) _
  refine XS.bipush X.here hx rfl (hb hby d2_59) ?_
  show Steps p.tables e below (T.setTop (mkF m 61 #[.val (.int v0)] [(.int (125 : Int32)), (.int v0)])) _
  by_cases hc : v0 = (125 : Int32)
  · rw [show (F2_58 v0) = F2_64 from if_pos hc] at hr
    refine XS.icmpNo X.here hx rfl (hb hby d2_61) rfl (teq hc).2 ?_
    exact b2_64 X hx hZ hw hby hown v0 hret hr
  · rw [show (F2_58 v0) = F2_66 from if_neg hc] at hr
    refine XS.icmpYes X.here hx rfl (pc0 := 61) (pc' := 66) rfl (hb hby d2_61) rfl (feq hc).2 (by decide) (by decide) ?_
    exact b2_66 X hx hZ hw hby hown v0 hret hr
def F2_52 (v0 : Int32) : Int32 := if v0 = (124 : Int32) then F2_64 else (F2_58 v0)
theorem b2_52 {p : Program} {l : Launch} {e : Env} {R : Room} {s : State} {m : MethodId} {args : Array Value} {below : List Frame} {meth : Method} {c : Code} {T : State} {locs : List Loc} {cells slots : Nat} {Z : State} {a0 : Array Value} (X : Stand p l e R s m args below meth c T locs cells slots) (hx : p.tables.exec = Jvm.exec) (hZ : Z.Warmed39 s.vm) (hw : ∀ d ∈ tables_1, d.before a0 Z = true) (hby : c.code = method_3_code) (hown : s.vm.findClass "com/example/defacto/defacto/graph/IriMayHoldPinLaw" = some m.cls) (v0 : Int32) (hret : meth.sig.returnType = some .boolean) {fs : List Frame} (hr : ∀ (f : JFrame) (acts : List Action), f.method = m → f.locked = none → f.entered = [] → (doReturn e (T.setTop f) acts (some (.int (F2_52 v0)))).1 = T.setFrames fs) : Steps p.tables e below (T.setTop (mkF m 52 #[.val (.int v0)] [])) (T.setFrames fs) := by
  show Steps p.tables e below (T.setTop (mkF m 52 #[.val (.int v0)] [])) _
  refine XS.iloadN X.here hx rfl (hb hby d2_52) rfl ?_
  show Steps p.tables e below (T.setTop (mkF m 53 #[.val (.int v0)] [(.int v0)])) _
  refine XS.bipush X.here hx rfl (hb hby d2_53) ?_
  show Steps p.tables e below (T.setTop (mkF m 55 #[.val (.int v0)] [(.int (124 : Int32)), (.int v0)])) _
  by_cases hc : v0 = (124 : Int32)
  · rw [show (F2_52 v0) = F2_64 from if_pos hc] at hr
    refine XS.icmpYes X.here hx rfl (pc0 := 55) (pc' := 64) rfl (hb hby d2_55) rfl (teq hc).1 (by decide) (by decide) ?_
    exact b2_64 X hx hZ hw hby hown v0 hret hr
  · rw [show (F2_52 v0) = (F2_58 v0) from if_neg hc] at hr
    refine XS.icmpNo X.here hx rfl (hb hby d2_55) rfl (feq hc).1 ?_
    exact b2_58 X hx hZ hw hby hown v0 hret hr
def F2_46 (v0 : Int32) : Int32 := if v0 = (123 : Int32) then F2_64 else (F2_52 v0)
theorem b2_46 {p : Program} {l : Launch} {e : Env} {R : Room} {s : State} {m : MethodId} {args : Array Value} {below : List Frame} {meth : Method} {c : Code} {T : State} {locs : List Loc} {cells slots : Nat} {Z : State} {a0 : Array Value} (X : Stand p l e R s m args below meth c T locs cells slots) (hx : p.tables.exec = Jvm.exec) (hZ : Z.Warmed39 s.vm) (hw : ∀ d ∈ tables_1, d.before a0 Z = true) (hby : c.code = method_3_code) (hown : s.vm.findClass "com/example/defacto/defacto/graph/IriMayHoldPinLaw" = some m.cls) (v0 : Int32) (hret : meth.sig.returnType = some .boolean) {fs : List Frame} (hr : ∀ (f : JFrame) (acts : List Action), f.method = m → f.locked = none → f.entered = [] → (doReturn e (T.setTop f) acts (some (.int (F2_46 v0)))).1 = T.setFrames fs) : Steps p.tables e below (T.setTop (mkF m 46 #[.val (.int v0)] [])) (T.setFrames fs) := by
  show Steps p.tables e below (T.setTop (mkF m 46 #[.val (.int v0)] [])) _
  refine XS.iloadN X.here hx rfl (hb hby d2_46) rfl ?_
  show Steps p.tables e below (T.setTop (mkF m 47 #[.val (.int v0)] [(.int v0)])) _
  refine XS.bipush X.here hx rfl (hb hby d2_47) ?_
  show Steps p.tables e below (T.setTop (mkF m 49 #[.val (.int v0)] [(.int (123 : Int32)), (.int v0)])) _
  by_cases hc : v0 = (123 : Int32)
  · rw [show (F2_46 v0) = F2_64 from if_pos hc] at hr
    refine XS.icmpYes X.here hx rfl (pc0 := 49) (pc' := 64) rfl (hb hby d2_49) rfl (teq hc).1 (by decide) (by decide) ?_
    exact b2_64 X hx hZ hw hby hown v0 hret hr
  · rw [show (F2_46 v0) = (F2_52 v0) from if_neg hc] at hr
    refine XS.icmpNo X.here hx rfl (hb hby d2_49) rfl (feq hc).1 ?_
    exact b2_52 X hx hZ hw hby hown v0 hret hr
def F2_38 (v0 : Int32) : Int32 := if v0 = (96 : Int32) then F2_44 else (F2_46 v0)
theorem b2_38 {p : Program} {l : Launch} {e : Env} {R : Room} {s : State} {m : MethodId} {args : Array Value} {below : List Frame} {meth : Method} {c : Code} {T : State} {locs : List Loc} {cells slots : Nat} {Z : State} {a0 : Array Value} (X : Stand p l e R s m args below meth c T locs cells slots) (hx : p.tables.exec = Jvm.exec) (hZ : Z.Warmed39 s.vm) (hw : ∀ d ∈ tables_1, d.before a0 Z = true) (hby : c.code = method_3_code) (hown : s.vm.findClass "com/example/defacto/defacto/graph/IriMayHoldPinLaw" = some m.cls) (v0 : Int32) (hret : meth.sig.returnType = some .boolean) {fs : List Frame} (hr : ∀ (f : JFrame) (acts : List Action), f.method = m → f.locked = none → f.entered = [] → (doReturn e (T.setTop f) acts (some (.int (F2_38 v0)))).1 = T.setFrames fs) : Steps p.tables e below (T.setTop (mkF m 38 #[.val (.int v0)] [])) (T.setFrames fs) := by
  show Steps p.tables e below (T.setTop (mkF m 38 #[.val (.int v0)] [])) _
  refine XS.iloadN X.here hx rfl (hb hby d2_38) rfl ?_
  show Steps p.tables e below (T.setTop (mkF m 39 #[.val (.int v0)] [(.int v0)])) _
  refine XS.bipush X.here hx rfl (hb hby d2_39) ?_
  show Steps p.tables e below (T.setTop (mkF m 41 #[.val (.int v0)] [(.int (96 : Int32)), (.int v0)])) _
  by_cases hc : v0 = (96 : Int32)
  · rw [show (F2_38 v0) = F2_44 from if_pos hc] at hr
    refine XS.icmpNo X.here hx rfl (hb hby d2_41) rfl (teq hc).2 ?_
    exact b2_44 X hx hZ hw hby hown v0 hret hr
  · rw [show (F2_38 v0) = (F2_46 v0) from if_neg hc] at hr
    refine XS.icmpYes X.here hx rfl (pc0 := 41) (pc' := 46) rfl (hb hby d2_41) rfl (feq hc).2 (by decide) (by decide) ?_
    exact b2_46 X hx hZ hw hby hown v0 hret hr
def F2_32 (v0 : Int32) : Int32 := if v0 = (94 : Int32) then F2_44 else (F2_38 v0)
theorem b2_32 {p : Program} {l : Launch} {e : Env} {R : Room} {s : State} {m : MethodId} {args : Array Value} {below : List Frame} {meth : Method} {c : Code} {T : State} {locs : List Loc} {cells slots : Nat} {Z : State} {a0 : Array Value} (X : Stand p l e R s m args below meth c T locs cells slots) (hx : p.tables.exec = Jvm.exec) (hZ : Z.Warmed39 s.vm) (hw : ∀ d ∈ tables_1, d.before a0 Z = true) (hby : c.code = method_3_code) (hown : s.vm.findClass "com/example/defacto/defacto/graph/IriMayHoldPinLaw" = some m.cls) (v0 : Int32) (hret : meth.sig.returnType = some .boolean) {fs : List Frame} (hr : ∀ (f : JFrame) (acts : List Action), f.method = m → f.locked = none → f.entered = [] → (doReturn e (T.setTop f) acts (some (.int (F2_32 v0)))).1 = T.setFrames fs) : Steps p.tables e below (T.setTop (mkF m 32 #[.val (.int v0)] [])) (T.setFrames fs) := by
  show Steps p.tables e below (T.setTop (mkF m 32 #[.val (.int v0)] [])) _
  refine XS.iloadN X.here hx rfl (hb hby d2_32) rfl ?_
  show Steps p.tables e below (T.setTop (mkF m 33 #[.val (.int v0)] [(.int v0)])) _
  refine XS.bipush X.here hx rfl (hb hby d2_33) ?_
  show Steps p.tables e below (T.setTop (mkF m 35 #[.val (.int v0)] [(.int (94 : Int32)), (.int v0)])) _
  by_cases hc : v0 = (94 : Int32)
  · rw [show (F2_32 v0) = F2_44 from if_pos hc] at hr
    refine XS.icmpYes X.here hx rfl (pc0 := 35) (pc' := 44) rfl (hb hby d2_35) rfl (teq hc).1 (by decide) (by decide) ?_
    exact b2_44 X hx hZ hw hby hown v0 hret hr
  · rw [show (F2_32 v0) = (F2_38 v0) from if_neg hc] at hr
    refine XS.icmpNo X.here hx rfl (hb hby d2_35) rfl (feq hc).1 ?_
    exact b2_38 X hx hZ hw hby hown v0 hret hr
def F2_26 (v0 : Int32) : Int32 := if v0 = (92 : Int32) then F2_44 else (F2_32 v0)
theorem b2_26 {p : Program} {l : Launch} {e : Env} {R : Room} {s : State} {m : MethodId} {args : Array Value} {below : List Frame} {meth : Method} {c : Code} {T : State} {locs : List Loc} {cells slots : Nat} {Z : State} {a0 : Array Value} (X : Stand p l e R s m args below meth c T locs cells slots) (hx : p.tables.exec = Jvm.exec) (hZ : Z.Warmed39 s.vm) (hw : ∀ d ∈ tables_1, d.before a0 Z = true) (hby : c.code = method_3_code) (hown : s.vm.findClass "com/example/defacto/defacto/graph/IriMayHoldPinLaw" = some m.cls) (v0 : Int32) (hret : meth.sig.returnType = some .boolean) {fs : List Frame} (hr : ∀ (f : JFrame) (acts : List Action), f.method = m → f.locked = none → f.entered = [] → (doReturn e (T.setTop f) acts (some (.int (F2_26 v0)))).1 = T.setFrames fs) : Steps p.tables e below (T.setTop (mkF m 26 #[.val (.int v0)] [])) (T.setFrames fs) := by
  show Steps p.tables e below (T.setTop (mkF m 26 #[.val (.int v0)] [])) _
  refine XS.iloadN X.here hx rfl (hb hby d2_26) rfl ?_
  show Steps p.tables e below (T.setTop (mkF m 27 #[.val (.int v0)] [(.int v0)])) _
  refine XS.bipush X.here hx rfl (hb hby d2_27) ?_
  show Steps p.tables e below (T.setTop (mkF m 29 #[.val (.int v0)] [(.int (92 : Int32)), (.int v0)])) _
  by_cases hc : v0 = (92 : Int32)
  · rw [show (F2_26 v0) = F2_44 from if_pos hc] at hr
    refine XS.icmpYes X.here hx rfl (pc0 := 29) (pc' := 44) rfl (hb hby d2_29) rfl (teq hc).1 (by decide) (by decide) ?_
    exact b2_44 X hx hZ hw hby hown v0 hret hr
  · rw [show (F2_26 v0) = (F2_32 v0) from if_neg hc] at hr
    refine XS.icmpNo X.here hx rfl (hb hby d2_29) rfl (feq hc).1 ?_
    exact b2_32 X hx hZ hw hby hown v0 hret hr
def F2_20 (v0 : Int32) : Int32 := if v0 = (62 : Int32) then F2_44 else (F2_26 v0)
theorem b2_20 {p : Program} {l : Launch} {e : Env} {R : Room} {s : State} {m : MethodId} {args : Array Value} {below : List Frame} {meth : Method} {c : Code} {T : State} {locs : List Loc} {cells slots : Nat} {Z : State} {a0 : Array Value} (X : Stand p l e R s m args below meth c T locs cells slots) (hx : p.tables.exec = Jvm.exec) (hZ : Z.Warmed39 s.vm) (hw : ∀ d ∈ tables_1, d.before a0 Z = true) (hby : c.code = method_3_code) (hown : s.vm.findClass "com/example/defacto/defacto/graph/IriMayHoldPinLaw" = some m.cls) (v0 : Int32) (hret : meth.sig.returnType = some .boolean) {fs : List Frame} (hr : ∀ (f : JFrame) (acts : List Action), f.method = m → f.locked = none → f.entered = [] → (doReturn e (T.setTop f) acts (some (.int (F2_20 v0)))).1 = T.setFrames fs) : Steps p.tables e below (T.setTop (mkF m 20 #[.val (.int v0)] [])) (T.setFrames fs) := by
  show Steps p.tables e below (T.setTop (mkF m 20 #[.val (.int v0)] [])) _
  refine XS.iloadN X.here hx rfl (hb hby d2_20) rfl ?_
  show Steps p.tables e below (T.setTop (mkF m 21 #[.val (.int v0)] [(.int v0)])) _
  refine XS.bipush X.here hx rfl (hb hby d2_21) ?_
  show Steps p.tables e below (T.setTop (mkF m 23 #[.val (.int v0)] [(.int (62 : Int32)), (.int v0)])) _
  by_cases hc : v0 = (62 : Int32)
  · rw [show (F2_20 v0) = F2_44 from if_pos hc] at hr
    refine XS.icmpYes X.here hx rfl (pc0 := 23) (pc' := 44) rfl (hb hby d2_23) rfl (teq hc).1 (by decide) (by decide) ?_
    exact b2_44 X hx hZ hw hby hown v0 hret hr
  · rw [show (F2_20 v0) = (F2_26 v0) from if_neg hc] at hr
    refine XS.icmpNo X.here hx rfl (hb hby d2_23) rfl (feq hc).1 ?_
    exact b2_26 X hx hZ hw hby hown v0 hret hr
def F2_14 (v0 : Int32) : Int32 := if v0 = (60 : Int32) then F2_44 else (F2_20 v0)
theorem b2_14 {p : Program} {l : Launch} {e : Env} {R : Room} {s : State} {m : MethodId} {args : Array Value} {below : List Frame} {meth : Method} {c : Code} {T : State} {locs : List Loc} {cells slots : Nat} {Z : State} {a0 : Array Value} (X : Stand p l e R s m args below meth c T locs cells slots) (hx : p.tables.exec = Jvm.exec) (hZ : Z.Warmed39 s.vm) (hw : ∀ d ∈ tables_1, d.before a0 Z = true) (hby : c.code = method_3_code) (hown : s.vm.findClass "com/example/defacto/defacto/graph/IriMayHoldPinLaw" = some m.cls) (v0 : Int32) (hret : meth.sig.returnType = some .boolean) {fs : List Frame} (hr : ∀ (f : JFrame) (acts : List Action), f.method = m → f.locked = none → f.entered = [] → (doReturn e (T.setTop f) acts (some (.int (F2_14 v0)))).1 = T.setFrames fs) : Steps p.tables e below (T.setTop (mkF m 14 #[.val (.int v0)] [])) (T.setFrames fs) := by
  show Steps p.tables e below (T.setTop (mkF m 14 #[.val (.int v0)] [])) _
  refine XS.iloadN X.here hx rfl (hb hby d2_14) rfl ?_
  show Steps p.tables e below (T.setTop (mkF m 15 #[.val (.int v0)] [(.int v0)])) _
  refine XS.bipush X.here hx rfl (hb hby d2_15) ?_
  show Steps p.tables e below (T.setTop (mkF m 17 #[.val (.int v0)] [(.int (60 : Int32)), (.int v0)])) _
  by_cases hc : v0 = (60 : Int32)
  · rw [show (F2_14 v0) = F2_44 from if_pos hc] at hr
    refine XS.icmpYes X.here hx rfl (pc0 := 17) (pc' := 44) rfl (hb hby d2_17) rfl (teq hc).1 (by decide) (by decide) ?_
    exact b2_44 X hx hZ hw hby hown v0 hret hr
  · rw [show (F2_14 v0) = (F2_20 v0) from if_neg hc] at hr
    refine XS.icmpNo X.here hx rfl (hb hby d2_17) rfl (feq hc).1 ?_
    exact b2_20 X hx hZ hw hby hown v0 hret hr
def F2_8 (v0 : Int32) : Int32 := if v0 = (34 : Int32) then F2_44 else (F2_14 v0)
theorem b2_8 {p : Program} {l : Launch} {e : Env} {R : Room} {s : State} {m : MethodId} {args : Array Value} {below : List Frame} {meth : Method} {c : Code} {T : State} {locs : List Loc} {cells slots : Nat} {Z : State} {a0 : Array Value} (X : Stand p l e R s m args below meth c T locs cells slots) (hx : p.tables.exec = Jvm.exec) (hZ : Z.Warmed39 s.vm) (hw : ∀ d ∈ tables_1, d.before a0 Z = true) (hby : c.code = method_3_code) (hown : s.vm.findClass "com/example/defacto/defacto/graph/IriMayHoldPinLaw" = some m.cls) (v0 : Int32) (hret : meth.sig.returnType = some .boolean) {fs : List Frame} (hr : ∀ (f : JFrame) (acts : List Action), f.method = m → f.locked = none → f.entered = [] → (doReturn e (T.setTop f) acts (some (.int (F2_8 v0)))).1 = T.setFrames fs) : Steps p.tables e below (T.setTop (mkF m 8 #[.val (.int v0)] [])) (T.setFrames fs) := by
  show Steps p.tables e below (T.setTop (mkF m 8 #[.val (.int v0)] [])) _
  refine XS.iloadN X.here hx rfl (hb hby d2_8) rfl ?_
  show Steps p.tables e below (T.setTop (mkF m 9 #[.val (.int v0)] [(.int v0)])) _
  refine XS.bipush X.here hx rfl (hb hby d2_9) ?_
  show Steps p.tables e below (T.setTop (mkF m 11 #[.val (.int v0)] [(.int (34 : Int32)), (.int v0)])) _
  by_cases hc : v0 = (34 : Int32)
  · rw [show (F2_8 v0) = F2_44 from if_pos hc] at hr
    refine XS.icmpYes X.here hx rfl (pc0 := 11) (pc' := 44) rfl (hb hby d2_11) rfl (teq hc).1 (by decide) (by decide) ?_
    exact b2_44 X hx hZ hw hby hown v0 hret hr
  · rw [show (F2_8 v0) = (F2_14 v0) from if_neg hc] at hr
    refine XS.icmpNo X.here hx rfl (hb hby d2_11) rfl (feq hc).1 ?_
    exact b2_14 X hx hZ hw hby hown v0 hret hr
def F2_6 : Int32 := (0 : Int32)
theorem b2_6 {p : Program} {l : Launch} {e : Env} {R : Room} {s : State} {m : MethodId} {args : Array Value} {below : List Frame} {meth : Method} {c : Code} {T : State} {locs : List Loc} {cells slots : Nat} {Z : State} {a0 : Array Value} (X : Stand p l e R s m args below meth c T locs cells slots) (hx : p.tables.exec = Jvm.exec) (hZ : Z.Warmed39 s.vm) (hw : ∀ d ∈ tables_1, d.before a0 Z = true) (hby : c.code = method_3_code) (hown : s.vm.findClass "com/example/defacto/defacto/graph/IriMayHoldPinLaw" = some m.cls) (v0 : Int32) (hret : meth.sig.returnType = some .boolean) {fs : List Frame} (hr : ∀ (f : JFrame) (acts : List Action), f.method = m → f.locked = none → f.entered = [] → (doReturn e (T.setTop f) acts (some (.int F2_6))).1 = T.setFrames fs) : Steps p.tables e below (T.setTop (mkF m 6 #[.val (.int v0)] [])) (T.setFrames fs) := by
  show Steps p.tables e below (T.setTop (mkF m 6 #[.val (.int v0)] [])) _
  refine XS.iconst X.here hx rfl (hb hby d2_6) ?_
  show Steps p.tables e below (T.setTop (mkF m 7 #[.val (.int v0)] [(.int (0 : Int32))])) _
  rw [show F2_6 = nar .boolean (0 : Int32) from rfl] at hr
  exact retN X hx (t := .boolean) hret (by simp) (hb hby d2_7) hr
def F2_0 (v0 : Int32) : Int32 := if (32 : Int32) < v0 then (F2_8 v0) else F2_6
theorem b2_0 {p : Program} {l : Launch} {e : Env} {R : Room} {s : State} {m : MethodId} {args : Array Value} {below : List Frame} {meth : Method} {c : Code} {T : State} {locs : List Loc} {cells slots : Nat} {Z : State} {a0 : Array Value} (X : Stand p l e R s m args below meth c T locs cells slots) (hx : p.tables.exec = Jvm.exec) (hZ : Z.Warmed39 s.vm) (hw : ∀ d ∈ tables_1, d.before a0 Z = true) (hby : c.code = method_3_code) (hown : s.vm.findClass "com/example/defacto/defacto/graph/IriMayHoldPinLaw" = some m.cls) (v0 : Int32) (hret : meth.sig.returnType = some .boolean) {fs : List Frame} (hr : ∀ (f : JFrame) (acts : List Action), f.method = m → f.locked = none → f.entered = [] → (doReturn e (T.setTop f) acts (some (.int (F2_0 v0)))).1 = T.setFrames fs) : Steps p.tables e below (T.setTop (mkF m 0 #[.val (.int v0)] [])) (T.setFrames fs) := by
  show Steps p.tables e below (T.setTop (mkF m 0 #[.val (.int v0)] [])) _
  refine XS.iloadN X.here hx rfl (hb hby d2_0) rfl ?_
  show Steps p.tables e below (T.setTop (mkF m 1 #[.val (.int v0)] [(.int v0)])) _
  refine XS.bipush X.here hx rfl (hb hby d2_1) ?_
  show Steps p.tables e below (T.setTop (mkF m 3 #[.val (.int v0)] [(.int (32 : Int32)), (.int v0)])) _
  by_cases hc : (32 : Int32) < v0
  · rw [show (F2_0 v0) = (F2_8 v0) from if_pos hc] at hr
    refine XS.icmpYes X.here hx rfl (pc0 := 3) (pc' := 8) rfl (hb hby d2_3) rfl (tlt hc).2.2.1 (by decide) (by decide) ?_
    exact b2_8 X hx hZ hw hby hown v0 hret hr
  · rw [show (F2_0 v0) = F2_6 from if_neg hc] at hr
    refine XS.icmpNo X.here hx rfl (hb hby d2_3) rfl (flt hc).2.2.1 ?_
    exact b2_6 X hx hZ hw hby hown v0 hret hr
theorem pn_2 : plainName "com/example/defacto/defacto/graph/IriMayHoldPinLaw" = true := by first | (simp [plainName, overriddenIn]; done) | decide +kernel
theorem ef_2 (m : MethodId) (p0 : Int32) : entryFrame m #[(.int p0)] 1 = mkF m 0 #[.val (.int p0)] [] := by first | (simp [entryFrame, mkF, argsToLocals, Value.category]; done) | rfl
def Q_rm2 (Z : State) (p0 : Int32) (h0 : Heap) (n0 : Nat) (v : Option Value) (h : Heap) (L : List Loc) : Prop := (v = some (.int (F2_0 p0)) ∧ Fr n0 L ∧ h = h0)
set_option maxRecDepth 65536 in
set_option maxHeartbeats 40000000 in
theorem rm2 (l : Launch) (Z : State) (a0 : Array Value) (hw : ∀ d ∈ tables_1, d.before a0 Z = true) (ws : List Jvm.Cond) (p0 : Int32) (h0 : Heap) (n0 : Nat) (Z0 : n0 ≤ h0.size) :
    MetFree l (⟨"com/example/defacto/defacto/graph/IriMayHoldPinLaw", "expected", "(I)Z"⟩ : MethodName) (head1 (Jvm.Cond.code (⟨"com/example/defacto/defacto/graph/IriMayHoldPinLaw", "expected", "(I)Z"⟩ : MethodName) method_3_code 1 (some .boolean) :: ws) ({ frames := 0, cells := 0, slots := 0, locals := 0 } : Room)) (fun a U => a = #[(.int p0)] ∧ Z.Warmed39 U.vm ∧ U.heap = h0) (fun _ _ _ _ _ => True) (fun _ U o U' => ∃ v L, o = .returned v ∧ Q_rm2 Z p0 h0 n0 v U'.heap L ∧ FrameEnd U o U' L ({ frames := 0, cells := 0, slots := 0, locals := 0 } : Room).cells ({ frames := 0, cells := 0, slots := 0, locals := 0 } : Room).slots) := by
  refine MetFree.of_bodySF (plainFor_of_name pn_2) hisR ?_
  intro p e s m args below meth c s₁ Bd hml0 hP hK
  obtain ⟨rfl, hZ, hh⟩ := hP
  have hx := Bd.exec
  have hby := Bd.bytes
  have hml : c.maxLocals = 1 := hml0
  have hown : s.vm.findClass "com/example/defacto/defacto/graph/IriMayHoldPinLaw" = some m.cls := findClass_of_methodNamed Bd.named
  have hnm := (name_of_methodNamed Bd.named Bd.method).1
  have X0 : Stand p l e ({ frames := 0, cells := 0, slots := 0, locals := 0 } : Room) s m #[(.int p0)] below meth c s₁ [] 0 0 := Stand.of_body Bd
  have e0 : s₁.heap = h0 := by rw [← hh, Bd.state]; rfl
  have N0 := Fr.nil n0
  have pre0 : ∀ t, Steps p.tables e below (s₁.setTop (mkF m 0 #[.val (.int p0)] [])) t → Steps p.tables e below (s₁.setTop (entryFrame m #[(.int p0)] 1)) t := fun t k => castTop (ef_2 m p0) k
  obtain ⟨fs, hr, hrun, hended, hW, hsame⟩ := X0.leave (v := some (.int (F2_0 p0))) (fun h => by rw [Bd.returns] at h; cases h)
  refine ⟨_, _, pre0 _ ?_, hrun, hended, _, _, rfl, ⟨rfl, N0, e0⟩, ⟨_, rfl⟩, hW, hsame.mono (by decide) (by decide)⟩
  exact b2_0 X0 hx hZ hw hby hown p0 Bd.returns hr
theorem own_same (v : Int32) : F1_0 v = F2_0 v := by
  by_cases h : (32 : Int32) < v
  · rw [show F1_0 v = F1_6 v from if_pos h, show F2_0 v = F2_8 v from if_pos h]; rfl
  · rw [show F1_0 v = F1_95 from if_neg h, show F2_0 v = F2_6 from if_neg h]; rfl
theorem own_in {p1 : Int32} (h : (p1 &&& (15 : Int32)) < (9 : Int32)) : ¬ (p1 &&& (15 : Int32)) < 0 ∧ (p1 &&& (15 : Int32)).toNatClampNeg < 9 := by
  have a := c_mask p1 15 4 (by decide) (by decide)
  have r : 0 ≤ (p1 &&& (15 : Int32)).toInt := by rw [a]; exact Int.emod_nonneg _ (by decide)
  rw [Int32.lt_iff_toInt_lt] at h ⊢
  have e0 : (0 : Int32).toInt = 0 := rfl
  have e9 : (9 : Int32).toInt = 9 := rfl
  refine ⟨by omega, ?_⟩
  show (p1 &&& (15 : Int32)).toInt.toNat < 9
  omega

theorem pn_0 : plainName "com/example/defacto/defacto/graph/IriMayHoldPinLaw" = true := by first | (simp [plainName, overriddenIn]; done) | decide +kernel
theorem ef_0 (m : MethodId) (p0 : Int32) (p1 : Int32) : entryFrame m #[(.int p0), (.int p1)] maxLocals = mkF m 0 #[.val (.int p0), .val (.int p1), .unset, .unset, .unset] [] := by first | (simp [entryFrame, mkF, argsToLocals, Value.category, maxLocals]; done) | rfl
def Q_rm0a (Z : State) (p0 : Int32) (p1 : Int32) (h0 : Heap) (n0 : Nat) (v : Option Value) (h : Heap) (L : List Loc) : Prop := (v = some (.int (1 : Int32)) ∧ Fr n0 L)
set_option maxRecDepth 65536 in
set_option maxHeartbeats 40000000 in
theorem rm0a (l : Launch) (Z : State) (a0 : Array Value) (hw : ∀ d ∈ tables_1, d.before a0 Z = true) (ws : List Jvm.Cond) (p0 : Int32) (p1 : Int32) (h0 : Heap) (n0 : Nat) (Z0 : n0 ≤ h0.size) (hc61 : (p1 &&& (15 : Int32)) < (9 : Int32)) :
    MetFree l x (head1 (Jvm.Cond.code x code maxLocals ret :: ws) room_1) (fun a U => a = #[(.int p0), (.int p1)] ∧ Z.Warmed39 U.vm ∧ U.heap = h0) (fun _ _ _ _ _ => True) (fun _ U o U' => ∃ v L, o = .returned v ∧ Q_rm0a Z p0 p1 h0 n0 v U'.heap L ∧ FrameEnd U o U' L room_1.cells room_1.slots) := by
  refine MetFree.of_bodySF (plainFor_of_name pn_0) hisR ?_
  intro p e s m args below meth c s₁ Bd hml0 hP hK
  obtain ⟨rfl, hZ, hh⟩ := hP
  have hx := Bd.exec
  have hby := Bd.bytes
  have hml : c.maxLocals = 5 := hml0
  have hown : s.vm.findClass "com/example/defacto/defacto/graph/IriMayHoldPinLaw" = some m.cls := findClass_of_methodNamed Bd.named
  have hnm := (name_of_methodNamed Bd.named Bd.method).1
  have X0 : Stand p l e room_1 s m #[(.int p0), (.int p1)] below meth c s₁ [] 0 0 := Stand.of_body Bd
  have e0 : s₁.heap = h0 := by rw [← hh, Bd.state]; rfl
  have N0 := Fr.nil n0
  have pre0 : ∀ t, Steps p.tables e below (s₁.setTop (mkF m 0 #[.val (.int p0), .val (.int p1), .unset, .unset, .unset] [])) t → Steps p.tables e below (s₁.setTop (entryFrame m #[(.int p0), (.int p1)] maxLocals)) t := fun t k => castTop (ef_0 m p0 p1) k
  obtain ⟨T1, h1, k1, X1, e1, E1, A1, st1⟩ := newP X0 hx hZ (hw _ (List.mem_of_getElem? (i := 0) rfl)) e0 (g := (mkF m 2 #[.val (.int p0), .val (.int p1), .unset, .unset, .unset] [(.int (9 : Int32))])) rfl (hb hby at_2) rfl (by decide) (cap := 9) (by decide) (by decide) (by decide) (by decide)
  obtain ⟨b1, g1⟩ : ∃ z, z = Array.size h0 := ⟨_, rfl⟩
  rw [← g1] at A1 st1
  have G1 : n0 ≤ b1 := Nat.le_trans Z0 (Nat.le_of_eq g1.symm)
  have V1 : IntArr Z T1.heap b1 9 := own_arr_new (by rw [e1]; exact Arv.new A1 (by decide)) (by decide)
  obtain ⟨T2, L2, X2, N2, V2, st2⟩ := own_arr_st X1 hx hZ V1 G1 N0 (g := (mkF m 8 #[.val (.int p0), .val (.int p1), .unset, .unset, .unset] [(.int (60 : Int32)), (.int (0 : Int32)), (.ref b1), (.ref b1)])) (by decide) (by decide) rfl rfl (hb hby at_8)
  obtain ⟨T3, L3, X3, N3, V3, st3⟩ := own_arr_st X2 hx hZ V2 G1 N2 (g := (mkF m 13 #[.val (.int p0), .val (.int p1), .unset, .unset, .unset] [(.int (62 : Int32)), (.int (1 : Int32)), (.ref b1), (.ref b1)])) (by decide) (by decide) rfl rfl (hb hby at_13)
  obtain ⟨T4, L4, X4, N4, V4, st4⟩ := own_arr_st X3 hx hZ V3 G1 N3 (g := (mkF m 18 #[.val (.int p0), .val (.int p1), .unset, .unset, .unset] [(.int (34 : Int32)), (.int (2 : Int32)), (.ref b1), (.ref b1)])) (by decide) (by decide) rfl rfl (hb hby at_18)
  obtain ⟨T5, L5, X5, N5, V5, st5⟩ := own_arr_st X4 hx hZ V4 G1 N4 (g := (mkF m 23 #[.val (.int p0), .val (.int p1), .unset, .unset, .unset] [(.int (123 : Int32)), (.int (3 : Int32)), (.ref b1), (.ref b1)])) (by decide) (by decide) rfl rfl (hb hby at_23)
  obtain ⟨T6, L6, X6, N6, V6, st6⟩ := own_arr_st X5 hx hZ V5 G1 N5 (g := (mkF m 28 #[.val (.int p0), .val (.int p1), .unset, .unset, .unset] [(.int (125 : Int32)), (.int (4 : Int32)), (.ref b1), (.ref b1)])) (by decide) (by decide) rfl rfl (hb hby at_28)
  obtain ⟨T7, L7, X7, N7, V7, st7⟩ := own_arr_st X6 hx hZ V6 G1 N6 (g := (mkF m 33 #[.val (.int p0), .val (.int p1), .unset, .unset, .unset] [(.int (124 : Int32)), (.int (5 : Int32)), (.ref b1), (.ref b1)])) (by decide) (by decide) rfl rfl (hb hby at_33)
  obtain ⟨T8, L8, X8, N8, V8, st8⟩ := own_arr_st X7 hx hZ V7 G1 N7 (g := (mkF m 39 #[.val (.int p0), .val (.int p1), .unset, .unset, .unset] [(.int (94 : Int32)), (.int (6 : Int32)), (.ref b1), (.ref b1)])) (by decide) (by decide) rfl rfl (hb hby at_39)
  obtain ⟨T9, L9, X9, N9, V9, st9⟩ := own_arr_st X8 hx hZ V8 G1 N8 (g := (mkF m 45 #[.val (.int p0), .val (.int p1), .unset, .unset, .unset] [(.int (96 : Int32)), (.int (7 : Int32)), (.ref b1), (.ref b1)])) (by decide) (by decide) rfl rfl (hb hby at_45)
  obtain ⟨T10, L10, X10, N10, V10, st10⟩ := own_arr_st X9 hx hZ V9 G1 N9 (g := (mkF m 51 #[.val (.int p0), .val (.int p1), .unset, .unset, .unset] [(.int (92 : Int32)), (.int (8 : Int32)), (.ref b1), (.ref b1)])) (by decide) (by decide) rfl rfl (hb hby at_51)
  obtain ⟨z11, st11⟩ := own_arr_ld X10 hx hZ V10 (g := (mkF m 66 #[.val (.int p0), .val (.int p1), .val (.ref b1), .val (.int (p1 &&& (15 : Int32))), .unset] [(.int (p1 &&& (15 : Int32))), (.ref b1)])) (own_in hc61) rfl rfl (hb hby at_66)
  obtain ⟨_, _, ⟨T12, L12, k12, n12⟩, -, X12, ⟨Lc12, hQ12, l12, y12, z12⟩, st12⟩ := Jvm.LawKit.callS X10 hx (y := (⟨"com/example/defacto/defacto/graph/Iri", "mayHold", "(I)Z"⟩ : MethodName)) hown (mvT hZ (hw _ (List.mem_of_getElem? (i := 1) rfl))) (mvT hZ (hw _ (List.mem_of_getElem? (i := 2) rfl))) (mvT hZ (hw _ (List.mem_of_getElem? (i := 3) rfl))) (mvT hZ (hw _ (List.mem_of_getElem? (i := 4) rfl))) (by decide) (backOf (W := 0) (rm1 l Z a0 hw [] z11 T10.heap n0 (own_arr_sz G1 V10)) hZ (hw _ (List.mem_of_getElem? (i := 4) rfl)) (hw _ (List.mem_of_getElem? (i := 3) rfl)) (by decide) (by decide)) (g := (mkF m 133 #[.val (.int p0), .val (.int p1), .val (.ref b1), .val (.int (p1 &&& (15 : Int32))), .val (.int z11)] [(.int z11)])) rfl (by rw [hml]; rfl) (argsL := [(.int z11)]) (rest := []) (lenOf pd0 rfl) rfl (by show 2 * 0 + _ ≤ _; exact Nat.le_of_eq rfl) (hb hby at_133) (fun _ _ => ⟨rfl, rfl, (by decide : 1 + 0 ≤ _), (by decide : 9 + 0 ≤ _)⟩)
  dsimp only [Pt.U, Pt.locs, Pt.cells, Pt.slots] at X12 l12 y12 z12 st12 hQ12
  subst l12 y12 z12
  obtain ⟨rfl, N12q, e12⟩ := hQ12
  have N12 := Fr.app N10 N12q
  obtain ⟨_, _, ⟨T13, L13, k13, n13⟩, -, X13, ⟨Lc13, hQ13, l13, y13, z13⟩, st13⟩ := Jvm.LawKit.callS X12 hx (y := (⟨"com/example/defacto/defacto/graph/IriMayHoldPinLaw", "expected", "(I)Z"⟩ : MethodName)) hown (mvT hZ (hw _ (List.mem_of_getElem? (i := 5) rfl))) (mvT hZ (hw _ (List.mem_of_getElem? (i := 6) rfl))) (mvT hZ (hw _ (List.mem_of_getElem? (i := 7) rfl))) (mvT hZ (hw _ (List.mem_of_getElem? (i := 8) rfl))) (by decide) (backOf (W := 1) (rm2 l Z a0 hw [] z11 T10.heap n0 (own_arr_sz G1 V10)) hZ (hw _ (List.mem_of_getElem? (i := 8) rfl)) (hw _ (List.mem_of_getElem? (i := 7) rfl)) (by decide) (by decide)) (g := (mkF m 138 #[.val (.int p0), .val (.int p1), .val (.ref b1), .val (.int (p1 &&& (15 : Int32))), .val (.int z11)] [(.int z11), (.int (F1_0 z11))])) rfl (by rw [hml]; rfl) (argsL := [(.int z11)]) (rest := [(.int (F1_0 z11))]) (lenOf pd0 rfl) rfl (by show 2 * 0 + _ ≤ _; exact Nat.le_of_eq rfl) (hb hby at_138) (fun _ _ => ⟨rfl, e12, (by decide : 1 + 0 ≤ _), (by decide : 9 + 0 ≤ _)⟩)
  dsimp only [Pt.U, Pt.locs, Pt.cells, Pt.slots] at X13 l13 y13 z13 st13 hQ13
  subst l13 y13 z13
  obtain ⟨rfl, N13q, e13⟩ := hQ13
  have N13 := Fr.app N12 N13q
  obtain ⟨fs, hr, hrun, hended, hW, hsame⟩ := X13.leave (v := some (.int (1 : Int32))) (fun h => by rw [Bd.returns] at h; cases h)
  refine ⟨_, _, pre0 _ ?_, hrun, hended, _, _, rfl, ⟨rfl, N13⟩, ⟨_, rfl⟩, hW, hsame.mono (by decide) (by decide)⟩
  show Steps p.tables e below (s₁.setTop (mkF m 0 #[.val (.int p0), .val (.int p1), .unset, .unset, .unset] [])) _
  refine XS.bipush X0.here hx rfl (hb hby at_0) ?_
  show Steps p.tables e below (s₁.setTop (mkF m 2 #[.val (.int p0), .val (.int p1), .unset, .unset, .unset] [(.int (9 : Int32))])) _
  refine st1 _ ?_
  show Steps p.tables e below (T1.setTop (mkF m 4 #[.val (.int p0), .val (.int p1), .unset, .unset, .unset] [(.ref b1)])) _
  refine XS.dup X1.here hx rfl (hb hby at_4) rfl rfl ?_
  show Steps p.tables e below (T1.setTop (mkF m 5 #[.val (.int p0), .val (.int p1), .unset, .unset, .unset] [(.ref b1), (.ref b1)])) _
  refine XS.iconst X1.here hx rfl (hb hby at_5) ?_
  show Steps p.tables e below (T1.setTop (mkF m 6 #[.val (.int p0), .val (.int p1), .unset, .unset, .unset] [(.int (0 : Int32)), (.ref b1), (.ref b1)])) _
  refine XS.bipush X1.here hx rfl (hb hby at_6) ?_
  show Steps p.tables e below (T1.setTop (mkF m 8 #[.val (.int p0), .val (.int p1), .unset, .unset, .unset] [(.int (60 : Int32)), (.int (0 : Int32)), (.ref b1), (.ref b1)])) _
  refine st2 _ ?_
  show Steps p.tables e below (T2.setTop (mkF m 9 #[.val (.int p0), .val (.int p1), .unset, .unset, .unset] [(.ref b1)])) _
  refine XS.dup X2.here hx rfl (hb hby at_9) rfl rfl ?_
  show Steps p.tables e below (T2.setTop (mkF m 10 #[.val (.int p0), .val (.int p1), .unset, .unset, .unset] [(.ref b1), (.ref b1)])) _
  refine XS.iconst X2.here hx rfl (hb hby at_10) ?_
  show Steps p.tables e below (T2.setTop (mkF m 11 #[.val (.int p0), .val (.int p1), .unset, .unset, .unset] [(.int (1 : Int32)), (.ref b1), (.ref b1)])) _
  refine XS.bipush X2.here hx rfl (hb hby at_11) ?_
  show Steps p.tables e below (T2.setTop (mkF m 13 #[.val (.int p0), .val (.int p1), .unset, .unset, .unset] [(.int (62 : Int32)), (.int (1 : Int32)), (.ref b1), (.ref b1)])) _
  refine st3 _ ?_
  show Steps p.tables e below (T3.setTop (mkF m 14 #[.val (.int p0), .val (.int p1), .unset, .unset, .unset] [(.ref b1)])) _
  refine XS.dup X3.here hx rfl (hb hby at_14) rfl rfl ?_
  show Steps p.tables e below (T3.setTop (mkF m 15 #[.val (.int p0), .val (.int p1), .unset, .unset, .unset] [(.ref b1), (.ref b1)])) _
  refine XS.iconst X3.here hx rfl (hb hby at_15) ?_
  show Steps p.tables e below (T3.setTop (mkF m 16 #[.val (.int p0), .val (.int p1), .unset, .unset, .unset] [(.int (2 : Int32)), (.ref b1), (.ref b1)])) _
  refine XS.bipush X3.here hx rfl (hb hby at_16) ?_
  show Steps p.tables e below (T3.setTop (mkF m 18 #[.val (.int p0), .val (.int p1), .unset, .unset, .unset] [(.int (34 : Int32)), (.int (2 : Int32)), (.ref b1), (.ref b1)])) _
  refine st4 _ ?_
  show Steps p.tables e below (T4.setTop (mkF m 19 #[.val (.int p0), .val (.int p1), .unset, .unset, .unset] [(.ref b1)])) _
  refine XS.dup X4.here hx rfl (hb hby at_19) rfl rfl ?_
  show Steps p.tables e below (T4.setTop (mkF m 20 #[.val (.int p0), .val (.int p1), .unset, .unset, .unset] [(.ref b1), (.ref b1)])) _
  refine XS.iconst X4.here hx rfl (hb hby at_20) ?_
  show Steps p.tables e below (T4.setTop (mkF m 21 #[.val (.int p0), .val (.int p1), .unset, .unset, .unset] [(.int (3 : Int32)), (.ref b1), (.ref b1)])) _
  refine XS.bipush X4.here hx rfl (hb hby at_21) ?_
  show Steps p.tables e below (T4.setTop (mkF m 23 #[.val (.int p0), .val (.int p1), .unset, .unset, .unset] [(.int (123 : Int32)), (.int (3 : Int32)), (.ref b1), (.ref b1)])) _
  refine st5 _ ?_
  show Steps p.tables e below (T5.setTop (mkF m 24 #[.val (.int p0), .val (.int p1), .unset, .unset, .unset] [(.ref b1)])) _
  refine XS.dup X5.here hx rfl (hb hby at_24) rfl rfl ?_
  show Steps p.tables e below (T5.setTop (mkF m 25 #[.val (.int p0), .val (.int p1), .unset, .unset, .unset] [(.ref b1), (.ref b1)])) _
  refine XS.iconst X5.here hx rfl (hb hby at_25) ?_
  show Steps p.tables e below (T5.setTop (mkF m 26 #[.val (.int p0), .val (.int p1), .unset, .unset, .unset] [(.int (4 : Int32)), (.ref b1), (.ref b1)])) _
  refine XS.bipush X5.here hx rfl (hb hby at_26) ?_
  show Steps p.tables e below (T5.setTop (mkF m 28 #[.val (.int p0), .val (.int p1), .unset, .unset, .unset] [(.int (125 : Int32)), (.int (4 : Int32)), (.ref b1), (.ref b1)])) _
  refine st6 _ ?_
  show Steps p.tables e below (T6.setTop (mkF m 29 #[.val (.int p0), .val (.int p1), .unset, .unset, .unset] [(.ref b1)])) _
  refine XS.dup X6.here hx rfl (hb hby at_29) rfl rfl ?_
  show Steps p.tables e below (T6.setTop (mkF m 30 #[.val (.int p0), .val (.int p1), .unset, .unset, .unset] [(.ref b1), (.ref b1)])) _
  refine XS.iconst X6.here hx rfl (hb hby at_30) ?_
  show Steps p.tables e below (T6.setTop (mkF m 31 #[.val (.int p0), .val (.int p1), .unset, .unset, .unset] [(.int (5 : Int32)), (.ref b1), (.ref b1)])) _
  refine XS.bipush X6.here hx rfl (hb hby at_31) ?_
  show Steps p.tables e below (T6.setTop (mkF m 33 #[.val (.int p0), .val (.int p1), .unset, .unset, .unset] [(.int (124 : Int32)), (.int (5 : Int32)), (.ref b1), (.ref b1)])) _
  refine st7 _ ?_
  show Steps p.tables e below (T7.setTop (mkF m 34 #[.val (.int p0), .val (.int p1), .unset, .unset, .unset] [(.ref b1)])) _
  refine XS.dup X7.here hx rfl (hb hby at_34) rfl rfl ?_
  show Steps p.tables e below (T7.setTop (mkF m 35 #[.val (.int p0), .val (.int p1), .unset, .unset, .unset] [(.ref b1), (.ref b1)])) _
  refine XS.bipush X7.here hx rfl (hb hby at_35) ?_
  show Steps p.tables e below (T7.setTop (mkF m 37 #[.val (.int p0), .val (.int p1), .unset, .unset, .unset] [(.int (6 : Int32)), (.ref b1), (.ref b1)])) _
  refine XS.bipush X7.here hx rfl (hb hby at_37) ?_
  show Steps p.tables e below (T7.setTop (mkF m 39 #[.val (.int p0), .val (.int p1), .unset, .unset, .unset] [(.int (94 : Int32)), (.int (6 : Int32)), (.ref b1), (.ref b1)])) _
  refine st8 _ ?_
  show Steps p.tables e below (T8.setTop (mkF m 40 #[.val (.int p0), .val (.int p1), .unset, .unset, .unset] [(.ref b1)])) _
  refine XS.dup X8.here hx rfl (hb hby at_40) rfl rfl ?_
  show Steps p.tables e below (T8.setTop (mkF m 41 #[.val (.int p0), .val (.int p1), .unset, .unset, .unset] [(.ref b1), (.ref b1)])) _
  refine XS.bipush X8.here hx rfl (hb hby at_41) ?_
  show Steps p.tables e below (T8.setTop (mkF m 43 #[.val (.int p0), .val (.int p1), .unset, .unset, .unset] [(.int (7 : Int32)), (.ref b1), (.ref b1)])) _
  refine XS.bipush X8.here hx rfl (hb hby at_43) ?_
  show Steps p.tables e below (T8.setTop (mkF m 45 #[.val (.int p0), .val (.int p1), .unset, .unset, .unset] [(.int (96 : Int32)), (.int (7 : Int32)), (.ref b1), (.ref b1)])) _
  refine st9 _ ?_
  show Steps p.tables e below (T9.setTop (mkF m 46 #[.val (.int p0), .val (.int p1), .unset, .unset, .unset] [(.ref b1)])) _
  refine XS.dup X9.here hx rfl (hb hby at_46) rfl rfl ?_
  show Steps p.tables e below (T9.setTop (mkF m 47 #[.val (.int p0), .val (.int p1), .unset, .unset, .unset] [(.ref b1), (.ref b1)])) _
  refine XS.bipush X9.here hx rfl (hb hby at_47) ?_
  show Steps p.tables e below (T9.setTop (mkF m 49 #[.val (.int p0), .val (.int p1), .unset, .unset, .unset] [(.int (8 : Int32)), (.ref b1), (.ref b1)])) _
  refine XS.bipush X9.here hx rfl (hb hby at_49) ?_
  show Steps p.tables e below (T9.setTop (mkF m 51 #[.val (.int p0), .val (.int p1), .unset, .unset, .unset] [(.int (92 : Int32)), (.int (8 : Int32)), (.ref b1), (.ref b1)])) _
  refine st10 _ ?_
  show Steps p.tables e below (T10.setTop (mkF m 52 #[.val (.int p0), .val (.int p1), .unset, .unset, .unset] [(.ref b1)])) _
  refine XS.astoreN X10.here hx rfl (hb hby at_52) rfl rfl (l' := #[.val (.int p0), .val (.int p1), .val (.ref b1), .unset, .unset]) rfl ?_
  show Steps p.tables e below (T10.setTop (mkF m 53 #[.val (.int p0), .val (.int p1), .val (.ref b1), .unset, .unset] [])) _
  refine XS.iloadN X10.here hx rfl (hb hby at_53) rfl ?_
  show Steps p.tables e below (T10.setTop (mkF m 54 #[.val (.int p0), .val (.int p1), .val (.ref b1), .unset, .unset] [(.int p1)])) _
  refine XS.bipush X10.here hx rfl (hb hby at_54) ?_
  show Steps p.tables e below (T10.setTop (mkF m 56 #[.val (.int p0), .val (.int p1), .val (.ref b1), .unset, .unset] [(.int (15 : Int32)), (.int p1)])) _
  refine XS.iand X10.here hx rfl (hb hby at_56) rfl ?_
  show Steps p.tables e below (T10.setTop (mkF m 57 #[.val (.int p0), .val (.int p1), .val (.ref b1), .unset, .unset] [(.int (p1 &&& (15 : Int32)))])) _
  refine XS.istoreN X10.here hx rfl (hb hby at_57) rfl (l' := #[.val (.int p0), .val (.int p1), .val (.ref b1), .val (.int (p1 &&& (15 : Int32))), .unset]) rfl ?_
  show Steps p.tables e below (T10.setTop (mkF m 58 #[.val (.int p0), .val (.int p1), .val (.ref b1), .val (.int (p1 &&& (15 : Int32))), .unset] [])) _
  refine XS.iloadN X10.here hx rfl (hb hby at_58) rfl ?_
  show Steps p.tables e below (T10.setTop (mkF m 59 #[.val (.int p0), .val (.int p1), .val (.ref b1), .val (.int (p1 &&& (15 : Int32))), .unset] [(.int (p1 &&& (15 : Int32)))])) _
  refine XS.bipush X10.here hx rfl (hb hby at_59) ?_
  show Steps p.tables e below (T10.setTop (mkF m 61 #[.val (.int p0), .val (.int p1), .val (.ref b1), .val (.int (p1 &&& (15 : Int32))), .unset] [(.int (9 : Int32)), (.int (p1 &&& (15 : Int32)))])) _
  refine XS.icmpNo X10.here hx rfl (hb hby at_61) rfl (tlt hc61).2.1 ?_
  show Steps p.tables e below (T10.setTop (mkF m 64 #[.val (.int p0), .val (.int p1), .val (.ref b1), .val (.int (p1 &&& (15 : Int32))), .unset] [])) _
  refine XS.aloadN X10.here hx rfl (hb hby at_64) rfl rfl ?_
  show Steps p.tables e below (T10.setTop (mkF m 65 #[.val (.int p0), .val (.int p1), .val (.ref b1), .val (.int (p1 &&& (15 : Int32))), .unset] [(.ref b1)])) _
  refine XS.iloadN X10.here hx rfl (hb hby at_65) rfl ?_
  show Steps p.tables e below (T10.setTop (mkF m 66 #[.val (.int p0), .val (.int p1), .val (.ref b1), .val (.int (p1 &&& (15 : Int32))), .unset] [(.int (p1 &&& (15 : Int32))), (.ref b1)])) _
  refine st11 _ ?_
  show Steps p.tables e below (T10.setTop (mkF m 67 #[.val (.int p0), .val (.int p1), .val (.ref b1), .val (.int (p1 &&& (15 : Int32))), .unset] [(.int z11)])) _
  refine XS.istore X10.here hx rfl (hb hby at_67) rfl (l' := #[.val (.int p0), .val (.int p1), .val (.ref b1), .val (.int (p1 &&& (15 : Int32))), .val (.int z11)]) rfl ?_
  show Steps p.tables e below (T10.setTop (mkF m 69 #[.val (.int p0), .val (.int p1), .val (.ref b1), .val (.int (p1 &&& (15 : Int32))), .val (.int z11)] [])) _
  refine XS.goto X10.here hx rfl (pc0 := 69) (pc' := 131) rfl (hb hby at_69) (by decide) (by decide) ?_
  show Steps p.tables e below (T10.setTop (mkF m 131 #[.val (.int p0), .val (.int p1), .val (.ref b1), .val (.int (p1 &&& (15 : Int32))), .val (.int z11)] [])) _
  refine XS.iload X10.here hx rfl (hb hby at_131) rfl ?_
  show Steps p.tables e below (T10.setTop (mkF m 133 #[.val (.int p0), .val (.int p1), .val (.ref b1), .val (.int (p1 &&& (15 : Int32))), .val (.int z11)] [(.int z11)])) _
  refine st12 _ ?_
  show Steps p.tables e below (T12.setTop (mkF m 136 #[.val (.int p0), .val (.int p1), .val (.ref b1), .val (.int (p1 &&& (15 : Int32))), .val (.int z11)] [(.int (F1_0 z11))])) _
  refine XS.iload X12.here hx rfl (hb hby at_136) rfl ?_
  show Steps p.tables e below (T12.setTop (mkF m 138 #[.val (.int p0), .val (.int p1), .val (.ref b1), .val (.int (p1 &&& (15 : Int32))), .val (.int z11)] [(.int z11), (.int (F1_0 z11))])) _
  refine st13 _ ?_
  show Steps p.tables e below (T13.setTop (mkF m 141 #[.val (.int p0), .val (.int p1), .val (.ref b1), .val (.int (p1 &&& (15 : Int32))), .val (.int z11)] [(.int (F2_0 z11)), (.int (F1_0 z11))])) _
  refine XS.icmpNo X13.here hx rfl (hb hby at_141) rfl (teq (own_same _)).2 ?_
  show Steps p.tables e below (T13.setTop (mkF m 144 #[.val (.int p0), .val (.int p1), .val (.ref b1), .val (.int (p1 &&& (15 : Int32))), .val (.int z11)] [])) _
  refine XS.iconst X13.here hx rfl (hb hby at_144) ?_
  show Steps p.tables e below (T13.setTop (mkF m 145 #[.val (.int p0), .val (.int p1), .val (.ref b1), .val (.int (p1 &&& (15 : Int32))), .val (.int z11)] [(.int (1 : Int32))])) _
  refine XS.goto X13.here hx rfl (pc0 := 145) (pc' := 149) rfl (hb hby at_145) (by decide) (by decide) ?_
  show Steps p.tables e below (T13.setTop (mkF m 149 #[.val (.int p0), .val (.int p1), .val (.ref b1), .val (.int (p1 &&& (15 : Int32))), .val (.int z11)] [(.int (1 : Int32))])) _
  exact retN X13 hx (t := .boolean) Bd.returns (by simp) (hb hby at_149) hr
def F0s_128 (v0 : Int32) : Int32 := v0
theorem b0s_128 {p : Program} {l : Launch} {e : Env} {R : Room} {s : State} {m : MethodId} {args : Array Value} {below : List Frame} {meth : Method} {c : Code} {T : State} {locs : List Loc} {cells slots : Nat} {Z : State} {a0 : Array Value} (X : Stand p l e R s m args below meth c T locs cells slots) (hx : p.tables.exec = Jvm.exec) (hZ : Z.Warmed39 s.vm) (hw : ∀ d ∈ tables_1, d.before a0 Z = true) (hby : c.code = code) (hown : s.vm.findClass "com/example/defacto/defacto/graph/IriMayHoldPinLaw" = some m.cls) (v0 : Int32) (v1 : Int32) (v2 : Addr) (v3 : Int32) (target : State) (kt : Steps p.tables e below (T.setTop (mkF m 131 #[.val (.int v0), .val (.int v1), .val (.ref v2), .val (.int v3), .val (.int (F0s_128 v0))] [])) target) : Steps p.tables e below (T.setTop (mkF m 128 #[.val (.int v0), .val (.int v1), .val (.ref v2), .val (.int v3), .unset] [])) target := by
  show Steps p.tables e below (T.setTop (mkF m 128 #[.val (.int v0), .val (.int v1), .val (.ref v2), .val (.int v3), .unset] [])) _
  refine XS.iloadN X.here hx rfl (hb hby at_128) rfl ?_
  show Steps p.tables e below (T.setTop (mkF m 129 #[.val (.int v0), .val (.int v1), .val (.ref v2), .val (.int v3), .unset] [(.int v0)])) _
  refine XS.istore X.here hx rfl (hb hby at_129) rfl (l' := #[.val (.int v0), .val (.int v1), .val (.ref v2), .val (.int v3), .val (.int v0)]) rfl ?_
  rw [show (F0s_128 v0) = v0 from rfl] at kt
  exact kt
def F0s_119 (v0 : Int32) : Int32 := (v0 &&& (65535 : Int32))
theorem b0s_119 {p : Program} {l : Launch} {e : Env} {R : Room} {s : State} {m : MethodId} {args : Array Value} {below : List Frame} {meth : Method} {c : Code} {T : State} {locs : List Loc} {cells slots : Nat} {Z : State} {a0 : Array Value} (X : Stand p l e R s m args below meth c T locs cells slots) (hx : p.tables.exec = Jvm.exec) (hZ : Z.Warmed39 s.vm) (hw : ∀ d ∈ tables_1, d.before a0 Z = true) (hby : c.code = code) (hown : s.vm.findClass "com/example/defacto/defacto/graph/IriMayHoldPinLaw" = some m.cls) (v0 : Int32) (v1 : Int32) (v2 : Addr) (v3 : Int32) (target : State) (kt : Steps p.tables e below (T.setTop (mkF m 131 #[.val (.int v0), .val (.int v1), .val (.ref v2), .val (.int v3), .val (.int (F0s_119 v0))] [])) target) : Steps p.tables e below (T.setTop (mkF m 119 #[.val (.int v0), .val (.int v1), .val (.ref v2), .val (.int v3), .unset] [])) target := by
  show Steps p.tables e below (T.setTop (mkF m 119 #[.val (.int v0), .val (.int v1), .val (.ref v2), .val (.int v3), .unset] [])) _
  refine XS.iloadN X.here hx rfl (hb hby at_119) rfl ?_
  show Steps p.tables e below (T.setTop (mkF m 120 #[.val (.int v0), .val (.int v1), .val (.ref v2), .val (.int v3), .unset] [(.int v0)])) _
  refine X.ldcInt hx hown (mvT hZ (hw _ (List.mem_of_getElem? (i := 9) rfl))) (g := (mkF m 120 #[.val (.int v0), .val (.int v1), .val (.ref v2), .val (.int v3), .unset] [(.int v0)])) rfl (hb hby at_120) _ ?_
  show Steps p.tables e below (T.setTop (mkF m 122 #[.val (.int v0), .val (.int v1), .val (.ref v2), .val (.int v3), .unset] [(.int (65535 : Int32)), (.int v0)])) _
  refine XS.iand X.here hx rfl (hb hby at_122) rfl ?_
  show Steps p.tables e below (T.setTop (mkF m 123 #[.val (.int v0), .val (.int v1), .val (.ref v2), .val (.int v3), .unset] [(.int (v0 &&& (65535 : Int32)))])) _
  refine XS.istore X.here hx rfl (hb hby at_123) rfl (l' := #[.val (.int v0), .val (.int v1), .val (.ref v2), .val (.int v3), .val (.int (v0 &&& (65535 : Int32)))]) rfl ?_
  show Steps p.tables e below (T.setTop (mkF m 125 #[.val (.int v0), .val (.int v1), .val (.ref v2), .val (.int v3), .val (.int (v0 &&& (65535 : Int32)))] [])) _
  refine XS.goto X.here hx rfl (pc0 := 125) (pc' := 131) rfl (hb hby at_125) (by decide) (by decide) ?_
  rw [show (F0s_119 v0) = (v0 &&& (65535 : Int32)) from rfl] at kt
  exact kt
def F0s_113 (v0 : Int32) (v3 : Int32) : Int32 := if v3 = (12 : Int32) then (F0s_119 v0) else (F0s_128 v0)
theorem b0s_113 {p : Program} {l : Launch} {e : Env} {R : Room} {s : State} {m : MethodId} {args : Array Value} {below : List Frame} {meth : Method} {c : Code} {T : State} {locs : List Loc} {cells slots : Nat} {Z : State} {a0 : Array Value} (X : Stand p l e R s m args below meth c T locs cells slots) (hx : p.tables.exec = Jvm.exec) (hZ : Z.Warmed39 s.vm) (hw : ∀ d ∈ tables_1, d.before a0 Z = true) (hby : c.code = code) (hown : s.vm.findClass "com/example/defacto/defacto/graph/IriMayHoldPinLaw" = some m.cls) (v0 : Int32) (v1 : Int32) (v2 : Addr) (v3 : Int32) (target : State) (kt : Steps p.tables e below (T.setTop (mkF m 131 #[.val (.int v0), .val (.int v1), .val (.ref v2), .val (.int v3), .val (.int (F0s_113 v0 v3))] [])) target) : Steps p.tables e below (T.setTop (mkF m 113 #[.val (.int v0), .val (.int v1), .val (.ref v2), .val (.int v3), .unset] [])) target := by
  show Steps p.tables e below (T.setTop (mkF m 113 #[.val (.int v0), .val (.int v1), .val (.ref v2), .val (.int v3), .unset] [])) _
  refine XS.iloadN X.here hx rfl (hb hby at_113) rfl ?_
  show Steps p.tables e below (T.setTop (mkF m 114 #[.val (.int v0), .val (.int v1), .val (.ref v2), .val (.int v3), .unset] [(.int v3)])) _
  refine XS.bipush X.here hx rfl (hb hby at_114) ?_
  show Steps p.tables e below (T.setTop (mkF m 116 #[.val (.int v0), .val (.int v1), .val (.ref v2), .val (.int v3), .unset] [(.int (12 : Int32)), (.int v3)])) _
  by_cases hc : v3 = (12 : Int32)
  · rw [show (F0s_113 v0 v3) = (F0s_119 v0) from if_pos hc] at kt
    refine XS.icmpNo X.here hx rfl (hb hby at_116) rfl (teq hc).2 ?_
    exact b0s_119 X hx hZ hw hby hown v0 v1 v2 v3 target kt
  · rw [show (F0s_113 v0 v3) = (F0s_128 v0) from if_neg hc] at kt
    refine XS.icmpYes X.here hx rfl (pc0 := 116) (pc' := 128) rfl (hb hby at_116) rfl (feq hc).2 (by decide) (by decide) ?_
    exact b0s_128 X hx hZ hw hby hown v0 v1 v2 v3 target kt
def F0s_104 (v0 : Int32) : Int32 := (v0 &&& (127 : Int32))
theorem b0s_104 {p : Program} {l : Launch} {e : Env} {R : Room} {s : State} {m : MethodId} {args : Array Value} {below : List Frame} {meth : Method} {c : Code} {T : State} {locs : List Loc} {cells slots : Nat} {Z : State} {a0 : Array Value} (X : Stand p l e R s m args below meth c T locs cells slots) (hx : p.tables.exec = Jvm.exec) (hZ : Z.Warmed39 s.vm) (hw : ∀ d ∈ tables_1, d.before a0 Z = true) (hby : c.code = code) (hown : s.vm.findClass "com/example/defacto/defacto/graph/IriMayHoldPinLaw" = some m.cls) (v0 : Int32) (v1 : Int32) (v2 : Addr) (v3 : Int32) (target : State) (kt : Steps p.tables e below (T.setTop (mkF m 131 #[.val (.int v0), .val (.int v1), .val (.ref v2), .val (.int v3), .val (.int (F0s_104 v0))] [])) target) : Steps p.tables e below (T.setTop (mkF m 104 #[.val (.int v0), .val (.int v1), .val (.ref v2), .val (.int v3), .unset] [])) target := by
  show Steps p.tables e below (T.setTop (mkF m 104 #[.val (.int v0), .val (.int v1), .val (.ref v2), .val (.int v3), .unset] [])) _
  refine XS.iloadN X.here hx rfl (hb hby at_104) rfl ?_
  show Steps p.tables e below (T.setTop (mkF m 105 #[.val (.int v0), .val (.int v1), .val (.ref v2), .val (.int v3), .unset] [(.int v0)])) _
  refine XS.bipush X.here hx rfl (hb hby at_105) ?_
  show Steps p.tables e below (T.setTop (mkF m 107 #[.val (.int v0), .val (.int v1), .val (.ref v2), .val (.int v3), .unset] [(.int (127 : Int32)), (.int v0)])) _
  refine XS.iand X.here hx rfl (hb hby at_107) rfl ?_
  show Steps p.tables e below (T.setTop (mkF m 108 #[.val (.int v0), .val (.int v1), .val (.ref v2), .val (.int v3), .unset] [(.int (v0 &&& (127 : Int32)))])) _
  refine XS.istore X.here hx rfl (hb hby at_108) rfl (l' := #[.val (.int v0), .val (.int v1), .val (.ref v2), .val (.int v3), .val (.int (v0 &&& (127 : Int32)))]) rfl ?_
  show Steps p.tables e below (T.setTop (mkF m 110 #[.val (.int v0), .val (.int v1), .val (.ref v2), .val (.int v3), .val (.int (v0 &&& (127 : Int32)))] [])) _
  refine XS.goto X.here hx rfl (pc0 := 110) (pc' := 131) rfl (hb hby at_110) (by decide) (by decide) ?_
  rw [show (F0s_104 v0) = (v0 &&& (127 : Int32)) from rfl] at kt
  exact kt
def F0s_98 (v0 : Int32) (v3 : Int32) : Int32 := if v3 = (11 : Int32) then (F0s_104 v0) else (F0s_113 v0 v3)
theorem b0s_98 {p : Program} {l : Launch} {e : Env} {R : Room} {s : State} {m : MethodId} {args : Array Value} {below : List Frame} {meth : Method} {c : Code} {T : State} {locs : List Loc} {cells slots : Nat} {Z : State} {a0 : Array Value} (X : Stand p l e R s m args below meth c T locs cells slots) (hx : p.tables.exec = Jvm.exec) (hZ : Z.Warmed39 s.vm) (hw : ∀ d ∈ tables_1, d.before a0 Z = true) (hby : c.code = code) (hown : s.vm.findClass "com/example/defacto/defacto/graph/IriMayHoldPinLaw" = some m.cls) (v0 : Int32) (v1 : Int32) (v2 : Addr) (v3 : Int32) (target : State) (kt : Steps p.tables e below (T.setTop (mkF m 131 #[.val (.int v0), .val (.int v1), .val (.ref v2), .val (.int v3), .val (.int (F0s_98 v0 v3))] [])) target) : Steps p.tables e below (T.setTop (mkF m 98 #[.val (.int v0), .val (.int v1), .val (.ref v2), .val (.int v3), .unset] [])) target := by
  show Steps p.tables e below (T.setTop (mkF m 98 #[.val (.int v0), .val (.int v1), .val (.ref v2), .val (.int v3), .unset] [])) _
  refine XS.iloadN X.here hx rfl (hb hby at_98) rfl ?_
  show Steps p.tables e below (T.setTop (mkF m 99 #[.val (.int v0), .val (.int v1), .val (.ref v2), .val (.int v3), .unset] [(.int v3)])) _
  refine XS.bipush X.here hx rfl (hb hby at_99) ?_
  show Steps p.tables e below (T.setTop (mkF m 101 #[.val (.int v0), .val (.int v1), .val (.ref v2), .val (.int v3), .unset] [(.int (11 : Int32)), (.int v3)])) _
  by_cases hc : v3 = (11 : Int32)
  · rw [show (F0s_98 v0 v3) = (F0s_104 v0) from if_pos hc] at kt
    refine XS.icmpNo X.here hx rfl (hb hby at_101) rfl (teq hc).2 ?_
    exact b0s_104 X hx hZ hw hby hown v0 v1 v2 v3 target kt
  · rw [show (F0s_98 v0 v3) = (F0s_113 v0 v3) from if_neg hc] at kt
    refine XS.icmpYes X.here hx rfl (pc0 := 101) (pc' := 113) rfl (hb hby at_101) rfl (feq hc).2 (by decide) (by decide) ?_
    exact b0s_113 X hx hZ hw hby hown v0 v1 v2 v3 target kt
def F0s_91 : Int32 := (33 : Int32)
theorem b0s_91 {p : Program} {l : Launch} {e : Env} {R : Room} {s : State} {m : MethodId} {args : Array Value} {below : List Frame} {meth : Method} {c : Code} {T : State} {locs : List Loc} {cells slots : Nat} {Z : State} {a0 : Array Value} (X : Stand p l e R s m args below meth c T locs cells slots) (hx : p.tables.exec = Jvm.exec) (hZ : Z.Warmed39 s.vm) (hw : ∀ d ∈ tables_1, d.before a0 Z = true) (hby : c.code = code) (hown : s.vm.findClass "com/example/defacto/defacto/graph/IriMayHoldPinLaw" = some m.cls) (v0 : Int32) (v1 : Int32) (v2 : Addr) (v3 : Int32) (target : State) (kt : Steps p.tables e below (T.setTop (mkF m 131 #[.val (.int v0), .val (.int v1), .val (.ref v2), .val (.int v3), .val (.int F0s_91)] [])) target) : Steps p.tables e below (T.setTop (mkF m 91 #[.val (.int v0), .val (.int v1), .val (.ref v2), .val (.int v3), .unset] [])) target := by
  show Steps p.tables e below (T.setTop (mkF m 91 #[.val (.int v0), .val (.int v1), .val (.ref v2), .val (.int v3), .unset] [])) _
  refine XS.bipush X.here hx rfl (hb hby at_91) ?_
  show Steps p.tables e below (T.setTop (mkF m 93 #[.val (.int v0), .val (.int v1), .val (.ref v2), .val (.int v3), .unset] [(.int (33 : Int32))])) _
  refine XS.istore X.here hx rfl (hb hby at_93) rfl (l' := #[.val (.int v0), .val (.int v1), .val (.ref v2), .val (.int v3), .val (.int (33 : Int32))]) rfl ?_
  show Steps p.tables e below (T.setTop (mkF m 95 #[.val (.int v0), .val (.int v1), .val (.ref v2), .val (.int v3), .val (.int (33 : Int32))] [])) _
  refine XS.goto X.here hx rfl (pc0 := 95) (pc' := 131) rfl (hb hby at_95) (by decide) (by decide) ?_
  rw [show F0s_91 = (33 : Int32) from rfl] at kt
  exact kt
def F0s_85 (v0 : Int32) (v3 : Int32) : Int32 := if v3 = (10 : Int32) then F0s_91 else (F0s_98 v0 v3)
theorem b0s_85 {p : Program} {l : Launch} {e : Env} {R : Room} {s : State} {m : MethodId} {args : Array Value} {below : List Frame} {meth : Method} {c : Code} {T : State} {locs : List Loc} {cells slots : Nat} {Z : State} {a0 : Array Value} (X : Stand p l e R s m args below meth c T locs cells slots) (hx : p.tables.exec = Jvm.exec) (hZ : Z.Warmed39 s.vm) (hw : ∀ d ∈ tables_1, d.before a0 Z = true) (hby : c.code = code) (hown : s.vm.findClass "com/example/defacto/defacto/graph/IriMayHoldPinLaw" = some m.cls) (v0 : Int32) (v1 : Int32) (v2 : Addr) (v3 : Int32) (target : State) (kt : Steps p.tables e below (T.setTop (mkF m 131 #[.val (.int v0), .val (.int v1), .val (.ref v2), .val (.int v3), .val (.int (F0s_85 v0 v3))] [])) target) : Steps p.tables e below (T.setTop (mkF m 85 #[.val (.int v0), .val (.int v1), .val (.ref v2), .val (.int v3), .unset] [])) target := by
  show Steps p.tables e below (T.setTop (mkF m 85 #[.val (.int v0), .val (.int v1), .val (.ref v2), .val (.int v3), .unset] [])) _
  refine XS.iloadN X.here hx rfl (hb hby at_85) rfl ?_
  show Steps p.tables e below (T.setTop (mkF m 86 #[.val (.int v0), .val (.int v1), .val (.ref v2), .val (.int v3), .unset] [(.int v3)])) _
  refine XS.bipush X.here hx rfl (hb hby at_86) ?_
  show Steps p.tables e below (T.setTop (mkF m 88 #[.val (.int v0), .val (.int v1), .val (.ref v2), .val (.int v3), .unset] [(.int (10 : Int32)), (.int v3)])) _
  by_cases hc : v3 = (10 : Int32)
  · rw [show (F0s_85 v0 v3) = F0s_91 from if_pos hc] at kt
    refine XS.icmpNo X.here hx rfl (hb hby at_88) rfl (teq hc).2 ?_
    exact b0s_91 X hx hZ hw hby hown v0 v1 v2 v3 target kt
  · rw [show (F0s_85 v0 v3) = (F0s_98 v0 v3) from if_neg hc] at kt
    refine XS.icmpYes X.here hx rfl (pc0 := 88) (pc' := 98) rfl (hb hby at_88) rfl (feq hc).2 (by decide) (by decide) ?_
    exact b0s_98 X hx hZ hw hby hown v0 v1 v2 v3 target kt
def F0s_78 : Int32 := (32 : Int32)
theorem b0s_78 {p : Program} {l : Launch} {e : Env} {R : Room} {s : State} {m : MethodId} {args : Array Value} {below : List Frame} {meth : Method} {c : Code} {T : State} {locs : List Loc} {cells slots : Nat} {Z : State} {a0 : Array Value} (X : Stand p l e R s m args below meth c T locs cells slots) (hx : p.tables.exec = Jvm.exec) (hZ : Z.Warmed39 s.vm) (hw : ∀ d ∈ tables_1, d.before a0 Z = true) (hby : c.code = code) (hown : s.vm.findClass "com/example/defacto/defacto/graph/IriMayHoldPinLaw" = some m.cls) (v0 : Int32) (v1 : Int32) (v2 : Addr) (v3 : Int32) (target : State) (kt : Steps p.tables e below (T.setTop (mkF m 131 #[.val (.int v0), .val (.int v1), .val (.ref v2), .val (.int v3), .val (.int F0s_78)] [])) target) : Steps p.tables e below (T.setTop (mkF m 78 #[.val (.int v0), .val (.int v1), .val (.ref v2), .val (.int v3), .unset] [])) target := by
  show Steps p.tables e below (T.setTop (mkF m 78 #[.val (.int v0), .val (.int v1), .val (.ref v2), .val (.int v3), .unset] [])) _
  refine XS.bipush X.here hx rfl (hb hby at_78) ?_
  show Steps p.tables e below (T.setTop (mkF m 80 #[.val (.int v0), .val (.int v1), .val (.ref v2), .val (.int v3), .unset] [(.int (32 : Int32))])) _
  refine XS.istore X.here hx rfl (hb hby at_80) rfl (l' := #[.val (.int v0), .val (.int v1), .val (.ref v2), .val (.int v3), .val (.int (32 : Int32))]) rfl ?_
  show Steps p.tables e below (T.setTop (mkF m 82 #[.val (.int v0), .val (.int v1), .val (.ref v2), .val (.int v3), .val (.int (32 : Int32))] [])) _
  refine XS.goto X.here hx rfl (pc0 := 82) (pc' := 131) rfl (hb hby at_82) (by decide) (by decide) ?_
  rw [show F0s_78 = (32 : Int32) from rfl] at kt
  exact kt
def F0s_72 (v0 : Int32) (v3 : Int32) : Int32 := if v3 = (9 : Int32) then F0s_78 else (F0s_85 v0 v3)
theorem b0s_72 {p : Program} {l : Launch} {e : Env} {R : Room} {s : State} {m : MethodId} {args : Array Value} {below : List Frame} {meth : Method} {c : Code} {T : State} {locs : List Loc} {cells slots : Nat} {Z : State} {a0 : Array Value} (X : Stand p l e R s m args below meth c T locs cells slots) (hx : p.tables.exec = Jvm.exec) (hZ : Z.Warmed39 s.vm) (hw : ∀ d ∈ tables_1, d.before a0 Z = true) (hby : c.code = code) (hown : s.vm.findClass "com/example/defacto/defacto/graph/IriMayHoldPinLaw" = some m.cls) (v0 : Int32) (v1 : Int32) (v2 : Addr) (v3 : Int32) (target : State) (kt : Steps p.tables e below (T.setTop (mkF m 131 #[.val (.int v0), .val (.int v1), .val (.ref v2), .val (.int v3), .val (.int (F0s_72 v0 v3))] [])) target) : Steps p.tables e below (T.setTop (mkF m 72 #[.val (.int v0), .val (.int v1), .val (.ref v2), .val (.int v3), .unset] [])) target := by
  show Steps p.tables e below (T.setTop (mkF m 72 #[.val (.int v0), .val (.int v1), .val (.ref v2), .val (.int v3), .unset] [])) _
  refine XS.iloadN X.here hx rfl (hb hby at_72) rfl ?_
  show Steps p.tables e below (T.setTop (mkF m 73 #[.val (.int v0), .val (.int v1), .val (.ref v2), .val (.int v3), .unset] [(.int v3)])) _
  refine XS.bipush X.here hx rfl (hb hby at_73) ?_
  show Steps p.tables e below (T.setTop (mkF m 75 #[.val (.int v0), .val (.int v1), .val (.ref v2), .val (.int v3), .unset] [(.int (9 : Int32)), (.int v3)])) _
  by_cases hc : v3 = (9 : Int32)
  · rw [show (F0s_72 v0 v3) = F0s_78 from if_pos hc] at kt
    refine XS.icmpNo X.here hx rfl (hb hby at_75) rfl (teq hc).2 ?_
    exact b0s_78 X hx hZ hw hby hown v0 v1 v2 v3 target kt
  · rw [show (F0s_72 v0 v3) = (F0s_85 v0 v3) from if_neg hc] at kt
    refine XS.icmpYes X.here hx rfl (pc0 := 75) (pc' := 85) rfl (hb hby at_75) rfl (feq hc).2 (by decide) (by decide) ?_
    exact b0s_85 X hx hZ hw hby hown v0 v1 v2 v3 target kt
def Q_rm0b (Z : State) (p0 : Int32) (p1 : Int32) (h0 : Heap) (n0 : Nat) (v : Option Value) (h : Heap) (L : List Loc) : Prop := (v = some (.int (1 : Int32)) ∧ Fr n0 L)
set_option maxRecDepth 65536 in
set_option maxHeartbeats 40000000 in
theorem rm0b (l : Launch) (Z : State) (a0 : Array Value) (hw : ∀ d ∈ tables_1, d.before a0 Z = true) (ws : List Jvm.Cond) (p0 : Int32) (p1 : Int32) (h0 : Heap) (n0 : Nat) (Z0 : n0 ≤ h0.size) (hc61 : ¬ ((p1 &&& (15 : Int32)) < (9 : Int32))) :
    MetFree l x (head1 (Jvm.Cond.code x code maxLocals ret :: ws) room_1) (fun a U => a = #[(.int p0), (.int p1)] ∧ Z.Warmed39 U.vm ∧ U.heap = h0) (fun _ _ _ _ _ => True) (fun _ U o U' => ∃ v L, o = .returned v ∧ Q_rm0b Z p0 p1 h0 n0 v U'.heap L ∧ FrameEnd U o U' L room_1.cells room_1.slots) := by
  refine MetFree.of_bodySF (plainFor_of_name pn_0) hisR ?_
  intro p e s m args below meth c s₁ Bd hml0 hP hK
  obtain ⟨rfl, hZ, hh⟩ := hP
  have hx := Bd.exec
  have hby := Bd.bytes
  have hml : c.maxLocals = 5 := hml0
  have hown : s.vm.findClass "com/example/defacto/defacto/graph/IriMayHoldPinLaw" = some m.cls := findClass_of_methodNamed Bd.named
  have hnm := (name_of_methodNamed Bd.named Bd.method).1
  have X0 : Stand p l e room_1 s m #[(.int p0), (.int p1)] below meth c s₁ [] 0 0 := Stand.of_body Bd
  have e0 : s₁.heap = h0 := by rw [← hh, Bd.state]; rfl
  have N0 := Fr.nil n0
  have pre0 : ∀ t, Steps p.tables e below (s₁.setTop (mkF m 0 #[.val (.int p0), .val (.int p1), .unset, .unset, .unset] [])) t → Steps p.tables e below (s₁.setTop (entryFrame m #[(.int p0), (.int p1)] maxLocals)) t := fun t k => castTop (ef_0 m p0 p1) k
  obtain ⟨T1, h1, k1, X1, e1, E1, A1, st1⟩ := newP X0 hx hZ (hw _ (List.mem_of_getElem? (i := 0) rfl)) e0 (g := (mkF m 2 #[.val (.int p0), .val (.int p1), .unset, .unset, .unset] [(.int (9 : Int32))])) rfl (hb hby at_2) rfl (by decide) (cap := 9) (by decide) (by decide) (by decide) (by decide)
  obtain ⟨b1, g1⟩ : ∃ z, z = Array.size h0 := ⟨_, rfl⟩
  rw [← g1] at A1 st1
  have G1 : n0 ≤ b1 := Nat.le_trans Z0 (Nat.le_of_eq g1.symm)
  have V1 : IntArr Z T1.heap b1 9 := own_arr_new (by rw [e1]; exact Arv.new A1 (by decide)) (by decide)
  obtain ⟨T2, L2, X2, N2, V2, st2⟩ := own_arr_st X1 hx hZ V1 G1 N0 (g := (mkF m 8 #[.val (.int p0), .val (.int p1), .unset, .unset, .unset] [(.int (60 : Int32)), (.int (0 : Int32)), (.ref b1), (.ref b1)])) (by decide) (by decide) rfl rfl (hb hby at_8)
  obtain ⟨T3, L3, X3, N3, V3, st3⟩ := own_arr_st X2 hx hZ V2 G1 N2 (g := (mkF m 13 #[.val (.int p0), .val (.int p1), .unset, .unset, .unset] [(.int (62 : Int32)), (.int (1 : Int32)), (.ref b1), (.ref b1)])) (by decide) (by decide) rfl rfl (hb hby at_13)
  obtain ⟨T4, L4, X4, N4, V4, st4⟩ := own_arr_st X3 hx hZ V3 G1 N3 (g := (mkF m 18 #[.val (.int p0), .val (.int p1), .unset, .unset, .unset] [(.int (34 : Int32)), (.int (2 : Int32)), (.ref b1), (.ref b1)])) (by decide) (by decide) rfl rfl (hb hby at_18)
  obtain ⟨T5, L5, X5, N5, V5, st5⟩ := own_arr_st X4 hx hZ V4 G1 N4 (g := (mkF m 23 #[.val (.int p0), .val (.int p1), .unset, .unset, .unset] [(.int (123 : Int32)), (.int (3 : Int32)), (.ref b1), (.ref b1)])) (by decide) (by decide) rfl rfl (hb hby at_23)
  obtain ⟨T6, L6, X6, N6, V6, st6⟩ := own_arr_st X5 hx hZ V5 G1 N5 (g := (mkF m 28 #[.val (.int p0), .val (.int p1), .unset, .unset, .unset] [(.int (125 : Int32)), (.int (4 : Int32)), (.ref b1), (.ref b1)])) (by decide) (by decide) rfl rfl (hb hby at_28)
  obtain ⟨T7, L7, X7, N7, V7, st7⟩ := own_arr_st X6 hx hZ V6 G1 N6 (g := (mkF m 33 #[.val (.int p0), .val (.int p1), .unset, .unset, .unset] [(.int (124 : Int32)), (.int (5 : Int32)), (.ref b1), (.ref b1)])) (by decide) (by decide) rfl rfl (hb hby at_33)
  obtain ⟨T8, L8, X8, N8, V8, st8⟩ := own_arr_st X7 hx hZ V7 G1 N7 (g := (mkF m 39 #[.val (.int p0), .val (.int p1), .unset, .unset, .unset] [(.int (94 : Int32)), (.int (6 : Int32)), (.ref b1), (.ref b1)])) (by decide) (by decide) rfl rfl (hb hby at_39)
  obtain ⟨T9, L9, X9, N9, V9, st9⟩ := own_arr_st X8 hx hZ V8 G1 N8 (g := (mkF m 45 #[.val (.int p0), .val (.int p1), .unset, .unset, .unset] [(.int (96 : Int32)), (.int (7 : Int32)), (.ref b1), (.ref b1)])) (by decide) (by decide) rfl rfl (hb hby at_45)
  obtain ⟨T10, L10, X10, N10, V10, st10⟩ := own_arr_st X9 hx hZ V9 G1 N9 (g := (mkF m 51 #[.val (.int p0), .val (.int p1), .unset, .unset, .unset] [(.int (92 : Int32)), (.int (8 : Int32)), (.ref b1), (.ref b1)])) (by decide) (by decide) rfl rfl (hb hby at_51)
  obtain ⟨_, _, ⟨T11, L11, k11, n11⟩, -, X11, ⟨Lc11, hQ11, l11, y11, z11⟩, st11⟩ := Jvm.LawKit.callS X10 hx (y := (⟨"com/example/defacto/defacto/graph/Iri", "mayHold", "(I)Z"⟩ : MethodName)) hown (mvT hZ (hw _ (List.mem_of_getElem? (i := 1) rfl))) (mvT hZ (hw _ (List.mem_of_getElem? (i := 2) rfl))) (mvT hZ (hw _ (List.mem_of_getElem? (i := 3) rfl))) (mvT hZ (hw _ (List.mem_of_getElem? (i := 4) rfl))) (by decide) (backOf (W := 0) (rm1 l Z a0 hw [] (F0s_72 p0 (p1 &&& (15 : Int32))) T10.heap n0 (own_arr_sz G1 V10)) hZ (hw _ (List.mem_of_getElem? (i := 4) rfl)) (hw _ (List.mem_of_getElem? (i := 3) rfl)) (by decide) (by decide)) (g := (mkF m 133 #[.val (.int p0), .val (.int p1), .val (.ref b1), .val (.int (p1 &&& (15 : Int32))), .val (.int (F0s_72 p0 (p1 &&& (15 : Int32))))] [(.int (F0s_72 p0 (p1 &&& (15 : Int32))))])) rfl (by rw [hml]; rfl) (argsL := [(.int (F0s_72 p0 (p1 &&& (15 : Int32))))]) (rest := []) (lenOf pd0 rfl) rfl (by show 2 * 0 + _ ≤ _; exact Nat.le_of_eq rfl) (hb hby at_133) (fun _ _ => ⟨rfl, rfl, (by decide : 1 + 0 ≤ _), (by decide : 9 + 0 ≤ _)⟩)
  dsimp only [Pt.U, Pt.locs, Pt.cells, Pt.slots] at X11 l11 y11 z11 st11 hQ11
  subst l11 y11 z11
  obtain ⟨rfl, N11q, e11⟩ := hQ11
  have N11 := Fr.app N10 N11q
  obtain ⟨_, _, ⟨T12, L12, k12, n12⟩, -, X12, ⟨Lc12, hQ12, l12, y12, z12⟩, st12⟩ := Jvm.LawKit.callS X11 hx (y := (⟨"com/example/defacto/defacto/graph/IriMayHoldPinLaw", "expected", "(I)Z"⟩ : MethodName)) hown (mvT hZ (hw _ (List.mem_of_getElem? (i := 5) rfl))) (mvT hZ (hw _ (List.mem_of_getElem? (i := 6) rfl))) (mvT hZ (hw _ (List.mem_of_getElem? (i := 7) rfl))) (mvT hZ (hw _ (List.mem_of_getElem? (i := 8) rfl))) (by decide) (backOf (W := 1) (rm2 l Z a0 hw [] (F0s_72 p0 (p1 &&& (15 : Int32))) T10.heap n0 (own_arr_sz G1 V10)) hZ (hw _ (List.mem_of_getElem? (i := 8) rfl)) (hw _ (List.mem_of_getElem? (i := 7) rfl)) (by decide) (by decide)) (g := (mkF m 138 #[.val (.int p0), .val (.int p1), .val (.ref b1), .val (.int (p1 &&& (15 : Int32))), .val (.int (F0s_72 p0 (p1 &&& (15 : Int32))))] [(.int (F0s_72 p0 (p1 &&& (15 : Int32)))), (.int (F1_0 (F0s_72 p0 (p1 &&& (15 : Int32)))))])) rfl (by rw [hml]; rfl) (argsL := [(.int (F0s_72 p0 (p1 &&& (15 : Int32))))]) (rest := [(.int (F1_0 (F0s_72 p0 (p1 &&& (15 : Int32)))))]) (lenOf pd0 rfl) rfl (by show 2 * 0 + _ ≤ _; exact Nat.le_of_eq rfl) (hb hby at_138) (fun _ _ => ⟨rfl, e11, (by decide : 1 + 0 ≤ _), (by decide : 9 + 0 ≤ _)⟩)
  dsimp only [Pt.U, Pt.locs, Pt.cells, Pt.slots] at X12 l12 y12 z12 st12 hQ12
  subst l12 y12 z12
  obtain ⟨rfl, N12q, e12⟩ := hQ12
  have N12 := Fr.app N11 N12q
  obtain ⟨fs, hr, hrun, hended, hW, hsame⟩ := X12.leave (v := some (.int (1 : Int32))) (fun h => by rw [Bd.returns] at h; cases h)
  refine ⟨_, _, pre0 _ ?_, hrun, hended, _, _, rfl, ⟨rfl, N12⟩, ⟨_, rfl⟩, hW, hsame.mono (by decide) (by decide)⟩
  show Steps p.tables e below (s₁.setTop (mkF m 0 #[.val (.int p0), .val (.int p1), .unset, .unset, .unset] [])) _
  refine XS.bipush X0.here hx rfl (hb hby at_0) ?_
  show Steps p.tables e below (s₁.setTop (mkF m 2 #[.val (.int p0), .val (.int p1), .unset, .unset, .unset] [(.int (9 : Int32))])) _
  refine st1 _ ?_
  show Steps p.tables e below (T1.setTop (mkF m 4 #[.val (.int p0), .val (.int p1), .unset, .unset, .unset] [(.ref b1)])) _
  refine XS.dup X1.here hx rfl (hb hby at_4) rfl rfl ?_
  show Steps p.tables e below (T1.setTop (mkF m 5 #[.val (.int p0), .val (.int p1), .unset, .unset, .unset] [(.ref b1), (.ref b1)])) _
  refine XS.iconst X1.here hx rfl (hb hby at_5) ?_
  show Steps p.tables e below (T1.setTop (mkF m 6 #[.val (.int p0), .val (.int p1), .unset, .unset, .unset] [(.int (0 : Int32)), (.ref b1), (.ref b1)])) _
  refine XS.bipush X1.here hx rfl (hb hby at_6) ?_
  show Steps p.tables e below (T1.setTop (mkF m 8 #[.val (.int p0), .val (.int p1), .unset, .unset, .unset] [(.int (60 : Int32)), (.int (0 : Int32)), (.ref b1), (.ref b1)])) _
  refine st2 _ ?_
  show Steps p.tables e below (T2.setTop (mkF m 9 #[.val (.int p0), .val (.int p1), .unset, .unset, .unset] [(.ref b1)])) _
  refine XS.dup X2.here hx rfl (hb hby at_9) rfl rfl ?_
  show Steps p.tables e below (T2.setTop (mkF m 10 #[.val (.int p0), .val (.int p1), .unset, .unset, .unset] [(.ref b1), (.ref b1)])) _
  refine XS.iconst X2.here hx rfl (hb hby at_10) ?_
  show Steps p.tables e below (T2.setTop (mkF m 11 #[.val (.int p0), .val (.int p1), .unset, .unset, .unset] [(.int (1 : Int32)), (.ref b1), (.ref b1)])) _
  refine XS.bipush X2.here hx rfl (hb hby at_11) ?_
  show Steps p.tables e below (T2.setTop (mkF m 13 #[.val (.int p0), .val (.int p1), .unset, .unset, .unset] [(.int (62 : Int32)), (.int (1 : Int32)), (.ref b1), (.ref b1)])) _
  refine st3 _ ?_
  show Steps p.tables e below (T3.setTop (mkF m 14 #[.val (.int p0), .val (.int p1), .unset, .unset, .unset] [(.ref b1)])) _
  refine XS.dup X3.here hx rfl (hb hby at_14) rfl rfl ?_
  show Steps p.tables e below (T3.setTop (mkF m 15 #[.val (.int p0), .val (.int p1), .unset, .unset, .unset] [(.ref b1), (.ref b1)])) _
  refine XS.iconst X3.here hx rfl (hb hby at_15) ?_
  show Steps p.tables e below (T3.setTop (mkF m 16 #[.val (.int p0), .val (.int p1), .unset, .unset, .unset] [(.int (2 : Int32)), (.ref b1), (.ref b1)])) _
  refine XS.bipush X3.here hx rfl (hb hby at_16) ?_
  show Steps p.tables e below (T3.setTop (mkF m 18 #[.val (.int p0), .val (.int p1), .unset, .unset, .unset] [(.int (34 : Int32)), (.int (2 : Int32)), (.ref b1), (.ref b1)])) _
  refine st4 _ ?_
  show Steps p.tables e below (T4.setTop (mkF m 19 #[.val (.int p0), .val (.int p1), .unset, .unset, .unset] [(.ref b1)])) _
  refine XS.dup X4.here hx rfl (hb hby at_19) rfl rfl ?_
  show Steps p.tables e below (T4.setTop (mkF m 20 #[.val (.int p0), .val (.int p1), .unset, .unset, .unset] [(.ref b1), (.ref b1)])) _
  refine XS.iconst X4.here hx rfl (hb hby at_20) ?_
  show Steps p.tables e below (T4.setTop (mkF m 21 #[.val (.int p0), .val (.int p1), .unset, .unset, .unset] [(.int (3 : Int32)), (.ref b1), (.ref b1)])) _
  refine XS.bipush X4.here hx rfl (hb hby at_21) ?_
  show Steps p.tables e below (T4.setTop (mkF m 23 #[.val (.int p0), .val (.int p1), .unset, .unset, .unset] [(.int (123 : Int32)), (.int (3 : Int32)), (.ref b1), (.ref b1)])) _
  refine st5 _ ?_
  show Steps p.tables e below (T5.setTop (mkF m 24 #[.val (.int p0), .val (.int p1), .unset, .unset, .unset] [(.ref b1)])) _
  refine XS.dup X5.here hx rfl (hb hby at_24) rfl rfl ?_
  show Steps p.tables e below (T5.setTop (mkF m 25 #[.val (.int p0), .val (.int p1), .unset, .unset, .unset] [(.ref b1), (.ref b1)])) _
  refine XS.iconst X5.here hx rfl (hb hby at_25) ?_
  show Steps p.tables e below (T5.setTop (mkF m 26 #[.val (.int p0), .val (.int p1), .unset, .unset, .unset] [(.int (4 : Int32)), (.ref b1), (.ref b1)])) _
  refine XS.bipush X5.here hx rfl (hb hby at_26) ?_
  show Steps p.tables e below (T5.setTop (mkF m 28 #[.val (.int p0), .val (.int p1), .unset, .unset, .unset] [(.int (125 : Int32)), (.int (4 : Int32)), (.ref b1), (.ref b1)])) _
  refine st6 _ ?_
  show Steps p.tables e below (T6.setTop (mkF m 29 #[.val (.int p0), .val (.int p1), .unset, .unset, .unset] [(.ref b1)])) _
  refine XS.dup X6.here hx rfl (hb hby at_29) rfl rfl ?_
  show Steps p.tables e below (T6.setTop (mkF m 30 #[.val (.int p0), .val (.int p1), .unset, .unset, .unset] [(.ref b1), (.ref b1)])) _
  refine XS.iconst X6.here hx rfl (hb hby at_30) ?_
  show Steps p.tables e below (T6.setTop (mkF m 31 #[.val (.int p0), .val (.int p1), .unset, .unset, .unset] [(.int (5 : Int32)), (.ref b1), (.ref b1)])) _
  refine XS.bipush X6.here hx rfl (hb hby at_31) ?_
  show Steps p.tables e below (T6.setTop (mkF m 33 #[.val (.int p0), .val (.int p1), .unset, .unset, .unset] [(.int (124 : Int32)), (.int (5 : Int32)), (.ref b1), (.ref b1)])) _
  refine st7 _ ?_
  show Steps p.tables e below (T7.setTop (mkF m 34 #[.val (.int p0), .val (.int p1), .unset, .unset, .unset] [(.ref b1)])) _
  refine XS.dup X7.here hx rfl (hb hby at_34) rfl rfl ?_
  show Steps p.tables e below (T7.setTop (mkF m 35 #[.val (.int p0), .val (.int p1), .unset, .unset, .unset] [(.ref b1), (.ref b1)])) _
  refine XS.bipush X7.here hx rfl (hb hby at_35) ?_
  show Steps p.tables e below (T7.setTop (mkF m 37 #[.val (.int p0), .val (.int p1), .unset, .unset, .unset] [(.int (6 : Int32)), (.ref b1), (.ref b1)])) _
  refine XS.bipush X7.here hx rfl (hb hby at_37) ?_
  show Steps p.tables e below (T7.setTop (mkF m 39 #[.val (.int p0), .val (.int p1), .unset, .unset, .unset] [(.int (94 : Int32)), (.int (6 : Int32)), (.ref b1), (.ref b1)])) _
  refine st8 _ ?_
  show Steps p.tables e below (T8.setTop (mkF m 40 #[.val (.int p0), .val (.int p1), .unset, .unset, .unset] [(.ref b1)])) _
  refine XS.dup X8.here hx rfl (hb hby at_40) rfl rfl ?_
  show Steps p.tables e below (T8.setTop (mkF m 41 #[.val (.int p0), .val (.int p1), .unset, .unset, .unset] [(.ref b1), (.ref b1)])) _
  refine XS.bipush X8.here hx rfl (hb hby at_41) ?_
  show Steps p.tables e below (T8.setTop (mkF m 43 #[.val (.int p0), .val (.int p1), .unset, .unset, .unset] [(.int (7 : Int32)), (.ref b1), (.ref b1)])) _
  refine XS.bipush X8.here hx rfl (hb hby at_43) ?_
  show Steps p.tables e below (T8.setTop (mkF m 45 #[.val (.int p0), .val (.int p1), .unset, .unset, .unset] [(.int (96 : Int32)), (.int (7 : Int32)), (.ref b1), (.ref b1)])) _
  refine st9 _ ?_
  show Steps p.tables e below (T9.setTop (mkF m 46 #[.val (.int p0), .val (.int p1), .unset, .unset, .unset] [(.ref b1)])) _
  refine XS.dup X9.here hx rfl (hb hby at_46) rfl rfl ?_
  show Steps p.tables e below (T9.setTop (mkF m 47 #[.val (.int p0), .val (.int p1), .unset, .unset, .unset] [(.ref b1), (.ref b1)])) _
  refine XS.bipush X9.here hx rfl (hb hby at_47) ?_
  show Steps p.tables e below (T9.setTop (mkF m 49 #[.val (.int p0), .val (.int p1), .unset, .unset, .unset] [(.int (8 : Int32)), (.ref b1), (.ref b1)])) _
  refine XS.bipush X9.here hx rfl (hb hby at_49) ?_
  show Steps p.tables e below (T9.setTop (mkF m 51 #[.val (.int p0), .val (.int p1), .unset, .unset, .unset] [(.int (92 : Int32)), (.int (8 : Int32)), (.ref b1), (.ref b1)])) _
  refine st10 _ ?_
  show Steps p.tables e below (T10.setTop (mkF m 52 #[.val (.int p0), .val (.int p1), .unset, .unset, .unset] [(.ref b1)])) _
  refine XS.astoreN X10.here hx rfl (hb hby at_52) rfl rfl (l' := #[.val (.int p0), .val (.int p1), .val (.ref b1), .unset, .unset]) rfl ?_
  show Steps p.tables e below (T10.setTop (mkF m 53 #[.val (.int p0), .val (.int p1), .val (.ref b1), .unset, .unset] [])) _
  refine XS.iloadN X10.here hx rfl (hb hby at_53) rfl ?_
  show Steps p.tables e below (T10.setTop (mkF m 54 #[.val (.int p0), .val (.int p1), .val (.ref b1), .unset, .unset] [(.int p1)])) _
  refine XS.bipush X10.here hx rfl (hb hby at_54) ?_
  show Steps p.tables e below (T10.setTop (mkF m 56 #[.val (.int p0), .val (.int p1), .val (.ref b1), .unset, .unset] [(.int (15 : Int32)), (.int p1)])) _
  refine XS.iand X10.here hx rfl (hb hby at_56) rfl ?_
  show Steps p.tables e below (T10.setTop (mkF m 57 #[.val (.int p0), .val (.int p1), .val (.ref b1), .unset, .unset] [(.int (p1 &&& (15 : Int32)))])) _
  refine XS.istoreN X10.here hx rfl (hb hby at_57) rfl (l' := #[.val (.int p0), .val (.int p1), .val (.ref b1), .val (.int (p1 &&& (15 : Int32))), .unset]) rfl ?_
  show Steps p.tables e below (T10.setTop (mkF m 58 #[.val (.int p0), .val (.int p1), .val (.ref b1), .val (.int (p1 &&& (15 : Int32))), .unset] [])) _
  refine XS.iloadN X10.here hx rfl (hb hby at_58) rfl ?_
  show Steps p.tables e below (T10.setTop (mkF m 59 #[.val (.int p0), .val (.int p1), .val (.ref b1), .val (.int (p1 &&& (15 : Int32))), .unset] [(.int (p1 &&& (15 : Int32)))])) _
  refine XS.bipush X10.here hx rfl (hb hby at_59) ?_
  show Steps p.tables e below (T10.setTop (mkF m 61 #[.val (.int p0), .val (.int p1), .val (.ref b1), .val (.int (p1 &&& (15 : Int32))), .unset] [(.int (9 : Int32)), (.int (p1 &&& (15 : Int32)))])) _
  refine XS.icmpYes X10.here hx rfl (pc0 := 61) (pc' := 72) rfl (hb hby at_61) rfl (flt hc61).2.1 (by decide) (by decide) ?_
  show Steps p.tables e below (T10.setTop (mkF m 72 #[.val (.int p0), .val (.int p1), .val (.ref b1), .val (.int (p1 &&& (15 : Int32))), .unset] [])) _
  refine b0s_72 X10 hx hZ hw hby hown p0 p1 b1 (p1 &&& (15 : Int32)) _ ?_
  show Steps p.tables e below (T10.setTop (mkF m 131 #[.val (.int p0), .val (.int p1), .val (.ref b1), .val (.int (p1 &&& (15 : Int32))), .val (.int (F0s_72 p0 (p1 &&& (15 : Int32))))] [])) _
  refine XS.iload X10.here hx rfl (hb hby at_131) rfl ?_
  show Steps p.tables e below (T10.setTop (mkF m 133 #[.val (.int p0), .val (.int p1), .val (.ref b1), .val (.int (p1 &&& (15 : Int32))), .val (.int (F0s_72 p0 (p1 &&& (15 : Int32))))] [(.int (F0s_72 p0 (p1 &&& (15 : Int32))))])) _
  refine st11 _ ?_
  show Steps p.tables e below (T11.setTop (mkF m 136 #[.val (.int p0), .val (.int p1), .val (.ref b1), .val (.int (p1 &&& (15 : Int32))), .val (.int (F0s_72 p0 (p1 &&& (15 : Int32))))] [(.int (F1_0 (F0s_72 p0 (p1 &&& (15 : Int32)))))])) _
  refine XS.iload X11.here hx rfl (hb hby at_136) rfl ?_
  show Steps p.tables e below (T11.setTop (mkF m 138 #[.val (.int p0), .val (.int p1), .val (.ref b1), .val (.int (p1 &&& (15 : Int32))), .val (.int (F0s_72 p0 (p1 &&& (15 : Int32))))] [(.int (F0s_72 p0 (p1 &&& (15 : Int32)))), (.int (F1_0 (F0s_72 p0 (p1 &&& (15 : Int32)))))])) _
  refine st12 _ ?_
  show Steps p.tables e below (T12.setTop (mkF m 141 #[.val (.int p0), .val (.int p1), .val (.ref b1), .val (.int (p1 &&& (15 : Int32))), .val (.int (F0s_72 p0 (p1 &&& (15 : Int32))))] [(.int (F2_0 (F0s_72 p0 (p1 &&& (15 : Int32))))), (.int (F1_0 (F0s_72 p0 (p1 &&& (15 : Int32)))))])) _
  refine XS.icmpNo X12.here hx rfl (hb hby at_141) rfl (teq (own_same _)).2 ?_
  show Steps p.tables e below (T12.setTop (mkF m 144 #[.val (.int p0), .val (.int p1), .val (.ref b1), .val (.int (p1 &&& (15 : Int32))), .val (.int (F0s_72 p0 (p1 &&& (15 : Int32))))] [])) _
  refine XS.iconst X12.here hx rfl (hb hby at_144) ?_
  show Steps p.tables e below (T12.setTop (mkF m 145 #[.val (.int p0), .val (.int p1), .val (.ref b1), .val (.int (p1 &&& (15 : Int32))), .val (.int (F0s_72 p0 (p1 &&& (15 : Int32))))] [(.int (1 : Int32))])) _
  refine XS.goto X12.here hx rfl (pc0 := 145) (pc' := 149) rfl (hb hby at_145) (by decide) (by decide) ?_
  show Steps p.tables e below (T12.setTop (mkF m 149 #[.val (.int p0), .val (.int p1), .val (.ref b1), .val (.int (p1 &&& (15 : Int32))), .val (.int (F0s_72 p0 (p1 &&& (15 : Int32))))] [(.int (1 : Int32))])) _
  exact retN X12 hx (t := .boolean) Bd.returns (by simp) (hb hby at_149) hr
def Q_rm0 (Z : State) (p0 : Int32) (p1 : Int32) (h0 : Heap) (n0 : Nat) (v : Option Value) (h : Heap) (L : List Loc) : Prop := (v = some (.int (1 : Int32)) ∧ Fr n0 L)
set_option maxRecDepth 65536 in
set_option maxHeartbeats 40000000 in
theorem rm0 (l : Launch) (Z : State) (a0 : Array Value) (hw : ∀ d ∈ tables_1, d.before a0 Z = true) (ws : List Jvm.Cond) (p0 : Int32) (p1 : Int32) (h0 : Heap) (n0 : Nat) (Z0 : n0 ≤ h0.size) :
    MetFree l x (head1 (Jvm.Cond.code x code maxLocals ret :: ws) room_1) (fun a U => a = #[(.int p0), (.int p1)] ∧ Z.Warmed39 U.vm ∧ U.heap = h0) (fun _ _ _ _ _ => True) (fun _ U o U' => ∃ v L, o = .returned v ∧ Q_rm0 Z p0 p1 h0 n0 v U'.heap L ∧ FrameEnd U o U' L room_1.cells room_1.slots) := by
  by_cases hc : (p1 &&& (15 : Int32)) < (9 : Int32)
  · exact rm0a l Z a0 hw ws p0 p1 h0 n0 Z0 hc
  · exact rm0b l Z a0 hw ws p0 p1 h0 n0 Z0 hc
set_option maxRecDepth 65536 in
set_option maxHeartbeats 40000000 in
theorem comes_1 {Post : Tables → Env → Array Value → State → Outcome → State → Prop} (hpost : ∀ tb e args s v u, (limb_1_1.after args s (.returned v) u = true ∧ limb_1_2.after args s (.returned v) u = true ∧ True) → FrameEnd s (.returned v) u (Jvm.fieldLocs frame_1_writes args s ++ Jvm.arrayLocs frame_1_arrays args s ++ Jvm.staticLocs frame_1_statics s) 16 128 → Post tb e args s (.returned v) u) :
    ArmFor flags0 classFile x code maxLocals ret World_1 tables_1 room_1 Calls_1 rest_1 Pre_1 Post := by
  intro l hfl _ _ p e ha hc hk s m args below hf hA hF happ hP
  obtain ⟨hcalls, hrest, hpre⟩ := hP
  obtain ⟨-, -, -, hnamed, -, -, -, hat⟩ := (Spec.applies_iff hf).mp happ
  obtain ⟨hg, hn⟩ := and_e (Cond.before_iff.mp (show (Jvm.Cond.and given_1 narrow_1).before args s = true from hpre))
  obtain ⟨gc, g0⟩ := and_e hg
  obtain ⟨k0, g1⟩ := and_e g0
  have k1 := g1
  obtain ⟨w0, w1, rfl⟩ : ∃ w0 w1 : Value, args = #[w0, w1] := by
    have hs : args.size = 2 := by simpa [Cond.value, given_1] using gc
    obtain ⟨L⟩ := args
    match L, hs with
    | [w0, w1], _ => exact ⟨w0, w1, rfl⟩
  have hw := fun d (hd : d ∈ tables_1) => atoms_spec (ws := Jvm.Cond.code x code maxLocals ret :: tables_1) hat d (List.mem_cons_of_mem _ hd)
  obtain ⟨i0, ei0⟩ := is_v k0
  obtain rfl : w0 = (.int i0) := Option.some.inj ei0
  obtain ⟨i1, ei1⟩ := is_v k1
  obtain rfl : w1 = (.int i1) := Option.some.inj ei1
  obtain ⟨n, o, h1, h2, h3, _, L, rfl, ⟨rfl, N⟩, hq⟩ := rm0 l s _ hw tables_1 i0 i1 s.heap s.heap.size (Nat.le_refl _) p e ha hc hk s m _ below hf ((Spec.applies_iff_loose hf).mp happ).1 ⟨rfl, State.Warmed39.refl s, rfl⟩ trivial
  refine ⟨n, _, h1, h2, h3, hpost _ _ _ _ _ _ ⟨Cond.after_iff.mpr rfl, Cond.after_iff.mpr (eq_i res_at (Term.int_eval (1)) rfl), trivial⟩ ⟨hq.1, hq.2.1, (hq.2.2.sift fun y hy => Or.inr (N y hy)).mono (by decide) (by decide)⟩⟩
theorem main_1_1 : Claimed_1_1 := comes_1 fun _ _ _ _ _ _ h hF => ⟨h.1, hF⟩
theorem main_1_2 : Claimed_1_2 := comes_1 fun _ _ _ _ _ _ h hF => ⟨h.2.1, hF⟩
end Jvm.Pilot.@@N@@
namespace Jvm.Pilot.@@N@@
open Jvm Jvm.ClassFile Sem Op Lib Jvm.Free Jvm.Stand Jvm.Pilot.@@N@@.Jvm.D
/-! MADE BY PROGRAM (witnessworld.py) out of the Statement's table words and the real class files: 11 classes; the members and pool entries that the words name. The judged class is class 1, her method 1. -/
namespace start1
open Jvm.ClassFile
def u (s : String) : CpInfo := .utf8 (stringToUtf16 s)
/-- a pool by its gaps: so many unusable entries, then the entry; so many at the end -/
def gap : Nat → List CpInfo → List CpInfo
  | 0, r => r
  | n + 1, r => .unusable :: gap n r
def poolList (es : List (Nat × CpInfo)) (last : Nat) : List CpInfo := es.foldr (fun e r => gap e.1 (e.2 :: r)) (gap last [])
def pool (es : List (Nat × CpInfo)) (last : Nat) : Array CpInfo := ⟨poolList es last⟩
def fileOf (pool : Array CpInfo) (this : Nat) (attrs : Array Attribute := #[]) (ms : Array MethodInfo := #[]) (fl : Nat := 33) (sup : Nat := 0) (ifs : Array Nat := #[]) (fds : Array FieldInfo := #[]) : ClassFile where
  minorVersion := 0
  majorVersion := 65
  constantPool := pool
  accessFlags := fl
  thisClass := this
  superClass := sup
  interfaces := ifs
  fields := fds
  methods := ms
  attributes := attrs
def plain (name : String) (sup : Option ClassId) : Class where
  name := name
  kind := .ordinary
  loader := none
  accessFlags := 33
  super := sup
  interfaces := #[]
  cf := none
  fields := #[]
  methods := #[]
  instanceTypes := #[]
  staticTypes := #[]
  resolved := #[]
  callSites := []
  init := .initialized
  statics := none
  mirror := none

def pool0 : Array CpInfo := pool [(5, u "<init>"), (0, u "()V"), (1, .class_ 10), (1, u "java/lang/Object")] 113

def k0m0 : Method := { name := "<init>", desc := "()V", sig := { parameters := [], returnType := none }, accessFlags := 1, code := none }
/-- java/lang/Object -/
def k0 : Class := { plain "java/lang/Object" none with
  accessFlags := 33
  interfaces := #[]
  cf := some (fileOf pool0 8 #[] #[{ accessFlags := 1, nameIndex := 5, descriptorIndex := 6, attributes := #[] }] 33 0 #[] #[])
  fields := #[]
  methods := #[k0m0]
  instanceTypes := #[]
  staticTypes := #[]
  resolved := Array.replicate 124 none
  statics := none }

def pool1 : Array CpInfo := pool [(2, .class_ 4), (1, u "java/lang/Object"), (0, u "<init>"), (0, u "()V"), (0, .integer 65535), (0, .methodref 9 10), (0, .class_ 11), (0, .nameAndType 12 13), (0, u "com/example/defacto/defacto/graph/Iri"), (0, u "mayHold"), (0, u "(I)Z"), (0, .methodref 15 16), (0, .class_ 17), (0, .nameAndType 18 13), (0, u "com/example/defacto/defacto/graph/IriMayHoldPinLaw"), (0, u "expected"), (2, u "law"), (0, u "(II)Z")] 5

def k1m0 : Method := { name := "<init>", desc := "()V", sig := { parameters := [], returnType := none }, accessFlags := 1, code := none }
def k1c1 : Code := { maxStack := 4, maxLocals := 5, code := code, exceptionTable := #[], attributes := #[] }
def k1m1 : Method := { name := "law", desc := "(II)Z", sig := { parameters := [.int, .int], returnType := some .boolean }, accessFlags := 9, code := some k1c1 }
def k1c2 : Code := { maxStack := 2, maxLocals := 1, code := method_3_code, exceptionTable := #[], attributes := #[] }
def k1m2 : Method := { name := "expected", desc := "(I)Z", sig := { parameters := [.int], returnType := some .boolean }, accessFlags := 10, code := some k1c2 }
/-- com/example/defacto/defacto/graph/IriMayHoldPinLaw -/
def k1 : Class := { plain "com/example/defacto/defacto/graph/IriMayHoldPinLaw" (some 0) with
  accessFlags := 49
  interfaces := #[]
  cf := some (fileOf pool1 15 #[] #[{ accessFlags := 1, nameIndex := 5, descriptorIndex := 6, attributes := #[] }, { accessFlags := 9, nameIndex := 21, descriptorIndex := 22, attributes := #[] }, { accessFlags := 10, nameIndex := 18, descriptorIndex := 13, attributes := #[] }] 49 2 #[] #[])
  fields := #[]
  methods := #[k1m0, k1m1, k1m2]
  instanceTypes := #[]
  staticTypes := #[]
  resolved := Array.replicate 28 none
  statics := none }

def pool2 : Array CpInfo := pool [(2, .class_ 4), (1, u "java/lang/Object"), (0, u "<init>"), (0, u "()V"), (0, .class_ 8), (0, u "java/lang/Record")] 13

def k2m0 : Method := { name := "<init>", desc := "()V", sig := { parameters := [], returnType := none }, accessFlags := 4, code := none }
/-- java/lang/Record -/
def k2 : Class := { plain "java/lang/Record" (some 0) with
  accessFlags := 1057
  interfaces := #[]
  cf := some (fileOf pool2 7 #[] #[{ accessFlags := 4, nameIndex := 5, descriptorIndex := 6, attributes := #[] }] 1057 2 #[] #[])
  fields := #[]
  methods := #[k2m0]
  instanceTypes := #[]
  staticTypes := #[]
  resolved := Array.replicate 22 none
  statics := none }

def pool3 : Array CpInfo := pool [(2, .class_ 4), (1, u "com/example/defacto/defacto/graph/Term"), (13, u "Ljava/util/Comparator;"), (40, u "ORDER"), (0, .class_ 61), (0, u "java/lang/Object")] 32

/-- com/example/defacto/defacto/graph/Term -/
def k3 : Class := { plain "com/example/defacto/defacto/graph/Term" (some 0) with
  accessFlags := 1537
  interfaces := #[]
  cf := some (fileOf pool3 2 #[] #[] 1537 60 #[] #[{ accessFlags := 25, nameIndex := 59, descriptorIndex := 18, attributes := #[] }])
  fields := #[{ name := "ORDER", type := (.object "java/util/Comparator"), accessFlags := 25, slot := 0, constantValue := 0 }]
  methods := #[]
  instanceTypes := #[]
  staticTypes := #[(.object "java/util/Comparator")]
  resolved := Array.replicate 94 none
  statics := none }

def pool4 : Array CpInfo := pool [(2, .class_ 4), (1, u "java/lang/Record"), (11, .class_ 18), (1, u "com/example/defacto/defacto/graph/Iri"), (13, u "value"), (0, u "Ljava/lang/String;"), (12, u "mayHold"), (0, u "(I)Z"), (34, .class_ 84), (1, u "com/example/defacto/defacto/graph/Iri$Reference"), (96, .class_ 182), (0, u "com/example/defacto/defacto/graph/Term")] 40

def k4c0 : Code := { maxStack := 2, maxLocals := 1, code := prog_16_method_3_code, exceptionTable := #[], attributes := #[] }
def k4m0 : Method := { name := "mayHold", desc := "(I)Z", sig := { parameters := [.int], returnType := some .boolean }, accessFlags := 9, code := some k4c0 }
/-- com/example/defacto/defacto/graph/Iri -/
def k4 : Class := { plain "com/example/defacto/defacto/graph/Iri" (some 2) with
  accessFlags := 49
  interfaces := #[3]
  cf := some (fileOf pool4 16 #[.nestMembers #[82]] #[{ accessFlags := 9, nameIndex := 46, descriptorIndex := 47, attributes := #[] }] 49 2 #[181] #[{ accessFlags := 18, nameIndex := 32, descriptorIndex := 33, attributes := #[] }])
  fields := #[{ name := "value", type := (.object "java/lang/String"), accessFlags := 18, slot := 0, constantValue := 0 }]
  methods := #[k4m0]
  instanceTypes := #[(.object "java/lang/String")]
  staticTypes := #[]
  resolved := Array.replicate 223 none
  statics := none }

def pool5 : Array CpInfo := pool [(1, u "java/lang/Cloneable"), (0, .class_ 1), (0, u "java/lang/Object"), (0, .class_ 3)] 3

/-- java/lang/Cloneable -/
def k5 : Class := { plain "java/lang/Cloneable" (some 0) with
  accessFlags := 1537
  interfaces := #[]
  cf := some (fileOf pool5 2 #[] #[] 1537 4 #[] #[])
  fields := #[]
  methods := #[]
  instanceTypes := #[]
  staticTypes := #[]
  resolved := Array.replicate 8 none
  statics := none }

def pool6 : Array CpInfo := pool [(1, u "java/io/Serializable"), (0, .class_ 1), (0, u "java/lang/Object"), (0, .class_ 3)] 3

/-- java/io/Serializable -/
def k6 : Class := { plain "java/io/Serializable" (some 0) with
  accessFlags := 1537
  interfaces := #[]
  cf := some (fileOf pool6 2 #[] #[] 1537 4 #[] #[])
  fields := #[]
  methods := #[]
  instanceTypes := #[]
  staticTypes := #[]
  resolved := Array.replicate 8 none
  statics := none }

/-- the primitive byte -/
def k7 : Class := { plain "byte" none with kind := .primitive 'B', accessFlags := 0x411 }
/-- [B -/
def k8 : Class := { plain "[B" (some 0) with kind := .array 7 .byte, interfaces := #[5, 6], accessFlags := 1041 }

/-- the primitive int -/
def k9 : Class := { plain "int" none with kind := .primitive 'I', accessFlags := 0x411 }
/-- [I -/
def k10 : Class := { plain "[I" (some 0) with kind := .array 9 .int, interfaces := #[5, 6], accessFlags := 1041 }

def heap : Heap := #[]
def classes : Array Class := #[k0, k1, k2, k3, k4, k5, k6, k7, k8, k9, k10]
def interned : List (Array UInt16 × Addr) := []
def slotsUsed : Nat := 0
def theMethod : MethodId := ⟨1, 1⟩
def args0 : Array Value := #[.int 5, .int 5]
def aboutOver (below : List Frame) : State where
  vm := { classes := classes, interned := interned.toArray }
  heap := heap
  slotsUsed := slotsUsed
  threads := #[{ frames := .invoking theMethod args0 :: below }]
def below0 : List Frame := [.native { method := ⟨0, 0⟩, args := #[] }]
def about1 : State := aboutOver below0
def p0 : Program := .bare "" "" ""
def e0 : Env := launch0.env 0 0 0
theorem w_frames : about1.frames = Frame.invoking theMethod args0 :: below0 := rfl
set_option maxRecDepth 65536 in
theorem w_args : argsFit about1.vm theMethod args0 = true := by decide +kernel
set_option maxRecDepth 65536 in
theorem w_heap : heapFits about1 = true := by decide +kernel
set_option maxRecDepth 65536 in
theorem w_runnable : about1.curStatus? = some .runnable := by decide +kernel
set_option maxRecDepth 65536 in
theorem w_alone : about1.alone = true := by decide +kernel
set_option maxRecDepth 65536 in
theorem w_named : about1.methodNamed? x = some theMethod := by decide +kernel
set_option maxRecDepth 65536 in
theorem w_hears : about1.hears theMethod below0 = true := by decide +kernel
set_option maxRecDepth 65536 in
theorem w_ripe : about1.ripe theMethod args0 below0 = true := by decide +kernel
theorem w_running : about1.status = .running := rfl
set_option maxRecDepth 65536 in
theorem w_room : about1.hasRoom e0.platform room_1 = true :=
  launch0.hasRoom_least _ room_1 (by decide +kernel) (by decide +kernel) (by decide +kernel) (by decide +kernel) (by decide +kernel) (by decide +kernel)
theorem allAtoms_all (ts : List Jvm.Cond) (a : Array Jvm.Value) (st : Jvm.State) : (allAtoms ts).before a st = ts.all (fun c => c.before a st) := by
  induction ts with
  | nil => rfl
  | cons c t ih =>
    show (Jvm.Cond.and c (allAtoms t)).before a st = _
    rw [Jvm.Cond.before_and, ih, List.all_cons]
def words1 : List Jvm.Cond := Jvm.Cond.code x code maxLocals ret :: tables_1
/-- a 'code' word, met by the world's own term for the bytes: nothing is compared byte by byte -/
theorem code_word {y : MethodName} {bytes : ByteArray} {mx : Nat} {rt : Option FieldType} {a : Array Value} {s : State} {m : MethodId} {meth : Method} {c : Code} (h1 : s.methodNamed? y = some m) (h2 : s.vm.method? m = some meth) (h3 : meth.code = some c) (h4 : c.code = bytes)
    (h5 : (c.maxLocals == mx && c.exceptionTable.isEmpty && decide (c.maxStack ≤ mostOperands) && decide (meth.sig.returnType = rt) && !meth.locks && decide (parseMethodDescriptor y.desc = some meth.sig)) = true) : (Jvm.Cond.code y bytes mx rt).before a s = true := by
  simp only [Bool.and_eq_true, beq_iff_eq, Bool.not_eq_true', decide_eq_true_eq] at h5
  obtain ⟨⟨⟨⟨⟨g1, g2⟩, g3⟩, g4⟩, g5⟩, g6⟩ := h5
  simp [Cond.before, Cond.holds, Cond.value, h1, h2, h3, h4, g1, g2, g3, g4, g5, g6]
def isCode : Jvm.Cond → Bool
  | .code _ _ _ _ => true
  | _ => false
theorem all_split {L : List Jvm.Cond} {P : Jvm.Cond → Bool} (h1 : L.all (fun c => isCode c || P c) = true) (h2 : ∀ c ∈ L.filter isCode, P c = true) : L.all P = true := by
  refine List.all_eq_true.mpr fun c hc => ?_
  have h := List.all_eq_true.mp h1 c hc
  rcases Bool.eq_false_or_eq_true (isCode c) with hi | hi
  · exact h2 c (List.mem_filter.mpr ⟨hc, hi⟩)
  · simpa [hi] using h
set_option maxRecDepth 65536 in
theorem w_c0 : (Jvm.Cond.code x code maxLocals ret).before args0 about1 = true := code_word (m := ⟨1, 1⟩) (meth := k1m1) (c := k1c1) (by decide +kernel) rfl rfl rfl (by decide +kernel)
set_option maxRecDepth 65536 in
theorem w_c1 : (Jvm.Cond.code ({ cls := "com/example/defacto/defacto/graph/Iri", name := "mayHold", desc := "(I)Z" } : Jvm.MethodName) prog_16_method_3_code (1 : Nat) (Option.some Jvm.ClassFile.FieldType.boolean)).before args0 about1 = true := code_word (m := ⟨4, 0⟩) (meth := k4m0) (c := k4c0) (by decide +kernel) rfl rfl rfl (by decide +kernel)
set_option maxRecDepth 65536 in
theorem w_c2 : (Jvm.Cond.code ({ cls := "com/example/defacto/defacto/graph/IriMayHoldPinLaw", name := "expected", desc := "(I)Z" } : Jvm.MethodName) method_3_code (1 : Nat) (Option.some Jvm.ClassFile.FieldType.boolean)).before args0 about1 = true := code_word (m := ⟨1, 2⟩) (meth := k1m2) (c := k1c2) (by decide +kernel) rfl rfl rfl (by decide +kernel)
def codes1 : List Jvm.Cond := [Jvm.Cond.code x code maxLocals ret, Jvm.Cond.code ({ cls := "com/example/defacto/defacto/graph/Iri", name := "mayHold", desc := "(I)Z" } : Jvm.MethodName) prog_16_method_3_code (1 : Nat) (Option.some Jvm.ClassFile.FieldType.boolean), Jvm.Cond.code ({ cls := "com/example/defacto/defacto/graph/IriMayHoldPinLaw", name := "expected", desc := "(I)Z" } : Jvm.MethodName) method_3_code (1 : Nat) (Option.some Jvm.ClassFile.FieldType.boolean)]
set_option maxRecDepth 65536 in
theorem codes_eq : words1.filter isCode = codes1 := rfl
theorem w_codes : ∀ c ∈ words1.filter isCode, c.before args0 about1 = true := by
  rw [codes_eq]
  intro c hc
  simp only [codes1, List.mem_cons, List.not_mem_nil, or_false] at hc
  rcases hc with rfl | rfl | rfl
  · exact w_c0
  · exact w_c1
  · exact w_c2
set_option maxRecDepth 65536 in
theorem w_t1 : words1.all (fun c => isCode c || c.before args0 about1) = true := by decide +kernel
theorem w_tables : (allAtoms (Jvm.Cond.code x code maxLocals ret :: tables_1)).before args0 about1 = true := by
  rw [allAtoms_all]
  show words1.all (fun c => c.before args0 about1) = true
  refine all_split ?_ w_codes
  rw [w_t1]
set_option maxRecDepth 65536 in
theorem w_case : (Jvm.Cond.and given_1 narrow_1).before args0 about1 = true := by decide +kernel
theorem w_applies : (headSpec (Jvm.Cond.code x code maxLocals ret :: tables_1) room_1).applies x e0.platform about1 = true :=
  (Spec.applies_iff w_frames).mpr ⟨w_running, w_runnable, w_alone, w_named, w_hears, w_ripe, w_room, w_tables⟩
theorem atStart : AtStart classFile x code maxLocals ret World_1 tables_1 room_1 Calls_1 rest_1 Pre_1 launch0 p0 e0 about1 theMethod args0 below0 :=
  ⟨lists_1, trivial, launch0.admits_env _ _ _, launch0.least_env, fairChoices_fair.cas, fairChoices_fair.clock, w_frames, w_args, w_heap, w_applies, trivial, trivial, w_case⟩
end start1
theorem witness_1 : WitnessClaimed_1 := ⟨start1.p0, start1.e0, start1.about1, start1.theMethod, start1.args0, start1.below0, start1.atStart⟩
end Jvm.Pilot.@@N@@
