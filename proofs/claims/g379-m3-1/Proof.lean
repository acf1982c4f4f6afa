import JvmDerived
import JvmDerived.Pilot.@@N@@Statement
import JvmDerived.Pilot.@@N@@Code
set_option linter.unusedVariables false
set_option linter.unusedSimpArgs false
namespace Jvm.RoadKit
open Sem ClassFile Op Lib Jvm.Stand Jvm.Free Jvm.LawKit
section New
variable {p : Program} {l : Launch} {e : Env} {R : Room} {s : State} {m : MethodId} {args : Array Value} {below : List Frame} {meth : Method} {c : Code} {T : State} {locs : List Loc} {cells slots : Nat}
theorem retI (X : Stand p l e R s m args below meth c T locs cells slots) (hx : p.tables.exec = Jvm.exec) {pc : Nat} {Ls : Array Slot} {z : Int32} {rest : List Value} (hret : meth.sig.returnType = some .int) (hd : decode c.code pc = .ok (.ireturn, 1)) {fs : List Frame}
    (hl : ∀ (f : JFrame) (acts : List Action), f.method = m → f.locked = none → f.entered = [] → (doReturn e (T.setTop f) acts (some (.int z))).1 = T.setFrames fs) : Steps p.tables e below (T.setTop (mkF m pc Ls (.int z :: rest))) (T.setFrames fs) := by
  have hm' : T.vm.method? m = some meth := X.method'
  have hn : narrow .int (.int z) = .int z := rfl
  show Steps p.tables e below (T.setTop { method := m, pc := pc, locals := Ls, stack := _ :: rest, locked := none }) _
  jvm_step X.here [X.here.top, hx, hd, hm', hret, hn]
  first | (intro acts; rw [hl _ acts rfl rfl rfl]) | rw [hl _ _ rfl rfl rfl]
  exact Steps.refl _
end New
end Jvm.RoadKit
namespace Jvm.Pilot.@@N@@
open Jvm Jvm.ClassFile Sem Op Lib Jvm.Free Jvm.Stand Jvm.LawKit Jvm.RoadKit Bundle Jvm.Pilot.@@N@@.Jvm.D
theorem d1_0 : decode prog_125_method_24_code 0 = .ok (.iload_n 0, 1) := by decide +kernel
theorem d1_1 : decode prog_125_method_24_code 1 = .ok (.bipush 48, 2) := by decide +kernel
theorem d1_3 : decode prog_125_method_24_code 3 = .ok (.if_icmp .lt 9, 3) := by decide +kernel
theorem d1_6 : decode prog_125_method_24_code 6 = .ok (.iload_n 0, 1) := by decide +kernel
theorem d1_7 : decode prog_125_method_24_code 7 = .ok (.bipush 57, 2) := by decide +kernel
theorem d1_9 : decode prog_125_method_24_code 9 = .ok (.if_icmp .le 33, 3) := by decide +kernel
theorem d1_12 : decode prog_125_method_24_code 12 = .ok (.iload_n 0, 1) := by decide +kernel
theorem d1_13 : decode prog_125_method_24_code 13 = .ok (.bipush 97, 2) := by decide +kernel
theorem d1_15 : decode prog_125_method_24_code 15 = .ok (.if_icmp .lt 9, 3) := by decide +kernel
theorem d1_18 : decode prog_125_method_24_code 18 = .ok (.iload_n 0, 1) := by decide +kernel
theorem d1_19 : decode prog_125_method_24_code 19 = .ok (.bipush 122, 2) := by decide +kernel
theorem d1_21 : decode prog_125_method_24_code 21 = .ok (.if_icmp .le 21, 3) := by decide +kernel
theorem d1_24 : decode prog_125_method_24_code 24 = .ok (.iload_n 0, 1) := by decide +kernel
theorem d1_25 : decode prog_125_method_24_code 25 = .ok (.bipush 65, 2) := by decide +kernel
theorem d1_27 : decode prog_125_method_24_code 27 = .ok (.if_icmp .lt 9, 3) := by decide +kernel
theorem d1_30 : decode prog_125_method_24_code 30 = .ok (.iload_n 0, 1) := by decide +kernel
theorem d1_31 : decode prog_125_method_24_code 31 = .ok (.bipush 90, 2) := by decide +kernel
theorem d1_33 : decode prog_125_method_24_code 33 = .ok (.if_icmp .le 9, 3) := by decide +kernel
theorem d1_36 : decode prog_125_method_24_code 36 = .ok (.iload_n 0, 1) := by decide +kernel
theorem d1_37 : decode prog_125_method_24_code 37 = .ok (.bipush 45, 2) := by decide +kernel
theorem d1_39 : decode prog_125_method_24_code 39 = .ok (.if_icmp .ne 7, 3) := by decide +kernel
theorem d1_42 : decode prog_125_method_24_code 42 = .ok (.iconst 1, 1) := by decide +kernel
theorem d1_43 : decode prog_125_method_24_code 43 = .ok (.goto 4, 3) := by decide +kernel
theorem d1_46 : decode prog_125_method_24_code 46 = .ok (.iconst 0, 1) := by decide +kernel
theorem d1_47 : decode prog_125_method_24_code 47 = .ok (.ireturn, 1) := by decide +kernel
theorem pn_1 : plainName "com/example/lokey/lokey/yaml/PropertyReader" = true := by first | (simp [plainName, overriddenIn]; done) | decide +kernel
theorem ef_1 (m : MethodId) (x0 : Int32) : entryFrame m #[(.int x0)] 1 = mkF m 0 #[.val (.int x0)] [] := by first | (simp [entryFrame, mkF, argsToLocals, Value.category]; done) | rfl
def f1 (p1 : Int32) : Int32 := (if p1 < (48 : Int32) then (if p1 < (97 : Int32) then (if p1 < (65 : Int32) then (if p1 = (45 : Int32) then (1 : Int32) else (0 : Int32)) else (if (90 : Int32) < p1 then (if p1 = (45 : Int32) then (1 : Int32) else (0 : Int32)) else (1 : Int32))) else (if (122 : Int32) < p1 then (if p1 < (65 : Int32) then (if p1 = (45 : Int32) then (1 : Int32) else (0 : Int32)) else (if (90 : Int32) < p1 then (if p1 = (45 : Int32) then (1 : Int32) else (0 : Int32)) else (1 : Int32))) else (1 : Int32))) else (if (57 : Int32) < p1 then (if p1 < (97 : Int32) then (if p1 < (65 : Int32) then (if p1 = (45 : Int32) then (1 : Int32) else (0 : Int32)) else (if (90 : Int32) < p1 then (if p1 = (45 : Int32) then (1 : Int32) else (0 : Int32)) else (1 : Int32))) else (if (122 : Int32) < p1 then (if p1 < (65 : Int32) then (if p1 = (45 : Int32) then (1 : Int32) else (0 : Int32)) else (if (90 : Int32) < p1 then (if p1 = (45 : Int32) then (1 : Int32) else (0 : Int32)) else (1 : Int32))) else (1 : Int32))) else (1 : Int32)))
def Q1 (Z : State) (p1 : Int32) (h0 : Heap) (n0 : Nat) (v : Option Value) (h : Heap) (L : List Loc) : Prop := v = some (.int (f1 p1)) ∧ Fr n0 L ∧ h = h0
set_option maxRecDepth 65536 in
set_option maxHeartbeats 40000000 in
theorem rm1 (l : Launch) (Z : State) (a0 : Array Value) (hw : ∀ d ∈ tables_1, d.before a0 Z = true) (ws : List Jvm.Cond) (p1 : Int32) (h0 : Heap) (n0 : Nat) (Z0 : n0 ≤ h0.size) :
    MetFree l (⟨"com/example/lokey/lokey/yaml/PropertyReader", "isWordCharacter", "(I)Z"⟩ : MethodName) (head1 (Jvm.Cond.code (⟨"com/example/lokey/lokey/yaml/PropertyReader", "isWordCharacter", "(I)Z"⟩ : MethodName) prog_125_method_24_code 1 (some .boolean) :: ws) ({ frames := 0, cells := 0, slots := 0, locals := 0 } : Room)) (fun a U => a = #[(.int p1)] ∧ Z.Warmed39 U.vm ∧ U.heap = h0) (fun _ _ _ _ _ => True) (fun _ U o U' => ∃ v L, o = .returned v ∧ Q1 Z p1 h0 n0 v U'.heap L ∧ FrameEnd U o U' L ({ frames := 0, cells := 0, slots := 0, locals := 0 } : Room).cells ({ frames := 0, cells := 0, slots := 0, locals := 0 } : Room).slots) := by
  refine MetFree.of_bodySF (plainFor_of_name pn_1) hisR ?_
  intro p e s m args below meth c s₁ Bd hml0 hP hK
  obtain ⟨rfl, hZ, hh⟩ := hP
  have hx := Bd.exec
  have hby := Bd.bytes
  have hml : c.maxLocals = 1 := hml0
  have hown : s.vm.findClass "com/example/lokey/lokey/yaml/PropertyReader" = some m.cls := findClass_of_methodNamed Bd.named
  have hnm := (name_of_methodNamed Bd.named Bd.method).1
  have X0 : Stand p l e ({ frames := 0, cells := 0, slots := 0, locals := 0 } : Room) s m #[(.int p1)] below meth c s₁ [] 0 0 := Stand.of_body Bd
  have e0 : s₁.heap = h0 := by rw [← hh, Bd.state]; rfl
  have N0 := Fr.nil n0
  have pre0 : ∀ t, Steps p.tables e below (s₁.setTop (mkF m 0 #[.val (.int p1)] [])) t → Steps p.tables e below (s₁.setTop (entryFrame m #[(.int p1)] 1)) t := fun t k => castTop (ef_1 m p1) k
  have pre1 : ∀ t, Steps p.tables e below (s₁.setTop (mkF m 3 #[.val (.int p1)] [(.int (48 : Int32)), (.int p1)])) t → Steps p.tables e below (s₁.setTop (entryFrame m #[(.int p1)] 1)) t := fun t kt => by
    refine pre0 _ ?_
    show Steps p.tables e below (s₁.setTop (mkF m 0 #[.val (.int p1)] [])) _
    refine XS.iloadN X0.here hx rfl (hb hby d1_0) rfl ?_
    show Steps p.tables e below (s₁.setTop (mkF m 1 #[.val (.int p1)] [(.int p1)])) _
    refine XS.bipush X0.here hx rfl (hb hby d1_1) ?_
    exact kt
  by_cases hc2 : p1 < (48 : Int32)
  · have pre3 : ∀ t, Steps p.tables e below (s₁.setTop (mkF m 15 #[.val (.int p1)] [(.int (97 : Int32)), (.int p1)])) t → Steps p.tables e below (s₁.setTop (entryFrame m #[(.int p1)] 1)) t := fun t kt => by
      refine pre1 _ ?_
      show Steps p.tables e below (s₁.setTop (mkF m 3 #[.val (.int p1)] [(.int (48 : Int32)), (.int p1)])) _
      refine XS.icmpYes X0.here hx rfl (pc0 := 3) (pc' := 12) rfl (hb hby d1_3) rfl (tlt hc2).1 (by decide) (by decide) ?_
      show Steps p.tables e below (s₁.setTop (mkF m 12 #[.val (.int p1)] [])) _
      refine XS.iloadN X0.here hx rfl (hb hby d1_12) rfl ?_
      show Steps p.tables e below (s₁.setTop (mkF m 13 #[.val (.int p1)] [(.int p1)])) _
      refine XS.bipush X0.here hx rfl (hb hby d1_13) ?_
      exact kt
    by_cases hc4 : p1 < (97 : Int32)
    · have pre5 : ∀ t, Steps p.tables e below (s₁.setTop (mkF m 27 #[.val (.int p1)] [(.int (65 : Int32)), (.int p1)])) t → Steps p.tables e below (s₁.setTop (entryFrame m #[(.int p1)] 1)) t := fun t kt => by
        refine pre3 _ ?_
        show Steps p.tables e below (s₁.setTop (mkF m 15 #[.val (.int p1)] [(.int (97 : Int32)), (.int p1)])) _
        refine XS.icmpYes X0.here hx rfl (pc0 := 15) (pc' := 24) rfl (hb hby d1_15) rfl (tlt hc4).1 (by decide) (by decide) ?_
        show Steps p.tables e below (s₁.setTop (mkF m 24 #[.val (.int p1)] [])) _
        refine XS.iloadN X0.here hx rfl (hb hby d1_24) rfl ?_
        show Steps p.tables e below (s₁.setTop (mkF m 25 #[.val (.int p1)] [(.int p1)])) _
        refine XS.bipush X0.here hx rfl (hb hby d1_25) ?_
        exact kt
      by_cases hc6 : p1 < (65 : Int32)
      · have pre7 : ∀ t, Steps p.tables e below (s₁.setTop (mkF m 39 #[.val (.int p1)] [(.int (45 : Int32)), (.int p1)])) t → Steps p.tables e below (s₁.setTop (entryFrame m #[(.int p1)] 1)) t := fun t kt => by
          refine pre5 _ ?_
          show Steps p.tables e below (s₁.setTop (mkF m 27 #[.val (.int p1)] [(.int (65 : Int32)), (.int p1)])) _
          refine XS.icmpYes X0.here hx rfl (pc0 := 27) (pc' := 36) rfl (hb hby d1_27) rfl (tlt hc6).1 (by decide) (by decide) ?_
          show Steps p.tables e below (s₁.setTop (mkF m 36 #[.val (.int p1)] [])) _
          refine XS.iloadN X0.here hx rfl (hb hby d1_36) rfl ?_
          show Steps p.tables e below (s₁.setTop (mkF m 37 #[.val (.int p1)] [(.int p1)])) _
          refine XS.bipush X0.here hx rfl (hb hby d1_37) ?_
          exact kt
        by_cases hc8 : p1 = (45 : Int32)
        · obtain ⟨fs, hr, hrun, hended, hW, hsame⟩ := X0.leave (v := some (.int (1 : Int32))) (fun h => by rw [Bd.returns] at h; cases h)
          refine ⟨_, _, pre7 _ ?_, hrun, hended, _, _, rfl, ?_, ⟨_, rfl⟩, hW, hsame.mono (by decide) (by decide)⟩
          · show Steps p.tables e below (s₁.setTop (mkF m 39 #[.val (.int p1)] [(.int (45 : Int32)), (.int p1)])) _
            refine XS.icmpNo X0.here hx rfl (hb hby d1_39) rfl (teq hc8).2 ?_
            show Steps p.tables e below (s₁.setTop (mkF m 42 #[.val (.int p1)] [])) _
            refine XS.iconst X0.here hx rfl (hb hby d1_42) ?_
            show Steps p.tables e below (s₁.setTop (mkF m 43 #[.val (.int p1)] [(.int (1 : Int32))])) _
            refine XS.goto X0.here hx rfl (pc0 := 43) (pc' := 47) rfl (hb hby d1_43) (by decide) (by decide) ?_
            show Steps p.tables e below (s₁.setTop (mkF m 47 #[.val (.int p1)] [(.int (1 : Int32))])) _
            exact retN X0 hx (t := .boolean) Bd.returns (by simp) (hb hby d1_47) hr
          · show Q1 Z p1 h0 n0 _ s₁.heap _
            rw [e0]
            refine ⟨?_, N0, rfl⟩
            rw [f1, if_pos hc2, if_pos hc4, if_pos hc6, if_pos hc8]
        · obtain ⟨fs, hr, hrun, hended, hW, hsame⟩ := X0.leave (v := some (.int (0 : Int32))) (fun h => by rw [Bd.returns] at h; cases h)
          refine ⟨_, _, pre7 _ ?_, hrun, hended, _, _, rfl, ?_, ⟨_, rfl⟩, hW, hsame.mono (by decide) (by decide)⟩
          · show Steps p.tables e below (s₁.setTop (mkF m 39 #[.val (.int p1)] [(.int (45 : Int32)), (.int p1)])) _
            refine XS.icmpYes X0.here hx rfl (pc0 := 39) (pc' := 46) rfl (hb hby d1_39) rfl (feq hc8).2 (by decide) (by decide) ?_
            show Steps p.tables e below (s₁.setTop (mkF m 46 #[.val (.int p1)] [])) _
            refine XS.iconst X0.here hx rfl (hb hby d1_46) ?_
            show Steps p.tables e below (s₁.setTop (mkF m 47 #[.val (.int p1)] [(.int (0 : Int32))])) _
            exact retN X0 hx (t := .boolean) Bd.returns (by simp) (hb hby d1_47) hr
          · show Q1 Z p1 h0 n0 _ s₁.heap _
            rw [e0]
            refine ⟨?_, N0, rfl⟩
            rw [f1, if_pos hc2, if_pos hc4, if_pos hc6, if_neg hc8]
      · have pre9 : ∀ t, Steps p.tables e below (s₁.setTop (mkF m 33 #[.val (.int p1)] [(.int (90 : Int32)), (.int p1)])) t → Steps p.tables e below (s₁.setTop (entryFrame m #[(.int p1)] 1)) t := fun t kt => by
          refine pre5 _ ?_
          show Steps p.tables e below (s₁.setTop (mkF m 27 #[.val (.int p1)] [(.int (65 : Int32)), (.int p1)])) _
          refine XS.icmpNo X0.here hx rfl (hb hby d1_27) rfl (flt hc6).1 ?_
          show Steps p.tables e below (s₁.setTop (mkF m 30 #[.val (.int p1)] [])) _
          refine XS.iloadN X0.here hx rfl (hb hby d1_30) rfl ?_
          show Steps p.tables e below (s₁.setTop (mkF m 31 #[.val (.int p1)] [(.int p1)])) _
          refine XS.bipush X0.here hx rfl (hb hby d1_31) ?_
          exact kt
        by_cases hc10 : (90 : Int32) < p1
        · have pre11 : ∀ t, Steps p.tables e below (s₁.setTop (mkF m 39 #[.val (.int p1)] [(.int (45 : Int32)), (.int p1)])) t → Steps p.tables e below (s₁.setTop (entryFrame m #[(.int p1)] 1)) t := fun t kt => by
            refine pre9 _ ?_
            show Steps p.tables e below (s₁.setTop (mkF m 33 #[.val (.int p1)] [(.int (90 : Int32)), (.int p1)])) _
            refine XS.icmpNo X0.here hx rfl (hb hby d1_33) rfl (tlt hc10).2.2.2 ?_
            show Steps p.tables e below (s₁.setTop (mkF m 36 #[.val (.int p1)] [])) _
            refine XS.iloadN X0.here hx rfl (hb hby d1_36) rfl ?_
            show Steps p.tables e below (s₁.setTop (mkF m 37 #[.val (.int p1)] [(.int p1)])) _
            refine XS.bipush X0.here hx rfl (hb hby d1_37) ?_
            exact kt
          by_cases hc12 : p1 = (45 : Int32)
          · obtain ⟨fs, hr, hrun, hended, hW, hsame⟩ := X0.leave (v := some (.int (1 : Int32))) (fun h => by rw [Bd.returns] at h; cases h)
            refine ⟨_, _, pre11 _ ?_, hrun, hended, _, _, rfl, ?_, ⟨_, rfl⟩, hW, hsame.mono (by decide) (by decide)⟩
            · show Steps p.tables e below (s₁.setTop (mkF m 39 #[.val (.int p1)] [(.int (45 : Int32)), (.int p1)])) _
              refine XS.icmpNo X0.here hx rfl (hb hby d1_39) rfl (teq hc12).2 ?_
              show Steps p.tables e below (s₁.setTop (mkF m 42 #[.val (.int p1)] [])) _
              refine XS.iconst X0.here hx rfl (hb hby d1_42) ?_
              show Steps p.tables e below (s₁.setTop (mkF m 43 #[.val (.int p1)] [(.int (1 : Int32))])) _
              refine XS.goto X0.here hx rfl (pc0 := 43) (pc' := 47) rfl (hb hby d1_43) (by decide) (by decide) ?_
              show Steps p.tables e below (s₁.setTop (mkF m 47 #[.val (.int p1)] [(.int (1 : Int32))])) _
              exact retN X0 hx (t := .boolean) Bd.returns (by simp) (hb hby d1_47) hr
            · show Q1 Z p1 h0 n0 _ s₁.heap _
              rw [e0]
              refine ⟨?_, N0, rfl⟩
              rw [f1, if_pos hc2, if_pos hc4, if_neg hc6, if_pos hc10, if_pos hc12]
          · obtain ⟨fs, hr, hrun, hended, hW, hsame⟩ := X0.leave (v := some (.int (0 : Int32))) (fun h => by rw [Bd.returns] at h; cases h)
            refine ⟨_, _, pre11 _ ?_, hrun, hended, _, _, rfl, ?_, ⟨_, rfl⟩, hW, hsame.mono (by decide) (by decide)⟩
            · show Steps p.tables e below (s₁.setTop (mkF m 39 #[.val (.int p1)] [(.int (45 : Int32)), (.int p1)])) _
              refine XS.icmpYes X0.here hx rfl (pc0 := 39) (pc' := 46) rfl (hb hby d1_39) rfl (feq hc12).2 (by decide) (by decide) ?_
              show Steps p.tables e below (s₁.setTop (mkF m 46 #[.val (.int p1)] [])) _
              refine XS.iconst X0.here hx rfl (hb hby d1_46) ?_
              show Steps p.tables e below (s₁.setTop (mkF m 47 #[.val (.int p1)] [(.int (0 : Int32))])) _
              exact retN X0 hx (t := .boolean) Bd.returns (by simp) (hb hby d1_47) hr
            · show Q1 Z p1 h0 n0 _ s₁.heap _
              rw [e0]
              refine ⟨?_, N0, rfl⟩
              rw [f1, if_pos hc2, if_pos hc4, if_neg hc6, if_pos hc10, if_neg hc12]
        · obtain ⟨fs, hr, hrun, hended, hW, hsame⟩ := X0.leave (v := some (.int (1 : Int32))) (fun h => by rw [Bd.returns] at h; cases h)
          refine ⟨_, _, pre9 _ ?_, hrun, hended, _, _, rfl, ?_, ⟨_, rfl⟩, hW, hsame.mono (by decide) (by decide)⟩
          · show Steps p.tables e below (s₁.setTop (mkF m 33 #[.val (.int p1)] [(.int (90 : Int32)), (.int p1)])) _
            refine XS.icmpYes X0.here hx rfl (pc0 := 33) (pc' := 42) rfl (hb hby d1_33) rfl (flt hc10).2.2.2 (by decide) (by decide) ?_
            show Steps p.tables e below (s₁.setTop (mkF m 42 #[.val (.int p1)] [])) _
            refine XS.iconst X0.here hx rfl (hb hby d1_42) ?_
            show Steps p.tables e below (s₁.setTop (mkF m 43 #[.val (.int p1)] [(.int (1 : Int32))])) _
            refine XS.goto X0.here hx rfl (pc0 := 43) (pc' := 47) rfl (hb hby d1_43) (by decide) (by decide) ?_
            show Steps p.tables e below (s₁.setTop (mkF m 47 #[.val (.int p1)] [(.int (1 : Int32))])) _
            exact retN X0 hx (t := .boolean) Bd.returns (by simp) (hb hby d1_47) hr
          · show Q1 Z p1 h0 n0 _ s₁.heap _
            rw [e0]
            refine ⟨?_, N0, rfl⟩
            rw [f1, if_pos hc2, if_pos hc4, if_neg hc6, if_neg hc10]
    · have pre13 : ∀ t, Steps p.tables e below (s₁.setTop (mkF m 21 #[.val (.int p1)] [(.int (122 : Int32)), (.int p1)])) t → Steps p.tables e below (s₁.setTop (entryFrame m #[(.int p1)] 1)) t := fun t kt => by
        refine pre3 _ ?_
        show Steps p.tables e below (s₁.setTop (mkF m 15 #[.val (.int p1)] [(.int (97 : Int32)), (.int p1)])) _
        refine XS.icmpNo X0.here hx rfl (hb hby d1_15) rfl (flt hc4).1 ?_
        show Steps p.tables e below (s₁.setTop (mkF m 18 #[.val (.int p1)] [])) _
        refine XS.iloadN X0.here hx rfl (hb hby d1_18) rfl ?_
        show Steps p.tables e below (s₁.setTop (mkF m 19 #[.val (.int p1)] [(.int p1)])) _
        refine XS.bipush X0.here hx rfl (hb hby d1_19) ?_
        exact kt
      by_cases hc14 : (122 : Int32) < p1
      · have pre15 : ∀ t, Steps p.tables e below (s₁.setTop (mkF m 27 #[.val (.int p1)] [(.int (65 : Int32)), (.int p1)])) t → Steps p.tables e below (s₁.setTop (entryFrame m #[(.int p1)] 1)) t := fun t kt => by
          refine pre13 _ ?_
          show Steps p.tables e below (s₁.setTop (mkF m 21 #[.val (.int p1)] [(.int (122 : Int32)), (.int p1)])) _
          refine XS.icmpNo X0.here hx rfl (hb hby d1_21) rfl (tlt hc14).2.2.2 ?_
          show Steps p.tables e below (s₁.setTop (mkF m 24 #[.val (.int p1)] [])) _
          refine XS.iloadN X0.here hx rfl (hb hby d1_24) rfl ?_
          show Steps p.tables e below (s₁.setTop (mkF m 25 #[.val (.int p1)] [(.int p1)])) _
          refine XS.bipush X0.here hx rfl (hb hby d1_25) ?_
          exact kt
        by_cases hc16 : p1 < (65 : Int32)
        · have pre17 : ∀ t, Steps p.tables e below (s₁.setTop (mkF m 39 #[.val (.int p1)] [(.int (45 : Int32)), (.int p1)])) t → Steps p.tables e below (s₁.setTop (entryFrame m #[(.int p1)] 1)) t := fun t kt => by
            refine pre15 _ ?_
            show Steps p.tables e below (s₁.setTop (mkF m 27 #[.val (.int p1)] [(.int (65 : Int32)), (.int p1)])) _
            refine XS.icmpYes X0.here hx rfl (pc0 := 27) (pc' := 36) rfl (hb hby d1_27) rfl (tlt hc16).1 (by decide) (by decide) ?_
            show Steps p.tables e below (s₁.setTop (mkF m 36 #[.val (.int p1)] [])) _
            refine XS.iloadN X0.here hx rfl (hb hby d1_36) rfl ?_
            show Steps p.tables e below (s₁.setTop (mkF m 37 #[.val (.int p1)] [(.int p1)])) _
            refine XS.bipush X0.here hx rfl (hb hby d1_37) ?_
            exact kt
          by_cases hc18 : p1 = (45 : Int32)
          · obtain ⟨fs, hr, hrun, hended, hW, hsame⟩ := X0.leave (v := some (.int (1 : Int32))) (fun h => by rw [Bd.returns] at h; cases h)
            refine ⟨_, _, pre17 _ ?_, hrun, hended, _, _, rfl, ?_, ⟨_, rfl⟩, hW, hsame.mono (by decide) (by decide)⟩
            · show Steps p.tables e below (s₁.setTop (mkF m 39 #[.val (.int p1)] [(.int (45 : Int32)), (.int p1)])) _
              refine XS.icmpNo X0.here hx rfl (hb hby d1_39) rfl (teq hc18).2 ?_
              show Steps p.tables e below (s₁.setTop (mkF m 42 #[.val (.int p1)] [])) _
              refine XS.iconst X0.here hx rfl (hb hby d1_42) ?_
              show Steps p.tables e below (s₁.setTop (mkF m 43 #[.val (.int p1)] [(.int (1 : Int32))])) _
              refine XS.goto X0.here hx rfl (pc0 := 43) (pc' := 47) rfl (hb hby d1_43) (by decide) (by decide) ?_
              show Steps p.tables e below (s₁.setTop (mkF m 47 #[.val (.int p1)] [(.int (1 : Int32))])) _
              exact retN X0 hx (t := .boolean) Bd.returns (by simp) (hb hby d1_47) hr
            · show Q1 Z p1 h0 n0 _ s₁.heap _
              rw [e0]
              refine ⟨?_, N0, rfl⟩
              rw [f1, if_pos hc2, if_neg hc4, if_pos hc14, if_pos hc16, if_pos hc18]
          · obtain ⟨fs, hr, hrun, hended, hW, hsame⟩ := X0.leave (v := some (.int (0 : Int32))) (fun h => by rw [Bd.returns] at h; cases h)
            refine ⟨_, _, pre17 _ ?_, hrun, hended, _, _, rfl, ?_, ⟨_, rfl⟩, hW, hsame.mono (by decide) (by decide)⟩
            · show Steps p.tables e below (s₁.setTop (mkF m 39 #[.val (.int p1)] [(.int (45 : Int32)), (.int p1)])) _
              refine XS.icmpYes X0.here hx rfl (pc0 := 39) (pc' := 46) rfl (hb hby d1_39) rfl (feq hc18).2 (by decide) (by decide) ?_
              show Steps p.tables e below (s₁.setTop (mkF m 46 #[.val (.int p1)] [])) _
              refine XS.iconst X0.here hx rfl (hb hby d1_46) ?_
              show Steps p.tables e below (s₁.setTop (mkF m 47 #[.val (.int p1)] [(.int (0 : Int32))])) _
              exact retN X0 hx (t := .boolean) Bd.returns (by simp) (hb hby d1_47) hr
            · show Q1 Z p1 h0 n0 _ s₁.heap _
              rw [e0]
              refine ⟨?_, N0, rfl⟩
              rw [f1, if_pos hc2, if_neg hc4, if_pos hc14, if_pos hc16, if_neg hc18]
        · have pre19 : ∀ t, Steps p.tables e below (s₁.setTop (mkF m 33 #[.val (.int p1)] [(.int (90 : Int32)), (.int p1)])) t → Steps p.tables e below (s₁.setTop (entryFrame m #[(.int p1)] 1)) t := fun t kt => by
            refine pre15 _ ?_
            show Steps p.tables e below (s₁.setTop (mkF m 27 #[.val (.int p1)] [(.int (65 : Int32)), (.int p1)])) _
            refine XS.icmpNo X0.here hx rfl (hb hby d1_27) rfl (flt hc16).1 ?_
            show Steps p.tables e below (s₁.setTop (mkF m 30 #[.val (.int p1)] [])) _
            refine XS.iloadN X0.here hx rfl (hb hby d1_30) rfl ?_
            show Steps p.tables e below (s₁.setTop (mkF m 31 #[.val (.int p1)] [(.int p1)])) _
            refine XS.bipush X0.here hx rfl (hb hby d1_31) ?_
            exact kt
          by_cases hc20 : (90 : Int32) < p1
          · have pre21 : ∀ t, Steps p.tables e below (s₁.setTop (mkF m 39 #[.val (.int p1)] [(.int (45 : Int32)), (.int p1)])) t → Steps p.tables e below (s₁.setTop (entryFrame m #[(.int p1)] 1)) t := fun t kt => by
              refine pre19 _ ?_
              show Steps p.tables e below (s₁.setTop (mkF m 33 #[.val (.int p1)] [(.int (90 : Int32)), (.int p1)])) _
              refine XS.icmpNo X0.here hx rfl (hb hby d1_33) rfl (tlt hc20).2.2.2 ?_
              show Steps p.tables e below (s₁.setTop (mkF m 36 #[.val (.int p1)] [])) _
              refine XS.iloadN X0.here hx rfl (hb hby d1_36) rfl ?_
              show Steps p.tables e below (s₁.setTop (mkF m 37 #[.val (.int p1)] [(.int p1)])) _
              refine XS.bipush X0.here hx rfl (hb hby d1_37) ?_
              exact kt
            by_cases hc22 : p1 = (45 : Int32)
            · obtain ⟨fs, hr, hrun, hended, hW, hsame⟩ := X0.leave (v := some (.int (1 : Int32))) (fun h => by rw [Bd.returns] at h; cases h)
              refine ⟨_, _, pre21 _ ?_, hrun, hended, _, _, rfl, ?_, ⟨_, rfl⟩, hW, hsame.mono (by decide) (by decide)⟩
              · show Steps p.tables e below (s₁.setTop (mkF m 39 #[.val (.int p1)] [(.int (45 : Int32)), (.int p1)])) _
                refine XS.icmpNo X0.here hx rfl (hb hby d1_39) rfl (teq hc22).2 ?_
                show Steps p.tables e below (s₁.setTop (mkF m 42 #[.val (.int p1)] [])) _
                refine XS.iconst X0.here hx rfl (hb hby d1_42) ?_
                show Steps p.tables e below (s₁.setTop (mkF m 43 #[.val (.int p1)] [(.int (1 : Int32))])) _
                refine XS.goto X0.here hx rfl (pc0 := 43) (pc' := 47) rfl (hb hby d1_43) (by decide) (by decide) ?_
                show Steps p.tables e below (s₁.setTop (mkF m 47 #[.val (.int p1)] [(.int (1 : Int32))])) _
                exact retN X0 hx (t := .boolean) Bd.returns (by simp) (hb hby d1_47) hr
              · show Q1 Z p1 h0 n0 _ s₁.heap _
                rw [e0]
                refine ⟨?_, N0, rfl⟩
                rw [f1, if_pos hc2, if_neg hc4, if_pos hc14, if_neg hc16, if_pos hc20, if_pos hc22]
            · obtain ⟨fs, hr, hrun, hended, hW, hsame⟩ := X0.leave (v := some (.int (0 : Int32))) (fun h => by rw [Bd.returns] at h; cases h)
              refine ⟨_, _, pre21 _ ?_, hrun, hended, _, _, rfl, ?_, ⟨_, rfl⟩, hW, hsame.mono (by decide) (by decide)⟩
              · show Steps p.tables e below (s₁.setTop (mkF m 39 #[.val (.int p1)] [(.int (45 : Int32)), (.int p1)])) _
                refine XS.icmpYes X0.here hx rfl (pc0 := 39) (pc' := 46) rfl (hb hby d1_39) rfl (feq hc22).2 (by decide) (by decide) ?_
                show Steps p.tables e below (s₁.setTop (mkF m 46 #[.val (.int p1)] [])) _
                refine XS.iconst X0.here hx rfl (hb hby d1_46) ?_
                show Steps p.tables e below (s₁.setTop (mkF m 47 #[.val (.int p1)] [(.int (0 : Int32))])) _
                exact retN X0 hx (t := .boolean) Bd.returns (by simp) (hb hby d1_47) hr
              · show Q1 Z p1 h0 n0 _ s₁.heap _
                rw [e0]
                refine ⟨?_, N0, rfl⟩
                rw [f1, if_pos hc2, if_neg hc4, if_pos hc14, if_neg hc16, if_pos hc20, if_neg hc22]
          · obtain ⟨fs, hr, hrun, hended, hW, hsame⟩ := X0.leave (v := some (.int (1 : Int32))) (fun h => by rw [Bd.returns] at h; cases h)
            refine ⟨_, _, pre19 _ ?_, hrun, hended, _, _, rfl, ?_, ⟨_, rfl⟩, hW, hsame.mono (by decide) (by decide)⟩
            · show Steps p.tables e below (s₁.setTop (mkF m 33 #[.val (.int p1)] [(.int (90 : Int32)), (.int p1)])) _
              refine XS.icmpYes X0.here hx rfl (pc0 := 33) (pc' := 42) rfl (hb hby d1_33) rfl (flt hc20).2.2.2 (by decide) (by decide) ?_
              show Steps p.tables e below (s₁.setTop (mkF m 42 #[.val (.int p1)] [])) _
              refine XS.iconst X0.here hx rfl (hb hby d1_42) ?_
              show Steps p.tables e below (s₁.setTop (mkF m 43 #[.val (.int p1)] [(.int (1 : Int32))])) _
              refine XS.goto X0.here hx rfl (pc0 := 43) (pc' := 47) rfl (hb hby d1_43) (by decide) (by decide) ?_
              show Steps p.tables e below (s₁.setTop (mkF m 47 #[.val (.int p1)] [(.int (1 : Int32))])) _
              exact retN X0 hx (t := .boolean) Bd.returns (by simp) (hb hby d1_47) hr
            · show Q1 Z p1 h0 n0 _ s₁.heap _
              rw [e0]
              refine ⟨?_, N0, rfl⟩
              rw [f1, if_pos hc2, if_neg hc4, if_pos hc14, if_neg hc16, if_neg hc20]
      · obtain ⟨fs, hr, hrun, hended, hW, hsame⟩ := X0.leave (v := some (.int (1 : Int32))) (fun h => by rw [Bd.returns] at h; cases h)
        refine ⟨_, _, pre13 _ ?_, hrun, hended, _, _, rfl, ?_, ⟨_, rfl⟩, hW, hsame.mono (by decide) (by decide)⟩
        · show Steps p.tables e below (s₁.setTop (mkF m 21 #[.val (.int p1)] [(.int (122 : Int32)), (.int p1)])) _
          refine XS.icmpYes X0.here hx rfl (pc0 := 21) (pc' := 42) rfl (hb hby d1_21) rfl (flt hc14).2.2.2 (by decide) (by decide) ?_
          show Steps p.tables e below (s₁.setTop (mkF m 42 #[.val (.int p1)] [])) _
          refine XS.iconst X0.here hx rfl (hb hby d1_42) ?_
          show Steps p.tables e below (s₁.setTop (mkF m 43 #[.val (.int p1)] [(.int (1 : Int32))])) _
          refine XS.goto X0.here hx rfl (pc0 := 43) (pc' := 47) rfl (hb hby d1_43) (by decide) (by decide) ?_
          show Steps p.tables e below (s₁.setTop (mkF m 47 #[.val (.int p1)] [(.int (1 : Int32))])) _
          exact retN X0 hx (t := .boolean) Bd.returns (by simp) (hb hby d1_47) hr
        · show Q1 Z p1 h0 n0 _ s₁.heap _
          rw [e0]
          refine ⟨?_, N0, rfl⟩
          rw [f1, if_pos hc2, if_neg hc4, if_neg hc14]
  · have pre23 : ∀ t, Steps p.tables e below (s₁.setTop (mkF m 9 #[.val (.int p1)] [(.int (57 : Int32)), (.int p1)])) t → Steps p.tables e below (s₁.setTop (entryFrame m #[(.int p1)] 1)) t := fun t kt => by
      refine pre1 _ ?_
      show Steps p.tables e below (s₁.setTop (mkF m 3 #[.val (.int p1)] [(.int (48 : Int32)), (.int p1)])) _
      refine XS.icmpNo X0.here hx rfl (hb hby d1_3) rfl (flt hc2).1 ?_
      show Steps p.tables e below (s₁.setTop (mkF m 6 #[.val (.int p1)] [])) _
      refine XS.iloadN X0.here hx rfl (hb hby d1_6) rfl ?_
      show Steps p.tables e below (s₁.setTop (mkF m 7 #[.val (.int p1)] [(.int p1)])) _
      refine XS.bipush X0.here hx rfl (hb hby d1_7) ?_
      exact kt
    by_cases hc24 : (57 : Int32) < p1
    · have pre25 : ∀ t, Steps p.tables e below (s₁.setTop (mkF m 15 #[.val (.int p1)] [(.int (97 : Int32)), (.int p1)])) t → Steps p.tables e below (s₁.setTop (entryFrame m #[(.int p1)] 1)) t := fun t kt => by
        refine pre23 _ ?_
        show Steps p.tables e below (s₁.setTop (mkF m 9 #[.val (.int p1)] [(.int (57 : Int32)), (.int p1)])) _
        refine XS.icmpNo X0.here hx rfl (hb hby d1_9) rfl (tlt hc24).2.2.2 ?_
        show Steps p.tables e below (s₁.setTop (mkF m 12 #[.val (.int p1)] [])) _
        refine XS.iloadN X0.here hx rfl (hb hby d1_12) rfl ?_
        show Steps p.tables e below (s₁.setTop (mkF m 13 #[.val (.int p1)] [(.int p1)])) _
        refine XS.bipush X0.here hx rfl (hb hby d1_13) ?_
        exact kt
      by_cases hc26 : p1 < (97 : Int32)
      · have pre27 : ∀ t, Steps p.tables e below (s₁.setTop (mkF m 27 #[.val (.int p1)] [(.int (65 : Int32)), (.int p1)])) t → Steps p.tables e below (s₁.setTop (entryFrame m #[(.int p1)] 1)) t := fun t kt => by
          refine pre25 _ ?_
          show Steps p.tables e below (s₁.setTop (mkF m 15 #[.val (.int p1)] [(.int (97 : Int32)), (.int p1)])) _
          refine XS.icmpYes X0.here hx rfl (pc0 := 15) (pc' := 24) rfl (hb hby d1_15) rfl (tlt hc26).1 (by decide) (by decide) ?_
          show Steps p.tables e below (s₁.setTop (mkF m 24 #[.val (.int p1)] [])) _
          refine XS.iloadN X0.here hx rfl (hb hby d1_24) rfl ?_
          show Steps p.tables e below (s₁.setTop (mkF m 25 #[.val (.int p1)] [(.int p1)])) _
          refine XS.bipush X0.here hx rfl (hb hby d1_25) ?_
          exact kt
        by_cases hc28 : p1 < (65 : Int32)
        · have pre29 : ∀ t, Steps p.tables e below (s₁.setTop (mkF m 39 #[.val (.int p1)] [(.int (45 : Int32)), (.int p1)])) t → Steps p.tables e below (s₁.setTop (entryFrame m #[(.int p1)] 1)) t := fun t kt => by
            refine pre27 _ ?_
            show Steps p.tables e below (s₁.setTop (mkF m 27 #[.val (.int p1)] [(.int (65 : Int32)), (.int p1)])) _
            refine XS.icmpYes X0.here hx rfl (pc0 := 27) (pc' := 36) rfl (hb hby d1_27) rfl (tlt hc28).1 (by decide) (by decide) ?_
            show Steps p.tables e below (s₁.setTop (mkF m 36 #[.val (.int p1)] [])) _
            refine XS.iloadN X0.here hx rfl (hb hby d1_36) rfl ?_
            show Steps p.tables e below (s₁.setTop (mkF m 37 #[.val (.int p1)] [(.int p1)])) _
            refine XS.bipush X0.here hx rfl (hb hby d1_37) ?_
            exact kt
          by_cases hc30 : p1 = (45 : Int32)
          · obtain ⟨fs, hr, hrun, hended, hW, hsame⟩ := X0.leave (v := some (.int (1 : Int32))) (fun h => by rw [Bd.returns] at h; cases h)
            refine ⟨_, _, pre29 _ ?_, hrun, hended, _, _, rfl, ?_, ⟨_, rfl⟩, hW, hsame.mono (by decide) (by decide)⟩
            · show Steps p.tables e below (s₁.setTop (mkF m 39 #[.val (.int p1)] [(.int (45 : Int32)), (.int p1)])) _
              refine XS.icmpNo X0.here hx rfl (hb hby d1_39) rfl (teq hc30).2 ?_
              show Steps p.tables e below (s₁.setTop (mkF m 42 #[.val (.int p1)] [])) _
              refine XS.iconst X0.here hx rfl (hb hby d1_42) ?_
              show Steps p.tables e below (s₁.setTop (mkF m 43 #[.val (.int p1)] [(.int (1 : Int32))])) _
              refine XS.goto X0.here hx rfl (pc0 := 43) (pc' := 47) rfl (hb hby d1_43) (by decide) (by decide) ?_
              show Steps p.tables e below (s₁.setTop (mkF m 47 #[.val (.int p1)] [(.int (1 : Int32))])) _
              exact retN X0 hx (t := .boolean) Bd.returns (by simp) (hb hby d1_47) hr
            · show Q1 Z p1 h0 n0 _ s₁.heap _
              rw [e0]
              refine ⟨?_, N0, rfl⟩
              rw [f1, if_neg hc2, if_pos hc24, if_pos hc26, if_pos hc28, if_pos hc30]
          · obtain ⟨fs, hr, hrun, hended, hW, hsame⟩ := X0.leave (v := some (.int (0 : Int32))) (fun h => by rw [Bd.returns] at h; cases h)
            refine ⟨_, _, pre29 _ ?_, hrun, hended, _, _, rfl, ?_, ⟨_, rfl⟩, hW, hsame.mono (by decide) (by decide)⟩
            · show Steps p.tables e below (s₁.setTop (mkF m 39 #[.val (.int p1)] [(.int (45 : Int32)), (.int p1)])) _
              refine XS.icmpYes X0.here hx rfl (pc0 := 39) (pc' := 46) rfl (hb hby d1_39) rfl (feq hc30).2 (by decide) (by decide) ?_
              show Steps p.tables e below (s₁.setTop (mkF m 46 #[.val (.int p1)] [])) _
              refine XS.iconst X0.here hx rfl (hb hby d1_46) ?_
              show Steps p.tables e below (s₁.setTop (mkF m 47 #[.val (.int p1)] [(.int (0 : Int32))])) _
              exact retN X0 hx (t := .boolean) Bd.returns (by simp) (hb hby d1_47) hr
            · show Q1 Z p1 h0 n0 _ s₁.heap _
              rw [e0]
              refine ⟨?_, N0, rfl⟩
              rw [f1, if_neg hc2, if_pos hc24, if_pos hc26, if_pos hc28, if_neg hc30]
        · have pre31 : ∀ t, Steps p.tables e below (s₁.setTop (mkF m 33 #[.val (.int p1)] [(.int (90 : Int32)), (.int p1)])) t → Steps p.tables e below (s₁.setTop (entryFrame m #[(.int p1)] 1)) t := fun t kt => by
            refine pre27 _ ?_
            show Steps p.tables e below (s₁.setTop (mkF m 27 #[.val (.int p1)] [(.int (65 : Int32)), (.int p1)])) _
            refine XS.icmpNo X0.here hx rfl (hb hby d1_27) rfl (flt hc28).1 ?_
            show Steps p.tables e below (s₁.setTop (mkF m 30 #[.val (.int p1)] [])) _
            refine XS.iloadN X0.here hx rfl (hb hby d1_30) rfl ?_
            show Steps p.tables e below (s₁.setTop (mkF m 31 #[.val (.int p1)] [(.int p1)])) _
            refine XS.bipush X0.here hx rfl (hb hby d1_31) ?_
            exact kt
          by_cases hc32 : (90 : Int32) < p1
          · have pre33 : ∀ t, Steps p.tables e below (s₁.setTop (mkF m 39 #[.val (.int p1)] [(.int (45 : Int32)), (.int p1)])) t → Steps p.tables e below (s₁.setTop (entryFrame m #[(.int p1)] 1)) t := fun t kt => by
              refine pre31 _ ?_
              show Steps p.tables e below (s₁.setTop (mkF m 33 #[.val (.int p1)] [(.int (90 : Int32)), (.int p1)])) _
              refine XS.icmpNo X0.here hx rfl (hb hby d1_33) rfl (tlt hc32).2.2.2 ?_
              show Steps p.tables e below (s₁.setTop (mkF m 36 #[.val (.int p1)] [])) _
              refine XS.iloadN X0.here hx rfl (hb hby d1_36) rfl ?_
              show Steps p.tables e below (s₁.setTop (mkF m 37 #[.val (.int p1)] [(.int p1)])) _
              refine XS.bipush X0.here hx rfl (hb hby d1_37) ?_
              exact kt
            by_cases hc34 : p1 = (45 : Int32)
            · obtain ⟨fs, hr, hrun, hended, hW, hsame⟩ := X0.leave (v := some (.int (1 : Int32))) (fun h => by rw [Bd.returns] at h; cases h)
              refine ⟨_, _, pre33 _ ?_, hrun, hended, _, _, rfl, ?_, ⟨_, rfl⟩, hW, hsame.mono (by decide) (by decide)⟩
              · show Steps p.tables e below (s₁.setTop (mkF m 39 #[.val (.int p1)] [(.int (45 : Int32)), (.int p1)])) _
                refine XS.icmpNo X0.here hx rfl (hb hby d1_39) rfl (teq hc34).2 ?_
                show Steps p.tables e below (s₁.setTop (mkF m 42 #[.val (.int p1)] [])) _
                refine XS.iconst X0.here hx rfl (hb hby d1_42) ?_
                show Steps p.tables e below (s₁.setTop (mkF m 43 #[.val (.int p1)] [(.int (1 : Int32))])) _
                refine XS.goto X0.here hx rfl (pc0 := 43) (pc' := 47) rfl (hb hby d1_43) (by decide) (by decide) ?_
                show Steps p.tables e below (s₁.setTop (mkF m 47 #[.val (.int p1)] [(.int (1 : Int32))])) _
                exact retN X0 hx (t := .boolean) Bd.returns (by simp) (hb hby d1_47) hr
              · show Q1 Z p1 h0 n0 _ s₁.heap _
                rw [e0]
                refine ⟨?_, N0, rfl⟩
                rw [f1, if_neg hc2, if_pos hc24, if_pos hc26, if_neg hc28, if_pos hc32, if_pos hc34]
            · obtain ⟨fs, hr, hrun, hended, hW, hsame⟩ := X0.leave (v := some (.int (0 : Int32))) (fun h => by rw [Bd.returns] at h; cases h)
              refine ⟨_, _, pre33 _ ?_, hrun, hended, _, _, rfl, ?_, ⟨_, rfl⟩, hW, hsame.mono (by decide) (by decide)⟩
              · show Steps p.tables e below (s₁.setTop (mkF m 39 #[.val (.int p1)] [(.int (45 : Int32)), (.int p1)])) _
                refine XS.icmpYes X0.here hx rfl (pc0 := 39) (pc' := 46) rfl (hb hby d1_39) rfl (feq hc34).2 (by decide) (by decide) ?_
                show Steps p.tables e below (s₁.setTop (mkF m 46 #[.val (.int p1)] [])) _
                refine XS.iconst X0.here hx rfl (hb hby d1_46) ?_
                show Steps p.tables e below (s₁.setTop (mkF m 47 #[.val (.int p1)] [(.int (0 : Int32))])) _
                exact retN X0 hx (t := .boolean) Bd.returns (by simp) (hb hby d1_47) hr
              · show Q1 Z p1 h0 n0 _ s₁.heap _
                rw [e0]
                refine ⟨?_, N0, rfl⟩
                rw [f1, if_neg hc2, if_pos hc24, if_pos hc26, if_neg hc28, if_pos hc32, if_neg hc34]
          · obtain ⟨fs, hr, hrun, hended, hW, hsame⟩ := X0.leave (v := some (.int (1 : Int32))) (fun h => by rw [Bd.returns] at h; cases h)
            refine ⟨_, _, pre31 _ ?_, hrun, hended, _, _, rfl, ?_, ⟨_, rfl⟩, hW, hsame.mono (by decide) (by decide)⟩
            · show Steps p.tables e below (s₁.setTop (mkF m 33 #[.val (.int p1)] [(.int (90 : Int32)), (.int p1)])) _
              refine XS.icmpYes X0.here hx rfl (pc0 := 33) (pc' := 42) rfl (hb hby d1_33) rfl (flt hc32).2.2.2 (by decide) (by decide) ?_
              show Steps p.tables e below (s₁.setTop (mkF m 42 #[.val (.int p1)] [])) _
              refine XS.iconst X0.here hx rfl (hb hby d1_42) ?_
              show Steps p.tables e below (s₁.setTop (mkF m 43 #[.val (.int p1)] [(.int (1 : Int32))])) _
              refine XS.goto X0.here hx rfl (pc0 := 43) (pc' := 47) rfl (hb hby d1_43) (by decide) (by decide) ?_
              show Steps p.tables e below (s₁.setTop (mkF m 47 #[.val (.int p1)] [(.int (1 : Int32))])) _
              exact retN X0 hx (t := .boolean) Bd.returns (by simp) (hb hby d1_47) hr
            · show Q1 Z p1 h0 n0 _ s₁.heap _
              rw [e0]
              refine ⟨?_, N0, rfl⟩
              rw [f1, if_neg hc2, if_pos hc24, if_pos hc26, if_neg hc28, if_neg hc32]
      · have pre35 : ∀ t, Steps p.tables e below (s₁.setTop (mkF m 21 #[.val (.int p1)] [(.int (122 : Int32)), (.int p1)])) t → Steps p.tables e below (s₁.setTop (entryFrame m #[(.int p1)] 1)) t := fun t kt => by
          refine pre25 _ ?_
          show Steps p.tables e below (s₁.setTop (mkF m 15 #[.val (.int p1)] [(.int (97 : Int32)), (.int p1)])) _
          refine XS.icmpNo X0.here hx rfl (hb hby d1_15) rfl (flt hc26).1 ?_
          show Steps p.tables e below (s₁.setTop (mkF m 18 #[.val (.int p1)] [])) _
          refine XS.iloadN X0.here hx rfl (hb hby d1_18) rfl ?_
          show Steps p.tables e below (s₁.setTop (mkF m 19 #[.val (.int p1)] [(.int p1)])) _
          refine XS.bipush X0.here hx rfl (hb hby d1_19) ?_
          exact kt
        by_cases hc36 : (122 : Int32) < p1
        · have pre37 : ∀ t, Steps p.tables e below (s₁.setTop (mkF m 27 #[.val (.int p1)] [(.int (65 : Int32)), (.int p1)])) t → Steps p.tables e below (s₁.setTop (entryFrame m #[(.int p1)] 1)) t := fun t kt => by
            refine pre35 _ ?_
            show Steps p.tables e below (s₁.setTop (mkF m 21 #[.val (.int p1)] [(.int (122 : Int32)), (.int p1)])) _
            refine XS.icmpNo X0.here hx rfl (hb hby d1_21) rfl (tlt hc36).2.2.2 ?_
            show Steps p.tables e below (s₁.setTop (mkF m 24 #[.val (.int p1)] [])) _
            refine XS.iloadN X0.here hx rfl (hb hby d1_24) rfl ?_
            show Steps p.tables e below (s₁.setTop (mkF m 25 #[.val (.int p1)] [(.int p1)])) _
            refine XS.bipush X0.here hx rfl (hb hby d1_25) ?_
            exact kt
          by_cases hc38 : p1 < (65 : Int32)
          · have pre39 : ∀ t, Steps p.tables e below (s₁.setTop (mkF m 39 #[.val (.int p1)] [(.int (45 : Int32)), (.int p1)])) t → Steps p.tables e below (s₁.setTop (entryFrame m #[(.int p1)] 1)) t := fun t kt => by
              refine pre37 _ ?_
              show Steps p.tables e below (s₁.setTop (mkF m 27 #[.val (.int p1)] [(.int (65 : Int32)), (.int p1)])) _
              refine XS.icmpYes X0.here hx rfl (pc0 := 27) (pc' := 36) rfl (hb hby d1_27) rfl (tlt hc38).1 (by decide) (by decide) ?_
              show Steps p.tables e below (s₁.setTop (mkF m 36 #[.val (.int p1)] [])) _
              refine XS.iloadN X0.here hx rfl (hb hby d1_36) rfl ?_
              show Steps p.tables e below (s₁.setTop (mkF m 37 #[.val (.int p1)] [(.int p1)])) _
              refine XS.bipush X0.here hx rfl (hb hby d1_37) ?_
              exact kt
            by_cases hc40 : p1 = (45 : Int32)
            · obtain ⟨fs, hr, hrun, hended, hW, hsame⟩ := X0.leave (v := some (.int (1 : Int32))) (fun h => by rw [Bd.returns] at h; cases h)
              refine ⟨_, _, pre39 _ ?_, hrun, hended, _, _, rfl, ?_, ⟨_, rfl⟩, hW, hsame.mono (by decide) (by decide)⟩
              · show Steps p.tables e below (s₁.setTop (mkF m 39 #[.val (.int p1)] [(.int (45 : Int32)), (.int p1)])) _
                refine XS.icmpNo X0.here hx rfl (hb hby d1_39) rfl (teq hc40).2 ?_
                show Steps p.tables e below (s₁.setTop (mkF m 42 #[.val (.int p1)] [])) _
                refine XS.iconst X0.here hx rfl (hb hby d1_42) ?_
                show Steps p.tables e below (s₁.setTop (mkF m 43 #[.val (.int p1)] [(.int (1 : Int32))])) _
                refine XS.goto X0.here hx rfl (pc0 := 43) (pc' := 47) rfl (hb hby d1_43) (by decide) (by decide) ?_
                show Steps p.tables e below (s₁.setTop (mkF m 47 #[.val (.int p1)] [(.int (1 : Int32))])) _
                exact retN X0 hx (t := .boolean) Bd.returns (by simp) (hb hby d1_47) hr
              · show Q1 Z p1 h0 n0 _ s₁.heap _
                rw [e0]
                refine ⟨?_, N0, rfl⟩
                rw [f1, if_neg hc2, if_pos hc24, if_neg hc26, if_pos hc36, if_pos hc38, if_pos hc40]
            · obtain ⟨fs, hr, hrun, hended, hW, hsame⟩ := X0.leave (v := some (.int (0 : Int32))) (fun h => by rw [Bd.returns] at h; cases h)
              refine ⟨_, _, pre39 _ ?_, hrun, hended, _, _, rfl, ?_, ⟨_, rfl⟩, hW, hsame.mono (by decide) (by decide)⟩
              · show Steps p.tables e below (s₁.setTop (mkF m 39 #[.val (.int p1)] [(.int (45 : Int32)), (.int p1)])) _
                refine XS.icmpYes X0.here hx rfl (pc0 := 39) (pc' := 46) rfl (hb hby d1_39) rfl (feq hc40).2 (by decide) (by decide) ?_
                show Steps p.tables e below (s₁.setTop (mkF m 46 #[.val (.int p1)] [])) _
                refine XS.iconst X0.here hx rfl (hb hby d1_46) ?_
                show Steps p.tables e below (s₁.setTop (mkF m 47 #[.val (.int p1)] [(.int (0 : Int32))])) _
                exact retN X0 hx (t := .boolean) Bd.returns (by simp) (hb hby d1_47) hr
              · show Q1 Z p1 h0 n0 _ s₁.heap _
                rw [e0]
                refine ⟨?_, N0, rfl⟩
                rw [f1, if_neg hc2, if_pos hc24, if_neg hc26, if_pos hc36, if_pos hc38, if_neg hc40]
          · have pre41 : ∀ t, Steps p.tables e below (s₁.setTop (mkF m 33 #[.val (.int p1)] [(.int (90 : Int32)), (.int p1)])) t → Steps p.tables e below (s₁.setTop (entryFrame m #[(.int p1)] 1)) t := fun t kt => by
              refine pre37 _ ?_
              show Steps p.tables e below (s₁.setTop (mkF m 27 #[.val (.int p1)] [(.int (65 : Int32)), (.int p1)])) _
              refine XS.icmpNo X0.here hx rfl (hb hby d1_27) rfl (flt hc38).1 ?_
              show Steps p.tables e below (s₁.setTop (mkF m 30 #[.val (.int p1)] [])) _
              refine XS.iloadN X0.here hx rfl (hb hby d1_30) rfl ?_
              show Steps p.tables e below (s₁.setTop (mkF m 31 #[.val (.int p1)] [(.int p1)])) _
              refine XS.bipush X0.here hx rfl (hb hby d1_31) ?_
              exact kt
            by_cases hc42 : (90 : Int32) < p1
            · have pre43 : ∀ t, Steps p.tables e below (s₁.setTop (mkF m 39 #[.val (.int p1)] [(.int (45 : Int32)), (.int p1)])) t → Steps p.tables e below (s₁.setTop (entryFrame m #[(.int p1)] 1)) t := fun t kt => by
                refine pre41 _ ?_
                show Steps p.tables e below (s₁.setTop (mkF m 33 #[.val (.int p1)] [(.int (90 : Int32)), (.int p1)])) _
                refine XS.icmpNo X0.here hx rfl (hb hby d1_33) rfl (tlt hc42).2.2.2 ?_
                show Steps p.tables e below (s₁.setTop (mkF m 36 #[.val (.int p1)] [])) _
                refine XS.iloadN X0.here hx rfl (hb hby d1_36) rfl ?_
                show Steps p.tables e below (s₁.setTop (mkF m 37 #[.val (.int p1)] [(.int p1)])) _
                refine XS.bipush X0.here hx rfl (hb hby d1_37) ?_
                exact kt
              by_cases hc44 : p1 = (45 : Int32)
              · obtain ⟨fs, hr, hrun, hended, hW, hsame⟩ := X0.leave (v := some (.int (1 : Int32))) (fun h => by rw [Bd.returns] at h; cases h)
                refine ⟨_, _, pre43 _ ?_, hrun, hended, _, _, rfl, ?_, ⟨_, rfl⟩, hW, hsame.mono (by decide) (by decide)⟩
                · show Steps p.tables e below (s₁.setTop (mkF m 39 #[.val (.int p1)] [(.int (45 : Int32)), (.int p1)])) _
                  refine XS.icmpNo X0.here hx rfl (hb hby d1_39) rfl (teq hc44).2 ?_
                  show Steps p.tables e below (s₁.setTop (mkF m 42 #[.val (.int p1)] [])) _
                  refine XS.iconst X0.here hx rfl (hb hby d1_42) ?_
                  show Steps p.tables e below (s₁.setTop (mkF m 43 #[.val (.int p1)] [(.int (1 : Int32))])) _
                  refine XS.goto X0.here hx rfl (pc0 := 43) (pc' := 47) rfl (hb hby d1_43) (by decide) (by decide) ?_
                  show Steps p.tables e below (s₁.setTop (mkF m 47 #[.val (.int p1)] [(.int (1 : Int32))])) _
                  exact retN X0 hx (t := .boolean) Bd.returns (by simp) (hb hby d1_47) hr
                · show Q1 Z p1 h0 n0 _ s₁.heap _
                  rw [e0]
                  refine ⟨?_, N0, rfl⟩
                  rw [f1, if_neg hc2, if_pos hc24, if_neg hc26, if_pos hc36, if_neg hc38, if_pos hc42, if_pos hc44]
              · obtain ⟨fs, hr, hrun, hended, hW, hsame⟩ := X0.leave (v := some (.int (0 : Int32))) (fun h => by rw [Bd.returns] at h; cases h)
                refine ⟨_, _, pre43 _ ?_, hrun, hended, _, _, rfl, ?_, ⟨_, rfl⟩, hW, hsame.mono (by decide) (by decide)⟩
                · show Steps p.tables e below (s₁.setTop (mkF m 39 #[.val (.int p1)] [(.int (45 : Int32)), (.int p1)])) _
                  refine XS.icmpYes X0.here hx rfl (pc0 := 39) (pc' := 46) rfl (hb hby d1_39) rfl (feq hc44).2 (by decide) (by decide) ?_
                  show Steps p.tables e below (s₁.setTop (mkF m 46 #[.val (.int p1)] [])) _
                  refine XS.iconst X0.here hx rfl (hb hby d1_46) ?_
                  show Steps p.tables e below (s₁.setTop (mkF m 47 #[.val (.int p1)] [(.int (0 : Int32))])) _
                  exact retN X0 hx (t := .boolean) Bd.returns (by simp) (hb hby d1_47) hr
                · show Q1 Z p1 h0 n0 _ s₁.heap _
                  rw [e0]
                  refine ⟨?_, N0, rfl⟩
                  rw [f1, if_neg hc2, if_pos hc24, if_neg hc26, if_pos hc36, if_neg hc38, if_pos hc42, if_neg hc44]
            · obtain ⟨fs, hr, hrun, hended, hW, hsame⟩ := X0.leave (v := some (.int (1 : Int32))) (fun h => by rw [Bd.returns] at h; cases h)
              refine ⟨_, _, pre41 _ ?_, hrun, hended, _, _, rfl, ?_, ⟨_, rfl⟩, hW, hsame.mono (by decide) (by decide)⟩
              · show Steps p.tables e below (s₁.setTop (mkF m 33 #[.val (.int p1)] [(.int (90 : Int32)), (.int p1)])) _
                refine XS.icmpYes X0.here hx rfl (pc0 := 33) (pc' := 42) rfl (hb hby d1_33) rfl (flt hc42).2.2.2 (by decide) (by decide) ?_
                show Steps p.tables e below (s₁.setTop (mkF m 42 #[.val (.int p1)] [])) _
                refine XS.iconst X0.here hx rfl (hb hby d1_42) ?_
                show Steps p.tables e below (s₁.setTop (mkF m 43 #[.val (.int p1)] [(.int (1 : Int32))])) _
                refine XS.goto X0.here hx rfl (pc0 := 43) (pc' := 47) rfl (hb hby d1_43) (by decide) (by decide) ?_
                show Steps p.tables e below (s₁.setTop (mkF m 47 #[.val (.int p1)] [(.int (1 : Int32))])) _
                exact retN X0 hx (t := .boolean) Bd.returns (by simp) (hb hby d1_47) hr
              · show Q1 Z p1 h0 n0 _ s₁.heap _
                rw [e0]
                refine ⟨?_, N0, rfl⟩
                rw [f1, if_neg hc2, if_pos hc24, if_neg hc26, if_pos hc36, if_neg hc38, if_neg hc42]
        · obtain ⟨fs, hr, hrun, hended, hW, hsame⟩ := X0.leave (v := some (.int (1 : Int32))) (fun h => by rw [Bd.returns] at h; cases h)
          refine ⟨_, _, pre35 _ ?_, hrun, hended, _, _, rfl, ?_, ⟨_, rfl⟩, hW, hsame.mono (by decide) (by decide)⟩
          · show Steps p.tables e below (s₁.setTop (mkF m 21 #[.val (.int p1)] [(.int (122 : Int32)), (.int p1)])) _
            refine XS.icmpYes X0.here hx rfl (pc0 := 21) (pc' := 42) rfl (hb hby d1_21) rfl (flt hc36).2.2.2 (by decide) (by decide) ?_
            show Steps p.tables e below (s₁.setTop (mkF m 42 #[.val (.int p1)] [])) _
            refine XS.iconst X0.here hx rfl (hb hby d1_42) ?_
            show Steps p.tables e below (s₁.setTop (mkF m 43 #[.val (.int p1)] [(.int (1 : Int32))])) _
            refine XS.goto X0.here hx rfl (pc0 := 43) (pc' := 47) rfl (hb hby d1_43) (by decide) (by decide) ?_
            show Steps p.tables e below (s₁.setTop (mkF m 47 #[.val (.int p1)] [(.int (1 : Int32))])) _
            exact retN X0 hx (t := .boolean) Bd.returns (by simp) (hb hby d1_47) hr
          · show Q1 Z p1 h0 n0 _ s₁.heap _
            rw [e0]
            refine ⟨?_, N0, rfl⟩
            rw [f1, if_neg hc2, if_pos hc24, if_neg hc26, if_neg hc36]
    · obtain ⟨fs, hr, hrun, hended, hW, hsame⟩ := X0.leave (v := some (.int (1 : Int32))) (fun h => by rw [Bd.returns] at h; cases h)
      refine ⟨_, _, pre23 _ ?_, hrun, hended, _, _, rfl, ?_, ⟨_, rfl⟩, hW, hsame.mono (by decide) (by decide)⟩
      · show Steps p.tables e below (s₁.setTop (mkF m 9 #[.val (.int p1)] [(.int (57 : Int32)), (.int p1)])) _
        refine XS.icmpYes X0.here hx rfl (pc0 := 9) (pc' := 42) rfl (hb hby d1_9) rfl (flt hc24).2.2.2 (by decide) (by decide) ?_
        show Steps p.tables e below (s₁.setTop (mkF m 42 #[.val (.int p1)] [])) _
        refine XS.iconst X0.here hx rfl (hb hby d1_42) ?_
        show Steps p.tables e below (s₁.setTop (mkF m 43 #[.val (.int p1)] [(.int (1 : Int32))])) _
        refine XS.goto X0.here hx rfl (pc0 := 43) (pc' := 47) rfl (hb hby d1_43) (by decide) (by decide) ?_
        show Steps p.tables e below (s₁.setTop (mkF m 47 #[.val (.int p1)] [(.int (1 : Int32))])) _
        exact retN X0 hx (t := .boolean) Bd.returns (by simp) (hb hby d1_47) hr
      · show Q1 Z p1 h0 n0 _ s₁.heap _
        rw [e0]
        refine ⟨?_, N0, rfl⟩
        rw [f1, if_neg hc2, if_neg hc24]
theorem d2_0 : decode method_2_code 0 = .ok (.iload_n 0, 1) := by decide +kernel
theorem d2_1 : decode method_2_code 1 = .ok (.i2l, 1) := by decide +kernel
theorem d2_2 : decode method_2_code 2 = .ok (.lstore_n 1, 1) := by decide +kernel
theorem d2_3 : decode method_2_code 3 = .ok (.lload_n 1, 1) := by decide +kernel
theorem d2_4 : decode method_2_code 4 = .ok (.ldc2_w 7, 3) := by decide +kernel
theorem d2_7 : decode method_2_code 7 = .ok (.lsub, 1) := by decide +kernel
theorem d2_8 : decode method_2_code 8 = .ok (.lstore_n 3, 1) := by decide +kernel
theorem d2_9 : decode method_2_code 9 = .ok (.lload_n 3, 1) := by decide +kernel
theorem d2_10 : decode method_2_code 10 = .ok (.lconst 0, 1) := by decide +kernel
theorem d2_11 : decode method_2_code 11 = .ok (.lcmp, 1) := by decide +kernel
theorem d2_12 : decode method_2_code 12 = .ok (.ifCond .lt 15, 3) := by decide +kernel
theorem d2_15 : decode method_2_code 15 = .ok (.lload_n 3, 1) := by decide +kernel
theorem d2_16 : decode method_2_code 16 = .ok (.ldc2_w 9, 3) := by decide +kernel
theorem d2_19 : decode method_2_code 19 = .ok (.lcmp, 1) := by decide +kernel
theorem d2_20 : decode method_2_code 20 = .ok (.ifCond .ge 7, 3) := by decide +kernel
theorem d2_23 : decode method_2_code 23 = .ok (.iconst 1, 1) := by decide +kernel
theorem d2_24 : decode method_2_code 24 = .ok (.goto 4, 3) := by decide +kernel
theorem d2_27 : decode method_2_code 27 = .ok (.iconst 0, 1) := by decide +kernel
theorem d2_28 : decode method_2_code 28 = .ok (.istore 5, 2) := by decide +kernel
theorem d2_30 : decode method_2_code 30 = .ok (.lload_n 1, 1) := by decide +kernel
theorem d2_31 : decode method_2_code 31 = .ok (.ldc2_w 11, 3) := by decide +kernel
theorem d2_34 : decode method_2_code 34 = .ok (.lor, 1) := by decide +kernel
theorem d2_35 : decode method_2_code 35 = .ok (.lstore 6, 2) := by decide +kernel
theorem d2_37 : decode method_2_code 37 = .ok (.lload 6, 2) := by decide +kernel
theorem d2_39 : decode method_2_code 39 = .ok (.ldc2_w 13, 3) := by decide +kernel
theorem d2_42 : decode method_2_code 42 = .ok (.lcmp, 1) := by decide +kernel
theorem d2_43 : decode method_2_code 43 = .ok (.ifCond .lt 16, 3) := by decide +kernel
theorem d2_46 : decode method_2_code 46 = .ok (.lload 6, 2) := by decide +kernel
theorem d2_48 : decode method_2_code 48 = .ok (.ldc2_w 15, 3) := by decide +kernel
theorem d2_51 : decode method_2_code 51 = .ok (.lcmp, 1) := by decide +kernel
theorem d2_52 : decode method_2_code 52 = .ok (.ifCond .gt 7, 3) := by decide +kernel
theorem d2_55 : decode method_2_code 55 = .ok (.iconst 1, 1) := by decide +kernel
theorem d2_56 : decode method_2_code 56 = .ok (.goto 4, 3) := by decide +kernel
theorem d2_59 : decode method_2_code 59 = .ok (.iconst 0, 1) := by decide +kernel
theorem d2_60 : decode method_2_code 60 = .ok (.istore 8, 2) := by decide +kernel
theorem d2_62 : decode method_2_code 62 = .ok (.lload_n 1, 1) := by decide +kernel
theorem d2_63 : decode method_2_code 63 = .ok (.ldc2_w 17, 3) := by decide +kernel
theorem d2_66 : decode method_2_code 66 = .ok (.lcmp, 1) := by decide +kernel
theorem d2_67 : decode method_2_code 67 = .ok (.ifCond .ne 7, 3) := by decide +kernel
theorem d2_70 : decode method_2_code 70 = .ok (.iconst 1, 1) := by decide +kernel
theorem d2_71 : decode method_2_code 71 = .ok (.goto 4, 3) := by decide +kernel
theorem d2_74 : decode method_2_code 74 = .ok (.iconst 0, 1) := by decide +kernel
theorem d2_75 : decode method_2_code 75 = .ok (.istore 9, 2) := by decide +kernel
theorem d2_77 : decode method_2_code 77 = .ok (.iload 5, 2) := by decide +kernel
theorem d2_79 : decode method_2_code 79 = .ok (.ifCond .ne 13, 3) := by decide +kernel
theorem d2_82 : decode method_2_code 82 = .ok (.iload 8, 2) := by decide +kernel
theorem d2_84 : decode method_2_code 84 = .ok (.ifCond .ne 8, 3) := by decide +kernel
theorem d2_87 : decode method_2_code 87 = .ok (.iload 9, 2) := by decide +kernel
theorem d2_89 : decode method_2_code 89 = .ok (.ifCond .eq 7, 3) := by decide +kernel
theorem d2_92 : decode method_2_code 92 = .ok (.iconst 1, 1) := by decide +kernel
theorem d2_93 : decode method_2_code 93 = .ok (.goto 4, 3) := by decide +kernel
theorem d2_96 : decode method_2_code 96 = .ok (.iconst 0, 1) := by decide +kernel
theorem d2_97 : decode method_2_code 97 = .ok (.ireturn, 1) := by decide +kernel
theorem pn_2 : plainName "com/example/lokey/lokey/yaml/PropertyReaderIsWordCharacterPinLaw" = true := by first | (simp [plainName, overriddenIn]; done) | decide +kernel
theorem ef_2 (m : MethodId) (x0 : Int32) : entryFrame m #[(.int x0)] 10 = mkF m 0 #[.val (.int x0), .unset, .unset, .unset, .unset, .unset, .unset, .unset, .unset, .unset] [] := by first | (simp [entryFrame, mkF, argsToLocals, Value.category]; done) | rfl
def f2 (p1 : Int32) : Int32 := (if ((p1.toInt64) - (48 : Int64)) < (0 : Int64) then (if ((p1.toInt64) ||| (32 : Int64)) < (97 : Int64) then (if (p1.toInt64) = (45 : Int64) then (1 : Int32) else (0 : Int32)) else (if (122 : Int64) < ((p1.toInt64) ||| (32 : Int64)) then (if (p1.toInt64) = (45 : Int64) then (1 : Int32) else (0 : Int32)) else (if (p1.toInt64) = (45 : Int64) then (1 : Int32) else (1 : Int32)))) else (if ((p1.toInt64) - (48 : Int64)) < (10 : Int64) then (if ((p1.toInt64) ||| (32 : Int64)) < (97 : Int64) then (if (p1.toInt64) = (45 : Int64) then (1 : Int32) else (1 : Int32)) else (if (122 : Int64) < ((p1.toInt64) ||| (32 : Int64)) then (if (p1.toInt64) = (45 : Int64) then (1 : Int32) else (1 : Int32)) else (if (p1.toInt64) = (45 : Int64) then (1 : Int32) else (1 : Int32)))) else (if ((p1.toInt64) ||| (32 : Int64)) < (97 : Int64) then (if (p1.toInt64) = (45 : Int64) then (1 : Int32) else (0 : Int32)) else (if (122 : Int64) < ((p1.toInt64) ||| (32 : Int64)) then (if (p1.toInt64) = (45 : Int64) then (1 : Int32) else (0 : Int32)) else (if (p1.toInt64) = (45 : Int64) then (1 : Int32) else (1 : Int32))))))
def Q2 (Z : State) (p1 : Int32) (h0 : Heap) (n0 : Nat) (v : Option Value) (h : Heap) (L : List Loc) : Prop := v = some (.int (f2 p1)) ∧ Fr n0 L ∧ h = h0
set_option maxRecDepth 65536 in
set_option maxHeartbeats 40000000 in
theorem rm2 (l : Launch) (Z : State) (a0 : Array Value) (hw : ∀ d ∈ tables_1, d.before a0 Z = true) (ws : List Jvm.Cond) (p1 : Int32) (h0 : Heap) (n0 : Nat) (Z0 : n0 ≤ h0.size) :
    MetFree l (⟨"com/example/lokey/lokey/yaml/PropertyReaderIsWordCharacterPinLaw", "expected", "(I)Z"⟩ : MethodName) (head1 (Jvm.Cond.code (⟨"com/example/lokey/lokey/yaml/PropertyReaderIsWordCharacterPinLaw", "expected", "(I)Z"⟩ : MethodName) method_2_code 10 (some .boolean) :: ws) ({ frames := 0, cells := 0, slots := 0, locals := 0 } : Room)) (fun a U => a = #[(.int p1)] ∧ Z.Warmed39 U.vm ∧ U.heap = h0) (fun _ _ _ _ _ => True) (fun _ U o U' => ∃ v L, o = .returned v ∧ Q2 Z p1 h0 n0 v U'.heap L ∧ FrameEnd U o U' L ({ frames := 0, cells := 0, slots := 0, locals := 0 } : Room).cells ({ frames := 0, cells := 0, slots := 0, locals := 0 } : Room).slots) := by
  refine MetFree.of_bodySF (plainFor_of_name pn_2) hisR ?_
  intro p e s m args below meth c s₁ Bd hml0 hP hK
  obtain ⟨rfl, hZ, hh⟩ := hP
  have hx := Bd.exec
  have hby := Bd.bytes
  have hml : c.maxLocals = 10 := hml0
  have hown : s.vm.findClass "com/example/lokey/lokey/yaml/PropertyReaderIsWordCharacterPinLaw" = some m.cls := findClass_of_methodNamed Bd.named
  have hnm := (name_of_methodNamed Bd.named Bd.method).1
  have X0 : Stand p l e ({ frames := 0, cells := 0, slots := 0, locals := 0 } : Room) s m #[(.int p1)] below meth c s₁ [] 0 0 := Stand.of_body Bd
  have e0 : s₁.heap = h0 := by rw [← hh, Bd.state]; rfl
  have N0 := Fr.nil n0
  have pre0 : ∀ t, Steps p.tables e below (s₁.setTop (mkF m 0 #[.val (.int p1), .unset, .unset, .unset, .unset, .unset, .unset, .unset, .unset, .unset] [])) t → Steps p.tables e below (s₁.setTop (entryFrame m #[(.int p1)] 10)) t := fun t k => castTop (ef_2 m p1) k
  have pre1 : ∀ t, Steps p.tables e below (s₁.setTop (mkF m 12 #[.val (.int p1), .val (.long (p1.toInt64)), .second, .val (.long ((p1.toInt64) - (48 : Int64))), .second, .unset, .unset, .unset, .unset, .unset] [(.int (lcmpW ((p1.toInt64) - (48 : Int64)) (0 : Int64)))])) t → Steps p.tables e below (s₁.setTop (entryFrame m #[(.int p1)] 10)) t := fun t kt => by
    refine pre0 _ ?_
    show Steps p.tables e below (s₁.setTop (mkF m 0 #[.val (.int p1), .unset, .unset, .unset, .unset, .unset, .unset, .unset, .unset, .unset] [])) _
    refine XS.iloadN X0.here hx rfl (hb hby d2_0) rfl ?_
    show Steps p.tables e below (s₁.setTop (mkF m 1 #[.val (.int p1), .unset, .unset, .unset, .unset, .unset, .unset, .unset, .unset, .unset] [(.int p1)])) _
    refine XS.i2l X0.here hx rfl (hb hby d2_1) rfl ?_
    show Steps p.tables e below (s₁.setTop (mkF m 2 #[.val (.int p1), .unset, .unset, .unset, .unset, .unset, .unset, .unset, .unset, .unset] [(.long (p1.toInt64))])) _
    refine XS.lstoreN X0.here hx rfl (hb hby d2_2) rfl (l' := #[.val (.int p1), .val (.long (p1.toInt64)), .second, .unset, .unset, .unset, .unset, .unset, .unset, .unset]) rfl ?_
    show Steps p.tables e below (s₁.setTop (mkF m 3 #[.val (.int p1), .val (.long (p1.toInt64)), .second, .unset, .unset, .unset, .unset, .unset, .unset, .unset] [])) _
    refine XS.lloadN X0.here hx rfl (hb hby d2_3) rfl ?_
    show Steps p.tables e below (s₁.setTop (mkF m 4 #[.val (.int p1), .val (.long (p1.toInt64)), .second, .unset, .unset, .unset, .unset, .unset, .unset, .unset] [(.long (p1.toInt64))])) _
    refine X0.ldc2Long hx hown (mvT hZ (hw _ (List.mem_of_getElem? (i := 9) rfl))) (g := (mkF m 4 #[.val (.int p1), .val (.long (p1.toInt64)), .second, .unset, .unset, .unset, .unset, .unset, .unset, .unset] [(.long (p1.toInt64))])) rfl (hb hby d2_4) _ ?_
    show Steps p.tables e below (s₁.setTop (mkF m 7 #[.val (.int p1), .val (.long (p1.toInt64)), .second, .unset, .unset, .unset, .unset, .unset, .unset, .unset] [(.long (48 : Int64)), (.long (p1.toInt64))])) _
    refine XS.lsub X0.here hx rfl (hb hby d2_7) rfl ?_
    show Steps p.tables e below (s₁.setTop (mkF m 8 #[.val (.int p1), .val (.long (p1.toInt64)), .second, .unset, .unset, .unset, .unset, .unset, .unset, .unset] [(.long ((p1.toInt64) - (48 : Int64)))])) _
    refine XS.lstoreN X0.here hx rfl (hb hby d2_8) rfl (l' := #[.val (.int p1), .val (.long (p1.toInt64)), .second, .val (.long ((p1.toInt64) - (48 : Int64))), .second, .unset, .unset, .unset, .unset, .unset]) rfl ?_
    show Steps p.tables e below (s₁.setTop (mkF m 9 #[.val (.int p1), .val (.long (p1.toInt64)), .second, .val (.long ((p1.toInt64) - (48 : Int64))), .second, .unset, .unset, .unset, .unset, .unset] [])) _
    refine XS.lloadN X0.here hx rfl (hb hby d2_9) rfl ?_
    show Steps p.tables e below (s₁.setTop (mkF m 10 #[.val (.int p1), .val (.long (p1.toInt64)), .second, .val (.long ((p1.toInt64) - (48 : Int64))), .second, .unset, .unset, .unset, .unset, .unset] [(.long ((p1.toInt64) - (48 : Int64)))])) _
    refine XS.lconst X0.here hx rfl (hb hby d2_10) ?_
    show Steps p.tables e below (s₁.setTop (mkF m 11 #[.val (.int p1), .val (.long (p1.toInt64)), .second, .val (.long ((p1.toInt64) - (48 : Int64))), .second, .unset, .unset, .unset, .unset, .unset] [(.long (0 : Int64)), (.long ((p1.toInt64) - (48 : Int64)))])) _
    refine XS.lcmp X0.here hx rfl (hb hby d2_11) rfl ?_
    exact kt
  by_cases hc2 : ((p1.toInt64) - (48 : Int64)) < (0 : Int64)
  · have pre3 : ∀ t, Steps p.tables e below (s₁.setTop (mkF m 43 #[.val (.int p1), .val (.long (p1.toInt64)), .second, .val (.long ((p1.toInt64) - (48 : Int64))), .second, .val (.int (0 : Int32)), .val (.long ((p1.toInt64) ||| (32 : Int64))), .second, .unset, .unset] [(.int (lcmpW ((p1.toInt64) ||| (32 : Int64)) (97 : Int64)))])) t → Steps p.tables e below (s₁.setTop (entryFrame m #[(.int p1)] 10)) t := fun t kt => by
      refine pre1 _ ?_
      show Steps p.tables e below (s₁.setTop (mkF m 12 #[.val (.int p1), .val (.long (p1.toInt64)), .second, .val (.long ((p1.toInt64) - (48 : Int64))), .second, .unset, .unset, .unset, .unset, .unset] [(.int (lcmpW ((p1.toInt64) - (48 : Int64)) (0 : Int64)))])) _
      refine XS.ifYes X0.here hx rfl (pc0 := 12) (pc' := 27) rfl (hb hby d2_12) rfl ((if0 _ _).trans (tlt ((lw_lt ((p1.toInt64) - (48 : Int64)) (0 : Int64)).mpr hc2)).1) (by decide) (by decide) ?_
      show Steps p.tables e below (s₁.setTop (mkF m 27 #[.val (.int p1), .val (.long (p1.toInt64)), .second, .val (.long ((p1.toInt64) - (48 : Int64))), .second, .unset, .unset, .unset, .unset, .unset] [])) _
      refine XS.iconst X0.here hx rfl (hb hby d2_27) ?_
      show Steps p.tables e below (s₁.setTop (mkF m 28 #[.val (.int p1), .val (.long (p1.toInt64)), .second, .val (.long ((p1.toInt64) - (48 : Int64))), .second, .unset, .unset, .unset, .unset, .unset] [(.int (0 : Int32))])) _
      refine XS.istore X0.here hx rfl (hb hby d2_28) rfl (l' := #[.val (.int p1), .val (.long (p1.toInt64)), .second, .val (.long ((p1.toInt64) - (48 : Int64))), .second, .val (.int (0 : Int32)), .unset, .unset, .unset, .unset]) rfl ?_
      show Steps p.tables e below (s₁.setTop (mkF m 30 #[.val (.int p1), .val (.long (p1.toInt64)), .second, .val (.long ((p1.toInt64) - (48 : Int64))), .second, .val (.int (0 : Int32)), .unset, .unset, .unset, .unset] [])) _
      refine XS.lloadN X0.here hx rfl (hb hby d2_30) rfl ?_
      show Steps p.tables e below (s₁.setTop (mkF m 31 #[.val (.int p1), .val (.long (p1.toInt64)), .second, .val (.long ((p1.toInt64) - (48 : Int64))), .second, .val (.int (0 : Int32)), .unset, .unset, .unset, .unset] [(.long (p1.toInt64))])) _
      refine X0.ldc2Long hx hown (mvT hZ (hw _ (List.mem_of_getElem? (i := 10) rfl))) (g := (mkF m 31 #[.val (.int p1), .val (.long (p1.toInt64)), .second, .val (.long ((p1.toInt64) - (48 : Int64))), .second, .val (.int (0 : Int32)), .unset, .unset, .unset, .unset] [(.long (p1.toInt64))])) rfl (hb hby d2_31) _ ?_
      show Steps p.tables e below (s₁.setTop (mkF m 34 #[.val (.int p1), .val (.long (p1.toInt64)), .second, .val (.long ((p1.toInt64) - (48 : Int64))), .second, .val (.int (0 : Int32)), .unset, .unset, .unset, .unset] [(.long (32 : Int64)), (.long (p1.toInt64))])) _
      refine XS.lor X0.here hx rfl (hb hby d2_34) rfl ?_
      show Steps p.tables e below (s₁.setTop (mkF m 35 #[.val (.int p1), .val (.long (p1.toInt64)), .second, .val (.long ((p1.toInt64) - (48 : Int64))), .second, .val (.int (0 : Int32)), .unset, .unset, .unset, .unset] [(.long ((p1.toInt64) ||| (32 : Int64)))])) _
      refine XS.lstore X0.here hx rfl (hb hby d2_35) rfl (l' := #[.val (.int p1), .val (.long (p1.toInt64)), .second, .val (.long ((p1.toInt64) - (48 : Int64))), .second, .val (.int (0 : Int32)), .val (.long ((p1.toInt64) ||| (32 : Int64))), .second, .unset, .unset]) rfl ?_
      show Steps p.tables e below (s₁.setTop (mkF m 37 #[.val (.int p1), .val (.long (p1.toInt64)), .second, .val (.long ((p1.toInt64) - (48 : Int64))), .second, .val (.int (0 : Int32)), .val (.long ((p1.toInt64) ||| (32 : Int64))), .second, .unset, .unset] [])) _
      refine XS.lload X0.here hx rfl (hb hby d2_37) rfl ?_
      show Steps p.tables e below (s₁.setTop (mkF m 39 #[.val (.int p1), .val (.long (p1.toInt64)), .second, .val (.long ((p1.toInt64) - (48 : Int64))), .second, .val (.int (0 : Int32)), .val (.long ((p1.toInt64) ||| (32 : Int64))), .second, .unset, .unset] [(.long ((p1.toInt64) ||| (32 : Int64)))])) _
      refine X0.ldc2Long hx hown (mvT hZ (hw _ (List.mem_of_getElem? (i := 11) rfl))) (g := (mkF m 39 #[.val (.int p1), .val (.long (p1.toInt64)), .second, .val (.long ((p1.toInt64) - (48 : Int64))), .second, .val (.int (0 : Int32)), .val (.long ((p1.toInt64) ||| (32 : Int64))), .second, .unset, .unset] [(.long ((p1.toInt64) ||| (32 : Int64)))])) rfl (hb hby d2_39) _ ?_
      show Steps p.tables e below (s₁.setTop (mkF m 42 #[.val (.int p1), .val (.long (p1.toInt64)), .second, .val (.long ((p1.toInt64) - (48 : Int64))), .second, .val (.int (0 : Int32)), .val (.long ((p1.toInt64) ||| (32 : Int64))), .second, .unset, .unset] [(.long (97 : Int64)), (.long ((p1.toInt64) ||| (32 : Int64)))])) _
      refine XS.lcmp X0.here hx rfl (hb hby d2_42) rfl ?_
      exact kt
    by_cases hc4 : ((p1.toInt64) ||| (32 : Int64)) < (97 : Int64)
    · have pre5 : ∀ t, Steps p.tables e below (s₁.setTop (mkF m 67 #[.val (.int p1), .val (.long (p1.toInt64)), .second, .val (.long ((p1.toInt64) - (48 : Int64))), .second, .val (.int (0 : Int32)), .val (.long ((p1.toInt64) ||| (32 : Int64))), .second, .val (.int (0 : Int32)), .unset] [(.int (lcmpW (p1.toInt64) (45 : Int64)))])) t → Steps p.tables e below (s₁.setTop (entryFrame m #[(.int p1)] 10)) t := fun t kt => by
        refine pre3 _ ?_
        show Steps p.tables e below (s₁.setTop (mkF m 43 #[.val (.int p1), .val (.long (p1.toInt64)), .second, .val (.long ((p1.toInt64) - (48 : Int64))), .second, .val (.int (0 : Int32)), .val (.long ((p1.toInt64) ||| (32 : Int64))), .second, .unset, .unset] [(.int (lcmpW ((p1.toInt64) ||| (32 : Int64)) (97 : Int64)))])) _
        refine XS.ifYes X0.here hx rfl (pc0 := 43) (pc' := 59) rfl (hb hby d2_43) rfl ((if0 _ _).trans (tlt ((lw_lt ((p1.toInt64) ||| (32 : Int64)) (97 : Int64)).mpr hc4)).1) (by decide) (by decide) ?_
        show Steps p.tables e below (s₁.setTop (mkF m 59 #[.val (.int p1), .val (.long (p1.toInt64)), .second, .val (.long ((p1.toInt64) - (48 : Int64))), .second, .val (.int (0 : Int32)), .val (.long ((p1.toInt64) ||| (32 : Int64))), .second, .unset, .unset] [])) _
        refine XS.iconst X0.here hx rfl (hb hby d2_59) ?_
        show Steps p.tables e below (s₁.setTop (mkF m 60 #[.val (.int p1), .val (.long (p1.toInt64)), .second, .val (.long ((p1.toInt64) - (48 : Int64))), .second, .val (.int (0 : Int32)), .val (.long ((p1.toInt64) ||| (32 : Int64))), .second, .unset, .unset] [(.int (0 : Int32))])) _
        refine XS.istore X0.here hx rfl (hb hby d2_60) rfl (l' := #[.val (.int p1), .val (.long (p1.toInt64)), .second, .val (.long ((p1.toInt64) - (48 : Int64))), .second, .val (.int (0 : Int32)), .val (.long ((p1.toInt64) ||| (32 : Int64))), .second, .val (.int (0 : Int32)), .unset]) rfl ?_
        show Steps p.tables e below (s₁.setTop (mkF m 62 #[.val (.int p1), .val (.long (p1.toInt64)), .second, .val (.long ((p1.toInt64) - (48 : Int64))), .second, .val (.int (0 : Int32)), .val (.long ((p1.toInt64) ||| (32 : Int64))), .second, .val (.int (0 : Int32)), .unset] [])) _
        refine XS.lloadN X0.here hx rfl (hb hby d2_62) rfl ?_
        show Steps p.tables e below (s₁.setTop (mkF m 63 #[.val (.int p1), .val (.long (p1.toInt64)), .second, .val (.long ((p1.toInt64) - (48 : Int64))), .second, .val (.int (0 : Int32)), .val (.long ((p1.toInt64) ||| (32 : Int64))), .second, .val (.int (0 : Int32)), .unset] [(.long (p1.toInt64))])) _
        refine X0.ldc2Long hx hown (mvT hZ (hw _ (List.mem_of_getElem? (i := 12) rfl))) (g := (mkF m 63 #[.val (.int p1), .val (.long (p1.toInt64)), .second, .val (.long ((p1.toInt64) - (48 : Int64))), .second, .val (.int (0 : Int32)), .val (.long ((p1.toInt64) ||| (32 : Int64))), .second, .val (.int (0 : Int32)), .unset] [(.long (p1.toInt64))])) rfl (hb hby d2_63) _ ?_
        show Steps p.tables e below (s₁.setTop (mkF m 66 #[.val (.int p1), .val (.long (p1.toInt64)), .second, .val (.long ((p1.toInt64) - (48 : Int64))), .second, .val (.int (0 : Int32)), .val (.long ((p1.toInt64) ||| (32 : Int64))), .second, .val (.int (0 : Int32)), .unset] [(.long (45 : Int64)), (.long (p1.toInt64))])) _
        refine XS.lcmp X0.here hx rfl (hb hby d2_66) rfl ?_
        exact kt
      by_cases hc6 : (p1.toInt64) = (45 : Int64)
      · obtain ⟨fs, hr, hrun, hended, hW, hsame⟩ := X0.leave (v := some (.int (1 : Int32))) (fun h => by rw [Bd.returns] at h; cases h)
        refine ⟨_, _, pre5 _ ?_, hrun, hended, _, _, rfl, ?_, ⟨_, rfl⟩, hW, hsame.mono (by decide) (by decide)⟩
        · show Steps p.tables e below (s₁.setTop (mkF m 67 #[.val (.int p1), .val (.long (p1.toInt64)), .second, .val (.long ((p1.toInt64) - (48 : Int64))), .second, .val (.int (0 : Int32)), .val (.long ((p1.toInt64) ||| (32 : Int64))), .second, .val (.int (0 : Int32)), .unset] [(.int (lcmpW (p1.toInt64) (45 : Int64)))])) _
          refine XS.ifNo X0.here hx rfl (hb hby d2_67) rfl ((if0 _ _).trans (teq ((lw_eq (p1.toInt64) (45 : Int64)).mpr hc6)).2) ?_
          show Steps p.tables e below (s₁.setTop (mkF m 70 #[.val (.int p1), .val (.long (p1.toInt64)), .second, .val (.long ((p1.toInt64) - (48 : Int64))), .second, .val (.int (0 : Int32)), .val (.long ((p1.toInt64) ||| (32 : Int64))), .second, .val (.int (0 : Int32)), .unset] [])) _
          refine XS.iconst X0.here hx rfl (hb hby d2_70) ?_
          show Steps p.tables e below (s₁.setTop (mkF m 71 #[.val (.int p1), .val (.long (p1.toInt64)), .second, .val (.long ((p1.toInt64) - (48 : Int64))), .second, .val (.int (0 : Int32)), .val (.long ((p1.toInt64) ||| (32 : Int64))), .second, .val (.int (0 : Int32)), .unset] [(.int (1 : Int32))])) _
          refine XS.goto X0.here hx rfl (pc0 := 71) (pc' := 75) rfl (hb hby d2_71) (by decide) (by decide) ?_
          show Steps p.tables e below (s₁.setTop (mkF m 75 #[.val (.int p1), .val (.long (p1.toInt64)), .second, .val (.long ((p1.toInt64) - (48 : Int64))), .second, .val (.int (0 : Int32)), .val (.long ((p1.toInt64) ||| (32 : Int64))), .second, .val (.int (0 : Int32)), .unset] [(.int (1 : Int32))])) _
          refine XS.istore X0.here hx rfl (hb hby d2_75) rfl (l' := #[.val (.int p1), .val (.long (p1.toInt64)), .second, .val (.long ((p1.toInt64) - (48 : Int64))), .second, .val (.int (0 : Int32)), .val (.long ((p1.toInt64) ||| (32 : Int64))), .second, .val (.int (0 : Int32)), .val (.int (1 : Int32))]) rfl ?_
          show Steps p.tables e below (s₁.setTop (mkF m 77 #[.val (.int p1), .val (.long (p1.toInt64)), .second, .val (.long ((p1.toInt64) - (48 : Int64))), .second, .val (.int (0 : Int32)), .val (.long ((p1.toInt64) ||| (32 : Int64))), .second, .val (.int (0 : Int32)), .val (.int (1 : Int32))] [])) _
          refine XS.iload X0.here hx rfl (hb hby d2_77) rfl ?_
          show Steps p.tables e below (s₁.setTop (mkF m 79 #[.val (.int p1), .val (.long (p1.toInt64)), .second, .val (.long ((p1.toInt64) - (48 : Int64))), .second, .val (.int (0 : Int32)), .val (.long ((p1.toInt64) ||| (32 : Int64))), .second, .val (.int (0 : Int32)), .val (.int (1 : Int32))] [(.int (0 : Int32))])) _
          refine XS.ifNo X0.here hx rfl (hb hby d2_79) rfl ((if0 _ _).trans (teq (by decide : (0 : Int32) = (0 : Int32))).2) ?_
          show Steps p.tables e below (s₁.setTop (mkF m 82 #[.val (.int p1), .val (.long (p1.toInt64)), .second, .val (.long ((p1.toInt64) - (48 : Int64))), .second, .val (.int (0 : Int32)), .val (.long ((p1.toInt64) ||| (32 : Int64))), .second, .val (.int (0 : Int32)), .val (.int (1 : Int32))] [])) _
          refine XS.iload X0.here hx rfl (hb hby d2_82) rfl ?_
          show Steps p.tables e below (s₁.setTop (mkF m 84 #[.val (.int p1), .val (.long (p1.toInt64)), .second, .val (.long ((p1.toInt64) - (48 : Int64))), .second, .val (.int (0 : Int32)), .val (.long ((p1.toInt64) ||| (32 : Int64))), .second, .val (.int (0 : Int32)), .val (.int (1 : Int32))] [(.int (0 : Int32))])) _
          refine XS.ifNo X0.here hx rfl (hb hby d2_84) rfl ((if0 _ _).trans (teq (by decide : (0 : Int32) = (0 : Int32))).2) ?_
          show Steps p.tables e below (s₁.setTop (mkF m 87 #[.val (.int p1), .val (.long (p1.toInt64)), .second, .val (.long ((p1.toInt64) - (48 : Int64))), .second, .val (.int (0 : Int32)), .val (.long ((p1.toInt64) ||| (32 : Int64))), .second, .val (.int (0 : Int32)), .val (.int (1 : Int32))] [])) _
          refine XS.iload X0.here hx rfl (hb hby d2_87) rfl ?_
          show Steps p.tables e below (s₁.setTop (mkF m 89 #[.val (.int p1), .val (.long (p1.toInt64)), .second, .val (.long ((p1.toInt64) - (48 : Int64))), .second, .val (.int (0 : Int32)), .val (.long ((p1.toInt64) ||| (32 : Int64))), .second, .val (.int (0 : Int32)), .val (.int (1 : Int32))] [(.int (1 : Int32))])) _
          refine XS.ifNo X0.here hx rfl (hb hby d2_89) rfl ((if0 _ _).trans (feq (by decide : ¬ ((1 : Int32) = (0 : Int32)))).1) ?_
          show Steps p.tables e below (s₁.setTop (mkF m 92 #[.val (.int p1), .val (.long (p1.toInt64)), .second, .val (.long ((p1.toInt64) - (48 : Int64))), .second, .val (.int (0 : Int32)), .val (.long ((p1.toInt64) ||| (32 : Int64))), .second, .val (.int (0 : Int32)), .val (.int (1 : Int32))] [])) _
          refine XS.iconst X0.here hx rfl (hb hby d2_92) ?_
          show Steps p.tables e below (s₁.setTop (mkF m 93 #[.val (.int p1), .val (.long (p1.toInt64)), .second, .val (.long ((p1.toInt64) - (48 : Int64))), .second, .val (.int (0 : Int32)), .val (.long ((p1.toInt64) ||| (32 : Int64))), .second, .val (.int (0 : Int32)), .val (.int (1 : Int32))] [(.int (1 : Int32))])) _
          refine XS.goto X0.here hx rfl (pc0 := 93) (pc' := 97) rfl (hb hby d2_93) (by decide) (by decide) ?_
          show Steps p.tables e below (s₁.setTop (mkF m 97 #[.val (.int p1), .val (.long (p1.toInt64)), .second, .val (.long ((p1.toInt64) - (48 : Int64))), .second, .val (.int (0 : Int32)), .val (.long ((p1.toInt64) ||| (32 : Int64))), .second, .val (.int (0 : Int32)), .val (.int (1 : Int32))] [(.int (1 : Int32))])) _
          exact retN X0 hx (t := .boolean) Bd.returns (by simp) (hb hby d2_97) hr
        · show Q2 Z p1 h0 n0 _ s₁.heap _
          rw [e0]
          refine ⟨?_, N0, rfl⟩
          rw [f2, if_pos hc2, if_pos hc4, if_pos hc6]
      · obtain ⟨fs, hr, hrun, hended, hW, hsame⟩ := X0.leave (v := some (.int (0 : Int32))) (fun h => by rw [Bd.returns] at h; cases h)
        refine ⟨_, _, pre5 _ ?_, hrun, hended, _, _, rfl, ?_, ⟨_, rfl⟩, hW, hsame.mono (by decide) (by decide)⟩
        · show Steps p.tables e below (s₁.setTop (mkF m 67 #[.val (.int p1), .val (.long (p1.toInt64)), .second, .val (.long ((p1.toInt64) - (48 : Int64))), .second, .val (.int (0 : Int32)), .val (.long ((p1.toInt64) ||| (32 : Int64))), .second, .val (.int (0 : Int32)), .unset] [(.int (lcmpW (p1.toInt64) (45 : Int64)))])) _
          refine XS.ifYes X0.here hx rfl (pc0 := 67) (pc' := 74) rfl (hb hby d2_67) rfl ((if0 _ _).trans (feq (mt (lw_eq (p1.toInt64) (45 : Int64)).mp hc6)).2) (by decide) (by decide) ?_
          show Steps p.tables e below (s₁.setTop (mkF m 74 #[.val (.int p1), .val (.long (p1.toInt64)), .second, .val (.long ((p1.toInt64) - (48 : Int64))), .second, .val (.int (0 : Int32)), .val (.long ((p1.toInt64) ||| (32 : Int64))), .second, .val (.int (0 : Int32)), .unset] [])) _
          refine XS.iconst X0.here hx rfl (hb hby d2_74) ?_
          show Steps p.tables e below (s₁.setTop (mkF m 75 #[.val (.int p1), .val (.long (p1.toInt64)), .second, .val (.long ((p1.toInt64) - (48 : Int64))), .second, .val (.int (0 : Int32)), .val (.long ((p1.toInt64) ||| (32 : Int64))), .second, .val (.int (0 : Int32)), .unset] [(.int (0 : Int32))])) _
          refine XS.istore X0.here hx rfl (hb hby d2_75) rfl (l' := #[.val (.int p1), .val (.long (p1.toInt64)), .second, .val (.long ((p1.toInt64) - (48 : Int64))), .second, .val (.int (0 : Int32)), .val (.long ((p1.toInt64) ||| (32 : Int64))), .second, .val (.int (0 : Int32)), .val (.int (0 : Int32))]) rfl ?_
          show Steps p.tables e below (s₁.setTop (mkF m 77 #[.val (.int p1), .val (.long (p1.toInt64)), .second, .val (.long ((p1.toInt64) - (48 : Int64))), .second, .val (.int (0 : Int32)), .val (.long ((p1.toInt64) ||| (32 : Int64))), .second, .val (.int (0 : Int32)), .val (.int (0 : Int32))] [])) _
          refine XS.iload X0.here hx rfl (hb hby d2_77) rfl ?_
          show Steps p.tables e below (s₁.setTop (mkF m 79 #[.val (.int p1), .val (.long (p1.toInt64)), .second, .val (.long ((p1.toInt64) - (48 : Int64))), .second, .val (.int (0 : Int32)), .val (.long ((p1.toInt64) ||| (32 : Int64))), .second, .val (.int (0 : Int32)), .val (.int (0 : Int32))] [(.int (0 : Int32))])) _
          refine XS.ifNo X0.here hx rfl (hb hby d2_79) rfl ((if0 _ _).trans (teq (by decide : (0 : Int32) = (0 : Int32))).2) ?_
          show Steps p.tables e below (s₁.setTop (mkF m 82 #[.val (.int p1), .val (.long (p1.toInt64)), .second, .val (.long ((p1.toInt64) - (48 : Int64))), .second, .val (.int (0 : Int32)), .val (.long ((p1.toInt64) ||| (32 : Int64))), .second, .val (.int (0 : Int32)), .val (.int (0 : Int32))] [])) _
          refine XS.iload X0.here hx rfl (hb hby d2_82) rfl ?_
          show Steps p.tables e below (s₁.setTop (mkF m 84 #[.val (.int p1), .val (.long (p1.toInt64)), .second, .val (.long ((p1.toInt64) - (48 : Int64))), .second, .val (.int (0 : Int32)), .val (.long ((p1.toInt64) ||| (32 : Int64))), .second, .val (.int (0 : Int32)), .val (.int (0 : Int32))] [(.int (0 : Int32))])) _
          refine XS.ifNo X0.here hx rfl (hb hby d2_84) rfl ((if0 _ _).trans (teq (by decide : (0 : Int32) = (0 : Int32))).2) ?_
          show Steps p.tables e below (s₁.setTop (mkF m 87 #[.val (.int p1), .val (.long (p1.toInt64)), .second, .val (.long ((p1.toInt64) - (48 : Int64))), .second, .val (.int (0 : Int32)), .val (.long ((p1.toInt64) ||| (32 : Int64))), .second, .val (.int (0 : Int32)), .val (.int (0 : Int32))] [])) _
          refine XS.iload X0.here hx rfl (hb hby d2_87) rfl ?_
          show Steps p.tables e below (s₁.setTop (mkF m 89 #[.val (.int p1), .val (.long (p1.toInt64)), .second, .val (.long ((p1.toInt64) - (48 : Int64))), .second, .val (.int (0 : Int32)), .val (.long ((p1.toInt64) ||| (32 : Int64))), .second, .val (.int (0 : Int32)), .val (.int (0 : Int32))] [(.int (0 : Int32))])) _
          refine XS.ifYes X0.here hx rfl (pc0 := 89) (pc' := 96) rfl (hb hby d2_89) rfl ((if0 _ _).trans (teq (by decide : (0 : Int32) = (0 : Int32))).1) (by decide) (by decide) ?_
          show Steps p.tables e below (s₁.setTop (mkF m 96 #[.val (.int p1), .val (.long (p1.toInt64)), .second, .val (.long ((p1.toInt64) - (48 : Int64))), .second, .val (.int (0 : Int32)), .val (.long ((p1.toInt64) ||| (32 : Int64))), .second, .val (.int (0 : Int32)), .val (.int (0 : Int32))] [])) _
          refine XS.iconst X0.here hx rfl (hb hby d2_96) ?_
          show Steps p.tables e below (s₁.setTop (mkF m 97 #[.val (.int p1), .val (.long (p1.toInt64)), .second, .val (.long ((p1.toInt64) - (48 : Int64))), .second, .val (.int (0 : Int32)), .val (.long ((p1.toInt64) ||| (32 : Int64))), .second, .val (.int (0 : Int32)), .val (.int (0 : Int32))] [(.int (0 : Int32))])) _
          exact retN X0 hx (t := .boolean) Bd.returns (by simp) (hb hby d2_97) hr
        · show Q2 Z p1 h0 n0 _ s₁.heap _
          rw [e0]
          refine ⟨?_, N0, rfl⟩
          rw [f2, if_pos hc2, if_pos hc4, if_neg hc6]
    · have pre7 : ∀ t, Steps p.tables e below (s₁.setTop (mkF m 52 #[.val (.int p1), .val (.long (p1.toInt64)), .second, .val (.long ((p1.toInt64) - (48 : Int64))), .second, .val (.int (0 : Int32)), .val (.long ((p1.toInt64) ||| (32 : Int64))), .second, .unset, .unset] [(.int (lcmpW ((p1.toInt64) ||| (32 : Int64)) (122 : Int64)))])) t → Steps p.tables e below (s₁.setTop (entryFrame m #[(.int p1)] 10)) t := fun t kt => by
        refine pre3 _ ?_
        show Steps p.tables e below (s₁.setTop (mkF m 43 #[.val (.int p1), .val (.long (p1.toInt64)), .second, .val (.long ((p1.toInt64) - (48 : Int64))), .second, .val (.int (0 : Int32)), .val (.long ((p1.toInt64) ||| (32 : Int64))), .second, .unset, .unset] [(.int (lcmpW ((p1.toInt64) ||| (32 : Int64)) (97 : Int64)))])) _
        refine XS.ifNo X0.here hx rfl (hb hby d2_43) rfl ((if0 _ _).trans (flt (mt (lw_lt ((p1.toInt64) ||| (32 : Int64)) (97 : Int64)).mp hc4)).1) ?_
        show Steps p.tables e below (s₁.setTop (mkF m 46 #[.val (.int p1), .val (.long (p1.toInt64)), .second, .val (.long ((p1.toInt64) - (48 : Int64))), .second, .val (.int (0 : Int32)), .val (.long ((p1.toInt64) ||| (32 : Int64))), .second, .unset, .unset] [])) _
        refine XS.lload X0.here hx rfl (hb hby d2_46) rfl ?_
        show Steps p.tables e below (s₁.setTop (mkF m 48 #[.val (.int p1), .val (.long (p1.toInt64)), .second, .val (.long ((p1.toInt64) - (48 : Int64))), .second, .val (.int (0 : Int32)), .val (.long ((p1.toInt64) ||| (32 : Int64))), .second, .unset, .unset] [(.long ((p1.toInt64) ||| (32 : Int64)))])) _
        refine X0.ldc2Long hx hown (mvT hZ (hw _ (List.mem_of_getElem? (i := 14) rfl))) (g := (mkF m 48 #[.val (.int p1), .val (.long (p1.toInt64)), .second, .val (.long ((p1.toInt64) - (48 : Int64))), .second, .val (.int (0 : Int32)), .val (.long ((p1.toInt64) ||| (32 : Int64))), .second, .unset, .unset] [(.long ((p1.toInt64) ||| (32 : Int64)))])) rfl (hb hby d2_48) _ ?_
        show Steps p.tables e below (s₁.setTop (mkF m 51 #[.val (.int p1), .val (.long (p1.toInt64)), .second, .val (.long ((p1.toInt64) - (48 : Int64))), .second, .val (.int (0 : Int32)), .val (.long ((p1.toInt64) ||| (32 : Int64))), .second, .unset, .unset] [(.long (122 : Int64)), (.long ((p1.toInt64) ||| (32 : Int64)))])) _
        refine XS.lcmp X0.here hx rfl (hb hby d2_51) rfl ?_
        exact kt
      by_cases hc8 : (122 : Int64) < ((p1.toInt64) ||| (32 : Int64))
      · have pre9 : ∀ t, Steps p.tables e below (s₁.setTop (mkF m 67 #[.val (.int p1), .val (.long (p1.toInt64)), .second, .val (.long ((p1.toInt64) - (48 : Int64))), .second, .val (.int (0 : Int32)), .val (.long ((p1.toInt64) ||| (32 : Int64))), .second, .val (.int (0 : Int32)), .unset] [(.int (lcmpW (p1.toInt64) (45 : Int64)))])) t → Steps p.tables e below (s₁.setTop (entryFrame m #[(.int p1)] 10)) t := fun t kt => by
          refine pre7 _ ?_
          show Steps p.tables e below (s₁.setTop (mkF m 52 #[.val (.int p1), .val (.long (p1.toInt64)), .second, .val (.long ((p1.toInt64) - (48 : Int64))), .second, .val (.int (0 : Int32)), .val (.long ((p1.toInt64) ||| (32 : Int64))), .second, .unset, .unset] [(.int (lcmpW ((p1.toInt64) ||| (32 : Int64)) (122 : Int64)))])) _
          refine XS.ifYes X0.here hx rfl (pc0 := 52) (pc' := 59) rfl (hb hby d2_52) rfl ((if0 _ _).trans (tlt ((lw_gt ((p1.toInt64) ||| (32 : Int64)) (122 : Int64)).mpr hc8)).2.2.1) (by decide) (by decide) ?_
          show Steps p.tables e below (s₁.setTop (mkF m 59 #[.val (.int p1), .val (.long (p1.toInt64)), .second, .val (.long ((p1.toInt64) - (48 : Int64))), .second, .val (.int (0 : Int32)), .val (.long ((p1.toInt64) ||| (32 : Int64))), .second, .unset, .unset] [])) _
          refine XS.iconst X0.here hx rfl (hb hby d2_59) ?_
          show Steps p.tables e below (s₁.setTop (mkF m 60 #[.val (.int p1), .val (.long (p1.toInt64)), .second, .val (.long ((p1.toInt64) - (48 : Int64))), .second, .val (.int (0 : Int32)), .val (.long ((p1.toInt64) ||| (32 : Int64))), .second, .unset, .unset] [(.int (0 : Int32))])) _
          refine XS.istore X0.here hx rfl (hb hby d2_60) rfl (l' := #[.val (.int p1), .val (.long (p1.toInt64)), .second, .val (.long ((p1.toInt64) - (48 : Int64))), .second, .val (.int (0 : Int32)), .val (.long ((p1.toInt64) ||| (32 : Int64))), .second, .val (.int (0 : Int32)), .unset]) rfl ?_
          show Steps p.tables e below (s₁.setTop (mkF m 62 #[.val (.int p1), .val (.long (p1.toInt64)), .second, .val (.long ((p1.toInt64) - (48 : Int64))), .second, .val (.int (0 : Int32)), .val (.long ((p1.toInt64) ||| (32 : Int64))), .second, .val (.int (0 : Int32)), .unset] [])) _
          refine XS.lloadN X0.here hx rfl (hb hby d2_62) rfl ?_
          show Steps p.tables e below (s₁.setTop (mkF m 63 #[.val (.int p1), .val (.long (p1.toInt64)), .second, .val (.long ((p1.toInt64) - (48 : Int64))), .second, .val (.int (0 : Int32)), .val (.long ((p1.toInt64) ||| (32 : Int64))), .second, .val (.int (0 : Int32)), .unset] [(.long (p1.toInt64))])) _
          refine X0.ldc2Long hx hown (mvT hZ (hw _ (List.mem_of_getElem? (i := 12) rfl))) (g := (mkF m 63 #[.val (.int p1), .val (.long (p1.toInt64)), .second, .val (.long ((p1.toInt64) - (48 : Int64))), .second, .val (.int (0 : Int32)), .val (.long ((p1.toInt64) ||| (32 : Int64))), .second, .val (.int (0 : Int32)), .unset] [(.long (p1.toInt64))])) rfl (hb hby d2_63) _ ?_
          show Steps p.tables e below (s₁.setTop (mkF m 66 #[.val (.int p1), .val (.long (p1.toInt64)), .second, .val (.long ((p1.toInt64) - (48 : Int64))), .second, .val (.int (0 : Int32)), .val (.long ((p1.toInt64) ||| (32 : Int64))), .second, .val (.int (0 : Int32)), .unset] [(.long (45 : Int64)), (.long (p1.toInt64))])) _
          refine XS.lcmp X0.here hx rfl (hb hby d2_66) rfl ?_
          exact kt
        by_cases hc10 : (p1.toInt64) = (45 : Int64)
        · obtain ⟨fs, hr, hrun, hended, hW, hsame⟩ := X0.leave (v := some (.int (1 : Int32))) (fun h => by rw [Bd.returns] at h; cases h)
          refine ⟨_, _, pre9 _ ?_, hrun, hended, _, _, rfl, ?_, ⟨_, rfl⟩, hW, hsame.mono (by decide) (by decide)⟩
          · show Steps p.tables e below (s₁.setTop (mkF m 67 #[.val (.int p1), .val (.long (p1.toInt64)), .second, .val (.long ((p1.toInt64) - (48 : Int64))), .second, .val (.int (0 : Int32)), .val (.long ((p1.toInt64) ||| (32 : Int64))), .second, .val (.int (0 : Int32)), .unset] [(.int (lcmpW (p1.toInt64) (45 : Int64)))])) _
            refine XS.ifNo X0.here hx rfl (hb hby d2_67) rfl ((if0 _ _).trans (teq ((lw_eq (p1.toInt64) (45 : Int64)).mpr hc10)).2) ?_
            show Steps p.tables e below (s₁.setTop (mkF m 70 #[.val (.int p1), .val (.long (p1.toInt64)), .second, .val (.long ((p1.toInt64) - (48 : Int64))), .second, .val (.int (0 : Int32)), .val (.long ((p1.toInt64) ||| (32 : Int64))), .second, .val (.int (0 : Int32)), .unset] [])) _
            refine XS.iconst X0.here hx rfl (hb hby d2_70) ?_
            show Steps p.tables e below (s₁.setTop (mkF m 71 #[.val (.int p1), .val (.long (p1.toInt64)), .second, .val (.long ((p1.toInt64) - (48 : Int64))), .second, .val (.int (0 : Int32)), .val (.long ((p1.toInt64) ||| (32 : Int64))), .second, .val (.int (0 : Int32)), .unset] [(.int (1 : Int32))])) _
            refine XS.goto X0.here hx rfl (pc0 := 71) (pc' := 75) rfl (hb hby d2_71) (by decide) (by decide) ?_
            show Steps p.tables e below (s₁.setTop (mkF m 75 #[.val (.int p1), .val (.long (p1.toInt64)), .second, .val (.long ((p1.toInt64) - (48 : Int64))), .second, .val (.int (0 : Int32)), .val (.long ((p1.toInt64) ||| (32 : Int64))), .second, .val (.int (0 : Int32)), .unset] [(.int (1 : Int32))])) _
            refine XS.istore X0.here hx rfl (hb hby d2_75) rfl (l' := #[.val (.int p1), .val (.long (p1.toInt64)), .second, .val (.long ((p1.toInt64) - (48 : Int64))), .second, .val (.int (0 : Int32)), .val (.long ((p1.toInt64) ||| (32 : Int64))), .second, .val (.int (0 : Int32)), .val (.int (1 : Int32))]) rfl ?_
            show Steps p.tables e below (s₁.setTop (mkF m 77 #[.val (.int p1), .val (.long (p1.toInt64)), .second, .val (.long ((p1.toInt64) - (48 : Int64))), .second, .val (.int (0 : Int32)), .val (.long ((p1.toInt64) ||| (32 : Int64))), .second, .val (.int (0 : Int32)), .val (.int (1 : Int32))] [])) _
            refine XS.iload X0.here hx rfl (hb hby d2_77) rfl ?_
            show Steps p.tables e below (s₁.setTop (mkF m 79 #[.val (.int p1), .val (.long (p1.toInt64)), .second, .val (.long ((p1.toInt64) - (48 : Int64))), .second, .val (.int (0 : Int32)), .val (.long ((p1.toInt64) ||| (32 : Int64))), .second, .val (.int (0 : Int32)), .val (.int (1 : Int32))] [(.int (0 : Int32))])) _
            refine XS.ifNo X0.here hx rfl (hb hby d2_79) rfl ((if0 _ _).trans (teq (by decide : (0 : Int32) = (0 : Int32))).2) ?_
            show Steps p.tables e below (s₁.setTop (mkF m 82 #[.val (.int p1), .val (.long (p1.toInt64)), .second, .val (.long ((p1.toInt64) - (48 : Int64))), .second, .val (.int (0 : Int32)), .val (.long ((p1.toInt64) ||| (32 : Int64))), .second, .val (.int (0 : Int32)), .val (.int (1 : Int32))] [])) _
            refine XS.iload X0.here hx rfl (hb hby d2_82) rfl ?_
            show Steps p.tables e below (s₁.setTop (mkF m 84 #[.val (.int p1), .val (.long (p1.toInt64)), .second, .val (.long ((p1.toInt64) - (48 : Int64))), .second, .val (.int (0 : Int32)), .val (.long ((p1.toInt64) ||| (32 : Int64))), .second, .val (.int (0 : Int32)), .val (.int (1 : Int32))] [(.int (0 : Int32))])) _
            refine XS.ifNo X0.here hx rfl (hb hby d2_84) rfl ((if0 _ _).trans (teq (by decide : (0 : Int32) = (0 : Int32))).2) ?_
            show Steps p.tables e below (s₁.setTop (mkF m 87 #[.val (.int p1), .val (.long (p1.toInt64)), .second, .val (.long ((p1.toInt64) - (48 : Int64))), .second, .val (.int (0 : Int32)), .val (.long ((p1.toInt64) ||| (32 : Int64))), .second, .val (.int (0 : Int32)), .val (.int (1 : Int32))] [])) _
            refine XS.iload X0.here hx rfl (hb hby d2_87) rfl ?_
            show Steps p.tables e below (s₁.setTop (mkF m 89 #[.val (.int p1), .val (.long (p1.toInt64)), .second, .val (.long ((p1.toInt64) - (48 : Int64))), .second, .val (.int (0 : Int32)), .val (.long ((p1.toInt64) ||| (32 : Int64))), .second, .val (.int (0 : Int32)), .val (.int (1 : Int32))] [(.int (1 : Int32))])) _
            refine XS.ifNo X0.here hx rfl (hb hby d2_89) rfl ((if0 _ _).trans (feq (by decide : ¬ ((1 : Int32) = (0 : Int32)))).1) ?_
            show Steps p.tables e below (s₁.setTop (mkF m 92 #[.val (.int p1), .val (.long (p1.toInt64)), .second, .val (.long ((p1.toInt64) - (48 : Int64))), .second, .val (.int (0 : Int32)), .val (.long ((p1.toInt64) ||| (32 : Int64))), .second, .val (.int (0 : Int32)), .val (.int (1 : Int32))] [])) _
            refine XS.iconst X0.here hx rfl (hb hby d2_92) ?_
            show Steps p.tables e below (s₁.setTop (mkF m 93 #[.val (.int p1), .val (.long (p1.toInt64)), .second, .val (.long ((p1.toInt64) - (48 : Int64))), .second, .val (.int (0 : Int32)), .val (.long ((p1.toInt64) ||| (32 : Int64))), .second, .val (.int (0 : Int32)), .val (.int (1 : Int32))] [(.int (1 : Int32))])) _
            refine XS.goto X0.here hx rfl (pc0 := 93) (pc' := 97) rfl (hb hby d2_93) (by decide) (by decide) ?_
            show Steps p.tables e below (s₁.setTop (mkF m 97 #[.val (.int p1), .val (.long (p1.toInt64)), .second, .val (.long ((p1.toInt64) - (48 : Int64))), .second, .val (.int (0 : Int32)), .val (.long ((p1.toInt64) ||| (32 : Int64))), .second, .val (.int (0 : Int32)), .val (.int (1 : Int32))] [(.int (1 : Int32))])) _
            exact retN X0 hx (t := .boolean) Bd.returns (by simp) (hb hby d2_97) hr
          · show Q2 Z p1 h0 n0 _ s₁.heap _
            rw [e0]
            refine ⟨?_, N0, rfl⟩
            rw [f2, if_pos hc2, if_neg hc4, if_pos hc8, if_pos hc10]
        · obtain ⟨fs, hr, hrun, hended, hW, hsame⟩ := X0.leave (v := some (.int (0 : Int32))) (fun h => by rw [Bd.returns] at h; cases h)
          refine ⟨_, _, pre9 _ ?_, hrun, hended, _, _, rfl, ?_, ⟨_, rfl⟩, hW, hsame.mono (by decide) (by decide)⟩
          · show Steps p.tables e below (s₁.setTop (mkF m 67 #[.val (.int p1), .val (.long (p1.toInt64)), .second, .val (.long ((p1.toInt64) - (48 : Int64))), .second, .val (.int (0 : Int32)), .val (.long ((p1.toInt64) ||| (32 : Int64))), .second, .val (.int (0 : Int32)), .unset] [(.int (lcmpW (p1.toInt64) (45 : Int64)))])) _
            refine XS.ifYes X0.here hx rfl (pc0 := 67) (pc' := 74) rfl (hb hby d2_67) rfl ((if0 _ _).trans (feq (mt (lw_eq (p1.toInt64) (45 : Int64)).mp hc10)).2) (by decide) (by decide) ?_
            show Steps p.tables e below (s₁.setTop (mkF m 74 #[.val (.int p1), .val (.long (p1.toInt64)), .second, .val (.long ((p1.toInt64) - (48 : Int64))), .second, .val (.int (0 : Int32)), .val (.long ((p1.toInt64) ||| (32 : Int64))), .second, .val (.int (0 : Int32)), .unset] [])) _
            refine XS.iconst X0.here hx rfl (hb hby d2_74) ?_
            show Steps p.tables e below (s₁.setTop (mkF m 75 #[.val (.int p1), .val (.long (p1.toInt64)), .second, .val (.long ((p1.toInt64) - (48 : Int64))), .second, .val (.int (0 : Int32)), .val (.long ((p1.toInt64) ||| (32 : Int64))), .second, .val (.int (0 : Int32)), .unset] [(.int (0 : Int32))])) _
            refine XS.istore X0.here hx rfl (hb hby d2_75) rfl (l' := #[.val (.int p1), .val (.long (p1.toInt64)), .second, .val (.long ((p1.toInt64) - (48 : Int64))), .second, .val (.int (0 : Int32)), .val (.long ((p1.toInt64) ||| (32 : Int64))), .second, .val (.int (0 : Int32)), .val (.int (0 : Int32))]) rfl ?_
            show Steps p.tables e below (s₁.setTop (mkF m 77 #[.val (.int p1), .val (.long (p1.toInt64)), .second, .val (.long ((p1.toInt64) - (48 : Int64))), .second, .val (.int (0 : Int32)), .val (.long ((p1.toInt64) ||| (32 : Int64))), .second, .val (.int (0 : Int32)), .val (.int (0 : Int32))] [])) _
            refine XS.iload X0.here hx rfl (hb hby d2_77) rfl ?_
            show Steps p.tables e below (s₁.setTop (mkF m 79 #[.val (.int p1), .val (.long (p1.toInt64)), .second, .val (.long ((p1.toInt64) - (48 : Int64))), .second, .val (.int (0 : Int32)), .val (.long ((p1.toInt64) ||| (32 : Int64))), .second, .val (.int (0 : Int32)), .val (.int (0 : Int32))] [(.int (0 : Int32))])) _
            refine XS.ifNo X0.here hx rfl (hb hby d2_79) rfl ((if0 _ _).trans (teq (by decide : (0 : Int32) = (0 : Int32))).2) ?_
            show Steps p.tables e below (s₁.setTop (mkF m 82 #[.val (.int p1), .val (.long (p1.toInt64)), .second, .val (.long ((p1.toInt64) - (48 : Int64))), .second, .val (.int (0 : Int32)), .val (.long ((p1.toInt64) ||| (32 : Int64))), .second, .val (.int (0 : Int32)), .val (.int (0 : Int32))] [])) _
            refine XS.iload X0.here hx rfl (hb hby d2_82) rfl ?_
            show Steps p.tables e below (s₁.setTop (mkF m 84 #[.val (.int p1), .val (.long (p1.toInt64)), .second, .val (.long ((p1.toInt64) - (48 : Int64))), .second, .val (.int (0 : Int32)), .val (.long ((p1.toInt64) ||| (32 : Int64))), .second, .val (.int (0 : Int32)), .val (.int (0 : Int32))] [(.int (0 : Int32))])) _
            refine XS.ifNo X0.here hx rfl (hb hby d2_84) rfl ((if0 _ _).trans (teq (by decide : (0 : Int32) = (0 : Int32))).2) ?_
            show Steps p.tables e below (s₁.setTop (mkF m 87 #[.val (.int p1), .val (.long (p1.toInt64)), .second, .val (.long ((p1.toInt64) - (48 : Int64))), .second, .val (.int (0 : Int32)), .val (.long ((p1.toInt64) ||| (32 : Int64))), .second, .val (.int (0 : Int32)), .val (.int (0 : Int32))] [])) _
            refine XS.iload X0.here hx rfl (hb hby d2_87) rfl ?_
            show Steps p.tables e below (s₁.setTop (mkF m 89 #[.val (.int p1), .val (.long (p1.toInt64)), .second, .val (.long ((p1.toInt64) - (48 : Int64))), .second, .val (.int (0 : Int32)), .val (.long ((p1.toInt64) ||| (32 : Int64))), .second, .val (.int (0 : Int32)), .val (.int (0 : Int32))] [(.int (0 : Int32))])) _
            refine XS.ifYes X0.here hx rfl (pc0 := 89) (pc' := 96) rfl (hb hby d2_89) rfl ((if0 _ _).trans (teq (by decide : (0 : Int32) = (0 : Int32))).1) (by decide) (by decide) ?_
            show Steps p.tables e below (s₁.setTop (mkF m 96 #[.val (.int p1), .val (.long (p1.toInt64)), .second, .val (.long ((p1.toInt64) - (48 : Int64))), .second, .val (.int (0 : Int32)), .val (.long ((p1.toInt64) ||| (32 : Int64))), .second, .val (.int (0 : Int32)), .val (.int (0 : Int32))] [])) _
            refine XS.iconst X0.here hx rfl (hb hby d2_96) ?_
            show Steps p.tables e below (s₁.setTop (mkF m 97 #[.val (.int p1), .val (.long (p1.toInt64)), .second, .val (.long ((p1.toInt64) - (48 : Int64))), .second, .val (.int (0 : Int32)), .val (.long ((p1.toInt64) ||| (32 : Int64))), .second, .val (.int (0 : Int32)), .val (.int (0 : Int32))] [(.int (0 : Int32))])) _
            exact retN X0 hx (t := .boolean) Bd.returns (by simp) (hb hby d2_97) hr
          · show Q2 Z p1 h0 n0 _ s₁.heap _
            rw [e0]
            refine ⟨?_, N0, rfl⟩
            rw [f2, if_pos hc2, if_neg hc4, if_pos hc8, if_neg hc10]
      · have pre11 : ∀ t, Steps p.tables e below (s₁.setTop (mkF m 67 #[.val (.int p1), .val (.long (p1.toInt64)), .second, .val (.long ((p1.toInt64) - (48 : Int64))), .second, .val (.int (0 : Int32)), .val (.long ((p1.toInt64) ||| (32 : Int64))), .second, .val (.int (1 : Int32)), .unset] [(.int (lcmpW (p1.toInt64) (45 : Int64)))])) t → Steps p.tables e below (s₁.setTop (entryFrame m #[(.int p1)] 10)) t := fun t kt => by
          refine pre7 _ ?_
          show Steps p.tables e below (s₁.setTop (mkF m 52 #[.val (.int p1), .val (.long (p1.toInt64)), .second, .val (.long ((p1.toInt64) - (48 : Int64))), .second, .val (.int (0 : Int32)), .val (.long ((p1.toInt64) ||| (32 : Int64))), .second, .unset, .unset] [(.int (lcmpW ((p1.toInt64) ||| (32 : Int64)) (122 : Int64)))])) _
          refine XS.ifNo X0.here hx rfl (hb hby d2_52) rfl ((if0 _ _).trans (flt (mt (lw_gt ((p1.toInt64) ||| (32 : Int64)) (122 : Int64)).mp hc8)).2.2.1) ?_
          show Steps p.tables e below (s₁.setTop (mkF m 55 #[.val (.int p1), .val (.long (p1.toInt64)), .second, .val (.long ((p1.toInt64) - (48 : Int64))), .second, .val (.int (0 : Int32)), .val (.long ((p1.toInt64) ||| (32 : Int64))), .second, .unset, .unset] [])) _
          refine XS.iconst X0.here hx rfl (hb hby d2_55) ?_
          show Steps p.tables e below (s₁.setTop (mkF m 56 #[.val (.int p1), .val (.long (p1.toInt64)), .second, .val (.long ((p1.toInt64) - (48 : Int64))), .second, .val (.int (0 : Int32)), .val (.long ((p1.toInt64) ||| (32 : Int64))), .second, .unset, .unset] [(.int (1 : Int32))])) _
          refine XS.goto X0.here hx rfl (pc0 := 56) (pc' := 60) rfl (hb hby d2_56) (by decide) (by decide) ?_
          show Steps p.tables e below (s₁.setTop (mkF m 60 #[.val (.int p1), .val (.long (p1.toInt64)), .second, .val (.long ((p1.toInt64) - (48 : Int64))), .second, .val (.int (0 : Int32)), .val (.long ((p1.toInt64) ||| (32 : Int64))), .second, .unset, .unset] [(.int (1 : Int32))])) _
          refine XS.istore X0.here hx rfl (hb hby d2_60) rfl (l' := #[.val (.int p1), .val (.long (p1.toInt64)), .second, .val (.long ((p1.toInt64) - (48 : Int64))), .second, .val (.int (0 : Int32)), .val (.long ((p1.toInt64) ||| (32 : Int64))), .second, .val (.int (1 : Int32)), .unset]) rfl ?_
          show Steps p.tables e below (s₁.setTop (mkF m 62 #[.val (.int p1), .val (.long (p1.toInt64)), .second, .val (.long ((p1.toInt64) - (48 : Int64))), .second, .val (.int (0 : Int32)), .val (.long ((p1.toInt64) ||| (32 : Int64))), .second, .val (.int (1 : Int32)), .unset] [])) _
          refine XS.lloadN X0.here hx rfl (hb hby d2_62) rfl ?_
          show Steps p.tables e below (s₁.setTop (mkF m 63 #[.val (.int p1), .val (.long (p1.toInt64)), .second, .val (.long ((p1.toInt64) - (48 : Int64))), .second, .val (.int (0 : Int32)), .val (.long ((p1.toInt64) ||| (32 : Int64))), .second, .val (.int (1 : Int32)), .unset] [(.long (p1.toInt64))])) _
          refine X0.ldc2Long hx hown (mvT hZ (hw _ (List.mem_of_getElem? (i := 12) rfl))) (g := (mkF m 63 #[.val (.int p1), .val (.long (p1.toInt64)), .second, .val (.long ((p1.toInt64) - (48 : Int64))), .second, .val (.int (0 : Int32)), .val (.long ((p1.toInt64) ||| (32 : Int64))), .second, .val (.int (1 : Int32)), .unset] [(.long (p1.toInt64))])) rfl (hb hby d2_63) _ ?_
          show Steps p.tables e below (s₁.setTop (mkF m 66 #[.val (.int p1), .val (.long (p1.toInt64)), .second, .val (.long ((p1.toInt64) - (48 : Int64))), .second, .val (.int (0 : Int32)), .val (.long ((p1.toInt64) ||| (32 : Int64))), .second, .val (.int (1 : Int32)), .unset] [(.long (45 : Int64)), (.long (p1.toInt64))])) _
          refine XS.lcmp X0.here hx rfl (hb hby d2_66) rfl ?_
          exact kt
        by_cases hc12 : (p1.toInt64) = (45 : Int64)
        · obtain ⟨fs, hr, hrun, hended, hW, hsame⟩ := X0.leave (v := some (.int (1 : Int32))) (fun h => by rw [Bd.returns] at h; cases h)
          refine ⟨_, _, pre11 _ ?_, hrun, hended, _, _, rfl, ?_, ⟨_, rfl⟩, hW, hsame.mono (by decide) (by decide)⟩
          · show Steps p.tables e below (s₁.setTop (mkF m 67 #[.val (.int p1), .val (.long (p1.toInt64)), .second, .val (.long ((p1.toInt64) - (48 : Int64))), .second, .val (.int (0 : Int32)), .val (.long ((p1.toInt64) ||| (32 : Int64))), .second, .val (.int (1 : Int32)), .unset] [(.int (lcmpW (p1.toInt64) (45 : Int64)))])) _
            refine XS.ifNo X0.here hx rfl (hb hby d2_67) rfl ((if0 _ _).trans (teq ((lw_eq (p1.toInt64) (45 : Int64)).mpr hc12)).2) ?_
            show Steps p.tables e below (s₁.setTop (mkF m 70 #[.val (.int p1), .val (.long (p1.toInt64)), .second, .val (.long ((p1.toInt64) - (48 : Int64))), .second, .val (.int (0 : Int32)), .val (.long ((p1.toInt64) ||| (32 : Int64))), .second, .val (.int (1 : Int32)), .unset] [])) _
            refine XS.iconst X0.here hx rfl (hb hby d2_70) ?_
            show Steps p.tables e below (s₁.setTop (mkF m 71 #[.val (.int p1), .val (.long (p1.toInt64)), .second, .val (.long ((p1.toInt64) - (48 : Int64))), .second, .val (.int (0 : Int32)), .val (.long ((p1.toInt64) ||| (32 : Int64))), .second, .val (.int (1 : Int32)), .unset] [(.int (1 : Int32))])) _
            refine XS.goto X0.here hx rfl (pc0 := 71) (pc' := 75) rfl (hb hby d2_71) (by decide) (by decide) ?_
            show Steps p.tables e below (s₁.setTop (mkF m 75 #[.val (.int p1), .val (.long (p1.toInt64)), .second, .val (.long ((p1.toInt64) - (48 : Int64))), .second, .val (.int (0 : Int32)), .val (.long ((p1.toInt64) ||| (32 : Int64))), .second, .val (.int (1 : Int32)), .unset] [(.int (1 : Int32))])) _
            refine XS.istore X0.here hx rfl (hb hby d2_75) rfl (l' := #[.val (.int p1), .val (.long (p1.toInt64)), .second, .val (.long ((p1.toInt64) - (48 : Int64))), .second, .val (.int (0 : Int32)), .val (.long ((p1.toInt64) ||| (32 : Int64))), .second, .val (.int (1 : Int32)), .val (.int (1 : Int32))]) rfl ?_
            show Steps p.tables e below (s₁.setTop (mkF m 77 #[.val (.int p1), .val (.long (p1.toInt64)), .second, .val (.long ((p1.toInt64) - (48 : Int64))), .second, .val (.int (0 : Int32)), .val (.long ((p1.toInt64) ||| (32 : Int64))), .second, .val (.int (1 : Int32)), .val (.int (1 : Int32))] [])) _
            refine XS.iload X0.here hx rfl (hb hby d2_77) rfl ?_
            show Steps p.tables e below (s₁.setTop (mkF m 79 #[.val (.int p1), .val (.long (p1.toInt64)), .second, .val (.long ((p1.toInt64) - (48 : Int64))), .second, .val (.int (0 : Int32)), .val (.long ((p1.toInt64) ||| (32 : Int64))), .second, .val (.int (1 : Int32)), .val (.int (1 : Int32))] [(.int (0 : Int32))])) _
            refine XS.ifNo X0.here hx rfl (hb hby d2_79) rfl ((if0 _ _).trans (teq (by decide : (0 : Int32) = (0 : Int32))).2) ?_
            show Steps p.tables e below (s₁.setTop (mkF m 82 #[.val (.int p1), .val (.long (p1.toInt64)), .second, .val (.long ((p1.toInt64) - (48 : Int64))), .second, .val (.int (0 : Int32)), .val (.long ((p1.toInt64) ||| (32 : Int64))), .second, .val (.int (1 : Int32)), .val (.int (1 : Int32))] [])) _
            refine XS.iload X0.here hx rfl (hb hby d2_82) rfl ?_
            show Steps p.tables e below (s₁.setTop (mkF m 84 #[.val (.int p1), .val (.long (p1.toInt64)), .second, .val (.long ((p1.toInt64) - (48 : Int64))), .second, .val (.int (0 : Int32)), .val (.long ((p1.toInt64) ||| (32 : Int64))), .second, .val (.int (1 : Int32)), .val (.int (1 : Int32))] [(.int (1 : Int32))])) _
            refine XS.ifYes X0.here hx rfl (pc0 := 84) (pc' := 92) rfl (hb hby d2_84) rfl ((if0 _ _).trans (feq (by decide : ¬ ((1 : Int32) = (0 : Int32)))).2) (by decide) (by decide) ?_
            show Steps p.tables e below (s₁.setTop (mkF m 92 #[.val (.int p1), .val (.long (p1.toInt64)), .second, .val (.long ((p1.toInt64) - (48 : Int64))), .second, .val (.int (0 : Int32)), .val (.long ((p1.toInt64) ||| (32 : Int64))), .second, .val (.int (1 : Int32)), .val (.int (1 : Int32))] [])) _
            refine XS.iconst X0.here hx rfl (hb hby d2_92) ?_
            show Steps p.tables e below (s₁.setTop (mkF m 93 #[.val (.int p1), .val (.long (p1.toInt64)), .second, .val (.long ((p1.toInt64) - (48 : Int64))), .second, .val (.int (0 : Int32)), .val (.long ((p1.toInt64) ||| (32 : Int64))), .second, .val (.int (1 : Int32)), .val (.int (1 : Int32))] [(.int (1 : Int32))])) _
            refine XS.goto X0.here hx rfl (pc0 := 93) (pc' := 97) rfl (hb hby d2_93) (by decide) (by decide) ?_
            show Steps p.tables e below (s₁.setTop (mkF m 97 #[.val (.int p1), .val (.long (p1.toInt64)), .second, .val (.long ((p1.toInt64) - (48 : Int64))), .second, .val (.int (0 : Int32)), .val (.long ((p1.toInt64) ||| (32 : Int64))), .second, .val (.int (1 : Int32)), .val (.int (1 : Int32))] [(.int (1 : Int32))])) _
            exact retN X0 hx (t := .boolean) Bd.returns (by simp) (hb hby d2_97) hr
          · show Q2 Z p1 h0 n0 _ s₁.heap _
            rw [e0]
            refine ⟨?_, N0, rfl⟩
            rw [f2, if_pos hc2, if_neg hc4, if_neg hc8, if_pos hc12]
        · obtain ⟨fs, hr, hrun, hended, hW, hsame⟩ := X0.leave (v := some (.int (1 : Int32))) (fun h => by rw [Bd.returns] at h; cases h)
          refine ⟨_, _, pre11 _ ?_, hrun, hended, _, _, rfl, ?_, ⟨_, rfl⟩, hW, hsame.mono (by decide) (by decide)⟩
          · show Steps p.tables e below (s₁.setTop (mkF m 67 #[.val (.int p1), .val (.long (p1.toInt64)), .second, .val (.long ((p1.toInt64) - (48 : Int64))), .second, .val (.int (0 : Int32)), .val (.long ((p1.toInt64) ||| (32 : Int64))), .second, .val (.int (1 : Int32)), .unset] [(.int (lcmpW (p1.toInt64) (45 : Int64)))])) _
            refine XS.ifYes X0.here hx rfl (pc0 := 67) (pc' := 74) rfl (hb hby d2_67) rfl ((if0 _ _).trans (feq (mt (lw_eq (p1.toInt64) (45 : Int64)).mp hc12)).2) (by decide) (by decide) ?_
            show Steps p.tables e below (s₁.setTop (mkF m 74 #[.val (.int p1), .val (.long (p1.toInt64)), .second, .val (.long ((p1.toInt64) - (48 : Int64))), .second, .val (.int (0 : Int32)), .val (.long ((p1.toInt64) ||| (32 : Int64))), .second, .val (.int (1 : Int32)), .unset] [])) _
            refine XS.iconst X0.here hx rfl (hb hby d2_74) ?_
            show Steps p.tables e below (s₁.setTop (mkF m 75 #[.val (.int p1), .val (.long (p1.toInt64)), .second, .val (.long ((p1.toInt64) - (48 : Int64))), .second, .val (.int (0 : Int32)), .val (.long ((p1.toInt64) ||| (32 : Int64))), .second, .val (.int (1 : Int32)), .unset] [(.int (0 : Int32))])) _
            refine XS.istore X0.here hx rfl (hb hby d2_75) rfl (l' := #[.val (.int p1), .val (.long (p1.toInt64)), .second, .val (.long ((p1.toInt64) - (48 : Int64))), .second, .val (.int (0 : Int32)), .val (.long ((p1.toInt64) ||| (32 : Int64))), .second, .val (.int (1 : Int32)), .val (.int (0 : Int32))]) rfl ?_
            show Steps p.tables e below (s₁.setTop (mkF m 77 #[.val (.int p1), .val (.long (p1.toInt64)), .second, .val (.long ((p1.toInt64) - (48 : Int64))), .second, .val (.int (0 : Int32)), .val (.long ((p1.toInt64) ||| (32 : Int64))), .second, .val (.int (1 : Int32)), .val (.int (0 : Int32))] [])) _
            refine XS.iload X0.here hx rfl (hb hby d2_77) rfl ?_
            show Steps p.tables e below (s₁.setTop (mkF m 79 #[.val (.int p1), .val (.long (p1.toInt64)), .second, .val (.long ((p1.toInt64) - (48 : Int64))), .second, .val (.int (0 : Int32)), .val (.long ((p1.toInt64) ||| (32 : Int64))), .second, .val (.int (1 : Int32)), .val (.int (0 : Int32))] [(.int (0 : Int32))])) _
            refine XS.ifNo X0.here hx rfl (hb hby d2_79) rfl ((if0 _ _).trans (teq (by decide : (0 : Int32) = (0 : Int32))).2) ?_
            show Steps p.tables e below (s₁.setTop (mkF m 82 #[.val (.int p1), .val (.long (p1.toInt64)), .second, .val (.long ((p1.toInt64) - (48 : Int64))), .second, .val (.int (0 : Int32)), .val (.long ((p1.toInt64) ||| (32 : Int64))), .second, .val (.int (1 : Int32)), .val (.int (0 : Int32))] [])) _
            refine XS.iload X0.here hx rfl (hb hby d2_82) rfl ?_
            show Steps p.tables e below (s₁.setTop (mkF m 84 #[.val (.int p1), .val (.long (p1.toInt64)), .second, .val (.long ((p1.toInt64) - (48 : Int64))), .second, .val (.int (0 : Int32)), .val (.long ((p1.toInt64) ||| (32 : Int64))), .second, .val (.int (1 : Int32)), .val (.int (0 : Int32))] [(.int (1 : Int32))])) _
            refine XS.ifYes X0.here hx rfl (pc0 := 84) (pc' := 92) rfl (hb hby d2_84) rfl ((if0 _ _).trans (feq (by decide : ¬ ((1 : Int32) = (0 : Int32)))).2) (by decide) (by decide) ?_
            show Steps p.tables e below (s₁.setTop (mkF m 92 #[.val (.int p1), .val (.long (p1.toInt64)), .second, .val (.long ((p1.toInt64) - (48 : Int64))), .second, .val (.int (0 : Int32)), .val (.long ((p1.toInt64) ||| (32 : Int64))), .second, .val (.int (1 : Int32)), .val (.int (0 : Int32))] [])) _
            refine XS.iconst X0.here hx rfl (hb hby d2_92) ?_
            show Steps p.tables e below (s₁.setTop (mkF m 93 #[.val (.int p1), .val (.long (p1.toInt64)), .second, .val (.long ((p1.toInt64) - (48 : Int64))), .second, .val (.int (0 : Int32)), .val (.long ((p1.toInt64) ||| (32 : Int64))), .second, .val (.int (1 : Int32)), .val (.int (0 : Int32))] [(.int (1 : Int32))])) _
            refine XS.goto X0.here hx rfl (pc0 := 93) (pc' := 97) rfl (hb hby d2_93) (by decide) (by decide) ?_
            show Steps p.tables e below (s₁.setTop (mkF m 97 #[.val (.int p1), .val (.long (p1.toInt64)), .second, .val (.long ((p1.toInt64) - (48 : Int64))), .second, .val (.int (0 : Int32)), .val (.long ((p1.toInt64) ||| (32 : Int64))), .second, .val (.int (1 : Int32)), .val (.int (0 : Int32))] [(.int (1 : Int32))])) _
            exact retN X0 hx (t := .boolean) Bd.returns (by simp) (hb hby d2_97) hr
          · show Q2 Z p1 h0 n0 _ s₁.heap _
            rw [e0]
            refine ⟨?_, N0, rfl⟩
            rw [f2, if_pos hc2, if_neg hc4, if_neg hc8, if_neg hc12]
  · have pre13 : ∀ t, Steps p.tables e below (s₁.setTop (mkF m 20 #[.val (.int p1), .val (.long (p1.toInt64)), .second, .val (.long ((p1.toInt64) - (48 : Int64))), .second, .unset, .unset, .unset, .unset, .unset] [(.int (lcmpW ((p1.toInt64) - (48 : Int64)) (10 : Int64)))])) t → Steps p.tables e below (s₁.setTop (entryFrame m #[(.int p1)] 10)) t := fun t kt => by
      refine pre1 _ ?_
      show Steps p.tables e below (s₁.setTop (mkF m 12 #[.val (.int p1), .val (.long (p1.toInt64)), .second, .val (.long ((p1.toInt64) - (48 : Int64))), .second, .unset, .unset, .unset, .unset, .unset] [(.int (lcmpW ((p1.toInt64) - (48 : Int64)) (0 : Int64)))])) _
      refine XS.ifNo X0.here hx rfl (hb hby d2_12) rfl ((if0 _ _).trans (flt (mt (lw_lt ((p1.toInt64) - (48 : Int64)) (0 : Int64)).mp hc2)).1) ?_
      show Steps p.tables e below (s₁.setTop (mkF m 15 #[.val (.int p1), .val (.long (p1.toInt64)), .second, .val (.long ((p1.toInt64) - (48 : Int64))), .second, .unset, .unset, .unset, .unset, .unset] [])) _
      refine XS.lloadN X0.here hx rfl (hb hby d2_15) rfl ?_
      show Steps p.tables e below (s₁.setTop (mkF m 16 #[.val (.int p1), .val (.long (p1.toInt64)), .second, .val (.long ((p1.toInt64) - (48 : Int64))), .second, .unset, .unset, .unset, .unset, .unset] [(.long ((p1.toInt64) - (48 : Int64)))])) _
      refine X0.ldc2Long hx hown (mvT hZ (hw _ (List.mem_of_getElem? (i := 13) rfl))) (g := (mkF m 16 #[.val (.int p1), .val (.long (p1.toInt64)), .second, .val (.long ((p1.toInt64) - (48 : Int64))), .second, .unset, .unset, .unset, .unset, .unset] [(.long ((p1.toInt64) - (48 : Int64)))])) rfl (hb hby d2_16) _ ?_
      show Steps p.tables e below (s₁.setTop (mkF m 19 #[.val (.int p1), .val (.long (p1.toInt64)), .second, .val (.long ((p1.toInt64) - (48 : Int64))), .second, .unset, .unset, .unset, .unset, .unset] [(.long (10 : Int64)), (.long ((p1.toInt64) - (48 : Int64)))])) _
      refine XS.lcmp X0.here hx rfl (hb hby d2_19) rfl ?_
      exact kt
    by_cases hc14 : ((p1.toInt64) - (48 : Int64)) < (10 : Int64)
    · have pre15 : ∀ t, Steps p.tables e below (s₁.setTop (mkF m 43 #[.val (.int p1), .val (.long (p1.toInt64)), .second, .val (.long ((p1.toInt64) - (48 : Int64))), .second, .val (.int (1 : Int32)), .val (.long ((p1.toInt64) ||| (32 : Int64))), .second, .unset, .unset] [(.int (lcmpW ((p1.toInt64) ||| (32 : Int64)) (97 : Int64)))])) t → Steps p.tables e below (s₁.setTop (entryFrame m #[(.int p1)] 10)) t := fun t kt => by
        refine pre13 _ ?_
        show Steps p.tables e below (s₁.setTop (mkF m 20 #[.val (.int p1), .val (.long (p1.toInt64)), .second, .val (.long ((p1.toInt64) - (48 : Int64))), .second, .unset, .unset, .unset, .unset, .unset] [(.int (lcmpW ((p1.toInt64) - (48 : Int64)) (10 : Int64)))])) _
        refine XS.ifNo X0.here hx rfl (hb hby d2_20) rfl ((if0 _ _).trans (tlt ((lw_lt ((p1.toInt64) - (48 : Int64)) (10 : Int64)).mpr hc14)).2.1) ?_
        show Steps p.tables e below (s₁.setTop (mkF m 23 #[.val (.int p1), .val (.long (p1.toInt64)), .second, .val (.long ((p1.toInt64) - (48 : Int64))), .second, .unset, .unset, .unset, .unset, .unset] [])) _
        refine XS.iconst X0.here hx rfl (hb hby d2_23) ?_
        show Steps p.tables e below (s₁.setTop (mkF m 24 #[.val (.int p1), .val (.long (p1.toInt64)), .second, .val (.long ((p1.toInt64) - (48 : Int64))), .second, .unset, .unset, .unset, .unset, .unset] [(.int (1 : Int32))])) _
        refine XS.goto X0.here hx rfl (pc0 := 24) (pc' := 28) rfl (hb hby d2_24) (by decide) (by decide) ?_
        show Steps p.tables e below (s₁.setTop (mkF m 28 #[.val (.int p1), .val (.long (p1.toInt64)), .second, .val (.long ((p1.toInt64) - (48 : Int64))), .second, .unset, .unset, .unset, .unset, .unset] [(.int (1 : Int32))])) _
        refine XS.istore X0.here hx rfl (hb hby d2_28) rfl (l' := #[.val (.int p1), .val (.long (p1.toInt64)), .second, .val (.long ((p1.toInt64) - (48 : Int64))), .second, .val (.int (1 : Int32)), .unset, .unset, .unset, .unset]) rfl ?_
        show Steps p.tables e below (s₁.setTop (mkF m 30 #[.val (.int p1), .val (.long (p1.toInt64)), .second, .val (.long ((p1.toInt64) - (48 : Int64))), .second, .val (.int (1 : Int32)), .unset, .unset, .unset, .unset] [])) _
        refine XS.lloadN X0.here hx rfl (hb hby d2_30) rfl ?_
        show Steps p.tables e below (s₁.setTop (mkF m 31 #[.val (.int p1), .val (.long (p1.toInt64)), .second, .val (.long ((p1.toInt64) - (48 : Int64))), .second, .val (.int (1 : Int32)), .unset, .unset, .unset, .unset] [(.long (p1.toInt64))])) _
        refine X0.ldc2Long hx hown (mvT hZ (hw _ (List.mem_of_getElem? (i := 10) rfl))) (g := (mkF m 31 #[.val (.int p1), .val (.long (p1.toInt64)), .second, .val (.long ((p1.toInt64) - (48 : Int64))), .second, .val (.int (1 : Int32)), .unset, .unset, .unset, .unset] [(.long (p1.toInt64))])) rfl (hb hby d2_31) _ ?_
        show Steps p.tables e below (s₁.setTop (mkF m 34 #[.val (.int p1), .val (.long (p1.toInt64)), .second, .val (.long ((p1.toInt64) - (48 : Int64))), .second, .val (.int (1 : Int32)), .unset, .unset, .unset, .unset] [(.long (32 : Int64)), (.long (p1.toInt64))])) _
        refine XS.lor X0.here hx rfl (hb hby d2_34) rfl ?_
        show Steps p.tables e below (s₁.setTop (mkF m 35 #[.val (.int p1), .val (.long (p1.toInt64)), .second, .val (.long ((p1.toInt64) - (48 : Int64))), .second, .val (.int (1 : Int32)), .unset, .unset, .unset, .unset] [(.long ((p1.toInt64) ||| (32 : Int64)))])) _
        refine XS.lstore X0.here hx rfl (hb hby d2_35) rfl (l' := #[.val (.int p1), .val (.long (p1.toInt64)), .second, .val (.long ((p1.toInt64) - (48 : Int64))), .second, .val (.int (1 : Int32)), .val (.long ((p1.toInt64) ||| (32 : Int64))), .second, .unset, .unset]) rfl ?_
        show Steps p.tables e below (s₁.setTop (mkF m 37 #[.val (.int p1), .val (.long (p1.toInt64)), .second, .val (.long ((p1.toInt64) - (48 : Int64))), .second, .val (.int (1 : Int32)), .val (.long ((p1.toInt64) ||| (32 : Int64))), .second, .unset, .unset] [])) _
        refine XS.lload X0.here hx rfl (hb hby d2_37) rfl ?_
        show Steps p.tables e below (s₁.setTop (mkF m 39 #[.val (.int p1), .val (.long (p1.toInt64)), .second, .val (.long ((p1.toInt64) - (48 : Int64))), .second, .val (.int (1 : Int32)), .val (.long ((p1.toInt64) ||| (32 : Int64))), .second, .unset, .unset] [(.long ((p1.toInt64) ||| (32 : Int64)))])) _
        refine X0.ldc2Long hx hown (mvT hZ (hw _ (List.mem_of_getElem? (i := 11) rfl))) (g := (mkF m 39 #[.val (.int p1), .val (.long (p1.toInt64)), .second, .val (.long ((p1.toInt64) - (48 : Int64))), .second, .val (.int (1 : Int32)), .val (.long ((p1.toInt64) ||| (32 : Int64))), .second, .unset, .unset] [(.long ((p1.toInt64) ||| (32 : Int64)))])) rfl (hb hby d2_39) _ ?_
        show Steps p.tables e below (s₁.setTop (mkF m 42 #[.val (.int p1), .val (.long (p1.toInt64)), .second, .val (.long ((p1.toInt64) - (48 : Int64))), .second, .val (.int (1 : Int32)), .val (.long ((p1.toInt64) ||| (32 : Int64))), .second, .unset, .unset] [(.long (97 : Int64)), (.long ((p1.toInt64) ||| (32 : Int64)))])) _
        refine XS.lcmp X0.here hx rfl (hb hby d2_42) rfl ?_
        exact kt
      by_cases hc16 : ((p1.toInt64) ||| (32 : Int64)) < (97 : Int64)
      · have pre17 : ∀ t, Steps p.tables e below (s₁.setTop (mkF m 67 #[.val (.int p1), .val (.long (p1.toInt64)), .second, .val (.long ((p1.toInt64) - (48 : Int64))), .second, .val (.int (1 : Int32)), .val (.long ((p1.toInt64) ||| (32 : Int64))), .second, .val (.int (0 : Int32)), .unset] [(.int (lcmpW (p1.toInt64) (45 : Int64)))])) t → Steps p.tables e below (s₁.setTop (entryFrame m #[(.int p1)] 10)) t := fun t kt => by
          refine pre15 _ ?_
          show Steps p.tables e below (s₁.setTop (mkF m 43 #[.val (.int p1), .val (.long (p1.toInt64)), .second, .val (.long ((p1.toInt64) - (48 : Int64))), .second, .val (.int (1 : Int32)), .val (.long ((p1.toInt64) ||| (32 : Int64))), .second, .unset, .unset] [(.int (lcmpW ((p1.toInt64) ||| (32 : Int64)) (97 : Int64)))])) _
          refine XS.ifYes X0.here hx rfl (pc0 := 43) (pc' := 59) rfl (hb hby d2_43) rfl ((if0 _ _).trans (tlt ((lw_lt ((p1.toInt64) ||| (32 : Int64)) (97 : Int64)).mpr hc16)).1) (by decide) (by decide) ?_
          show Steps p.tables e below (s₁.setTop (mkF m 59 #[.val (.int p1), .val (.long (p1.toInt64)), .second, .val (.long ((p1.toInt64) - (48 : Int64))), .second, .val (.int (1 : Int32)), .val (.long ((p1.toInt64) ||| (32 : Int64))), .second, .unset, .unset] [])) _
          refine XS.iconst X0.here hx rfl (hb hby d2_59) ?_
          show Steps p.tables e below (s₁.setTop (mkF m 60 #[.val (.int p1), .val (.long (p1.toInt64)), .second, .val (.long ((p1.toInt64) - (48 : Int64))), .second, .val (.int (1 : Int32)), .val (.long ((p1.toInt64) ||| (32 : Int64))), .second, .unset, .unset] [(.int (0 : Int32))])) _
          refine XS.istore X0.here hx rfl (hb hby d2_60) rfl (l' := #[.val (.int p1), .val (.long (p1.toInt64)), .second, .val (.long ((p1.toInt64) - (48 : Int64))), .second, .val (.int (1 : Int32)), .val (.long ((p1.toInt64) ||| (32 : Int64))), .second, .val (.int (0 : Int32)), .unset]) rfl ?_
          show Steps p.tables e below (s₁.setTop (mkF m 62 #[.val (.int p1), .val (.long (p1.toInt64)), .second, .val (.long ((p1.toInt64) - (48 : Int64))), .second, .val (.int (1 : Int32)), .val (.long ((p1.toInt64) ||| (32 : Int64))), .second, .val (.int (0 : Int32)), .unset] [])) _
          refine XS.lloadN X0.here hx rfl (hb hby d2_62) rfl ?_
          show Steps p.tables e below (s₁.setTop (mkF m 63 #[.val (.int p1), .val (.long (p1.toInt64)), .second, .val (.long ((p1.toInt64) - (48 : Int64))), .second, .val (.int (1 : Int32)), .val (.long ((p1.toInt64) ||| (32 : Int64))), .second, .val (.int (0 : Int32)), .unset] [(.long (p1.toInt64))])) _
          refine X0.ldc2Long hx hown (mvT hZ (hw _ (List.mem_of_getElem? (i := 12) rfl))) (g := (mkF m 63 #[.val (.int p1), .val (.long (p1.toInt64)), .second, .val (.long ((p1.toInt64) - (48 : Int64))), .second, .val (.int (1 : Int32)), .val (.long ((p1.toInt64) ||| (32 : Int64))), .second, .val (.int (0 : Int32)), .unset] [(.long (p1.toInt64))])) rfl (hb hby d2_63) _ ?_
          show Steps p.tables e below (s₁.setTop (mkF m 66 #[.val (.int p1), .val (.long (p1.toInt64)), .second, .val (.long ((p1.toInt64) - (48 : Int64))), .second, .val (.int (1 : Int32)), .val (.long ((p1.toInt64) ||| (32 : Int64))), .second, .val (.int (0 : Int32)), .unset] [(.long (45 : Int64)), (.long (p1.toInt64))])) _
          refine XS.lcmp X0.here hx rfl (hb hby d2_66) rfl ?_
          exact kt
        by_cases hc18 : (p1.toInt64) = (45 : Int64)
        · obtain ⟨fs, hr, hrun, hended, hW, hsame⟩ := X0.leave (v := some (.int (1 : Int32))) (fun h => by rw [Bd.returns] at h; cases h)
          refine ⟨_, _, pre17 _ ?_, hrun, hended, _, _, rfl, ?_, ⟨_, rfl⟩, hW, hsame.mono (by decide) (by decide)⟩
          · show Steps p.tables e below (s₁.setTop (mkF m 67 #[.val (.int p1), .val (.long (p1.toInt64)), .second, .val (.long ((p1.toInt64) - (48 : Int64))), .second, .val (.int (1 : Int32)), .val (.long ((p1.toInt64) ||| (32 : Int64))), .second, .val (.int (0 : Int32)), .unset] [(.int (lcmpW (p1.toInt64) (45 : Int64)))])) _
            refine XS.ifNo X0.here hx rfl (hb hby d2_67) rfl ((if0 _ _).trans (teq ((lw_eq (p1.toInt64) (45 : Int64)).mpr hc18)).2) ?_
            show Steps p.tables e below (s₁.setTop (mkF m 70 #[.val (.int p1), .val (.long (p1.toInt64)), .second, .val (.long ((p1.toInt64) - (48 : Int64))), .second, .val (.int (1 : Int32)), .val (.long ((p1.toInt64) ||| (32 : Int64))), .second, .val (.int (0 : Int32)), .unset] [])) _
            refine XS.iconst X0.here hx rfl (hb hby d2_70) ?_
            show Steps p.tables e below (s₁.setTop (mkF m 71 #[.val (.int p1), .val (.long (p1.toInt64)), .second, .val (.long ((p1.toInt64) - (48 : Int64))), .second, .val (.int (1 : Int32)), .val (.long ((p1.toInt64) ||| (32 : Int64))), .second, .val (.int (0 : Int32)), .unset] [(.int (1 : Int32))])) _
            refine XS.goto X0.here hx rfl (pc0 := 71) (pc' := 75) rfl (hb hby d2_71) (by decide) (by decide) ?_
            show Steps p.tables e below (s₁.setTop (mkF m 75 #[.val (.int p1), .val (.long (p1.toInt64)), .second, .val (.long ((p1.toInt64) - (48 : Int64))), .second, .val (.int (1 : Int32)), .val (.long ((p1.toInt64) ||| (32 : Int64))), .second, .val (.int (0 : Int32)), .unset] [(.int (1 : Int32))])) _
            refine XS.istore X0.here hx rfl (hb hby d2_75) rfl (l' := #[.val (.int p1), .val (.long (p1.toInt64)), .second, .val (.long ((p1.toInt64) - (48 : Int64))), .second, .val (.int (1 : Int32)), .val (.long ((p1.toInt64) ||| (32 : Int64))), .second, .val (.int (0 : Int32)), .val (.int (1 : Int32))]) rfl ?_
            show Steps p.tables e below (s₁.setTop (mkF m 77 #[.val (.int p1), .val (.long (p1.toInt64)), .second, .val (.long ((p1.toInt64) - (48 : Int64))), .second, .val (.int (1 : Int32)), .val (.long ((p1.toInt64) ||| (32 : Int64))), .second, .val (.int (0 : Int32)), .val (.int (1 : Int32))] [])) _
            refine XS.iload X0.here hx rfl (hb hby d2_77) rfl ?_
            show Steps p.tables e below (s₁.setTop (mkF m 79 #[.val (.int p1), .val (.long (p1.toInt64)), .second, .val (.long ((p1.toInt64) - (48 : Int64))), .second, .val (.int (1 : Int32)), .val (.long ((p1.toInt64) ||| (32 : Int64))), .second, .val (.int (0 : Int32)), .val (.int (1 : Int32))] [(.int (1 : Int32))])) _
            refine XS.ifYes X0.here hx rfl (pc0 := 79) (pc' := 92) rfl (hb hby d2_79) rfl ((if0 _ _).trans (feq (by decide : ¬ ((1 : Int32) = (0 : Int32)))).2) (by decide) (by decide) ?_
            show Steps p.tables e below (s₁.setTop (mkF m 92 #[.val (.int p1), .val (.long (p1.toInt64)), .second, .val (.long ((p1.toInt64) - (48 : Int64))), .second, .val (.int (1 : Int32)), .val (.long ((p1.toInt64) ||| (32 : Int64))), .second, .val (.int (0 : Int32)), .val (.int (1 : Int32))] [])) _
            refine XS.iconst X0.here hx rfl (hb hby d2_92) ?_
            show Steps p.tables e below (s₁.setTop (mkF m 93 #[.val (.int p1), .val (.long (p1.toInt64)), .second, .val (.long ((p1.toInt64) - (48 : Int64))), .second, .val (.int (1 : Int32)), .val (.long ((p1.toInt64) ||| (32 : Int64))), .second, .val (.int (0 : Int32)), .val (.int (1 : Int32))] [(.int (1 : Int32))])) _
            refine XS.goto X0.here hx rfl (pc0 := 93) (pc' := 97) rfl (hb hby d2_93) (by decide) (by decide) ?_
            show Steps p.tables e below (s₁.setTop (mkF m 97 #[.val (.int p1), .val (.long (p1.toInt64)), .second, .val (.long ((p1.toInt64) - (48 : Int64))), .second, .val (.int (1 : Int32)), .val (.long ((p1.toInt64) ||| (32 : Int64))), .second, .val (.int (0 : Int32)), .val (.int (1 : Int32))] [(.int (1 : Int32))])) _
            exact retN X0 hx (t := .boolean) Bd.returns (by simp) (hb hby d2_97) hr
          · show Q2 Z p1 h0 n0 _ s₁.heap _
            rw [e0]
            refine ⟨?_, N0, rfl⟩
            rw [f2, if_neg hc2, if_pos hc14, if_pos hc16, if_pos hc18]
        · obtain ⟨fs, hr, hrun, hended, hW, hsame⟩ := X0.leave (v := some (.int (1 : Int32))) (fun h => by rw [Bd.returns] at h; cases h)
          refine ⟨_, _, pre17 _ ?_, hrun, hended, _, _, rfl, ?_, ⟨_, rfl⟩, hW, hsame.mono (by decide) (by decide)⟩
          · show Steps p.tables e below (s₁.setTop (mkF m 67 #[.val (.int p1), .val (.long (p1.toInt64)), .second, .val (.long ((p1.toInt64) - (48 : Int64))), .second, .val (.int (1 : Int32)), .val (.long ((p1.toInt64) ||| (32 : Int64))), .second, .val (.int (0 : Int32)), .unset] [(.int (lcmpW (p1.toInt64) (45 : Int64)))])) _
            refine XS.ifYes X0.here hx rfl (pc0 := 67) (pc' := 74) rfl (hb hby d2_67) rfl ((if0 _ _).trans (feq (mt (lw_eq (p1.toInt64) (45 : Int64)).mp hc18)).2) (by decide) (by decide) ?_
            show Steps p.tables e below (s₁.setTop (mkF m 74 #[.val (.int p1), .val (.long (p1.toInt64)), .second, .val (.long ((p1.toInt64) - (48 : Int64))), .second, .val (.int (1 : Int32)), .val (.long ((p1.toInt64) ||| (32 : Int64))), .second, .val (.int (0 : Int32)), .unset] [])) _
            refine XS.iconst X0.here hx rfl (hb hby d2_74) ?_
            show Steps p.tables e below (s₁.setTop (mkF m 75 #[.val (.int p1), .val (.long (p1.toInt64)), .second, .val (.long ((p1.toInt64) - (48 : Int64))), .second, .val (.int (1 : Int32)), .val (.long ((p1.toInt64) ||| (32 : Int64))), .second, .val (.int (0 : Int32)), .unset] [(.int (0 : Int32))])) _
            refine XS.istore X0.here hx rfl (hb hby d2_75) rfl (l' := #[.val (.int p1), .val (.long (p1.toInt64)), .second, .val (.long ((p1.toInt64) - (48 : Int64))), .second, .val (.int (1 : Int32)), .val (.long ((p1.toInt64) ||| (32 : Int64))), .second, .val (.int (0 : Int32)), .val (.int (0 : Int32))]) rfl ?_
            show Steps p.tables e below (s₁.setTop (mkF m 77 #[.val (.int p1), .val (.long (p1.toInt64)), .second, .val (.long ((p1.toInt64) - (48 : Int64))), .second, .val (.int (1 : Int32)), .val (.long ((p1.toInt64) ||| (32 : Int64))), .second, .val (.int (0 : Int32)), .val (.int (0 : Int32))] [])) _
            refine XS.iload X0.here hx rfl (hb hby d2_77) rfl ?_
            show Steps p.tables e below (s₁.setTop (mkF m 79 #[.val (.int p1), .val (.long (p1.toInt64)), .second, .val (.long ((p1.toInt64) - (48 : Int64))), .second, .val (.int (1 : Int32)), .val (.long ((p1.toInt64) ||| (32 : Int64))), .second, .val (.int (0 : Int32)), .val (.int (0 : Int32))] [(.int (1 : Int32))])) _
            refine XS.ifYes X0.here hx rfl (pc0 := 79) (pc' := 92) rfl (hb hby d2_79) rfl ((if0 _ _).trans (feq (by decide : ¬ ((1 : Int32) = (0 : Int32)))).2) (by decide) (by decide) ?_
            show Steps p.tables e below (s₁.setTop (mkF m 92 #[.val (.int p1), .val (.long (p1.toInt64)), .second, .val (.long ((p1.toInt64) - (48 : Int64))), .second, .val (.int (1 : Int32)), .val (.long ((p1.toInt64) ||| (32 : Int64))), .second, .val (.int (0 : Int32)), .val (.int (0 : Int32))] [])) _
            refine XS.iconst X0.here hx rfl (hb hby d2_92) ?_
            show Steps p.tables e below (s₁.setTop (mkF m 93 #[.val (.int p1), .val (.long (p1.toInt64)), .second, .val (.long ((p1.toInt64) - (48 : Int64))), .second, .val (.int (1 : Int32)), .val (.long ((p1.toInt64) ||| (32 : Int64))), .second, .val (.int (0 : Int32)), .val (.int (0 : Int32))] [(.int (1 : Int32))])) _
            refine XS.goto X0.here hx rfl (pc0 := 93) (pc' := 97) rfl (hb hby d2_93) (by decide) (by decide) ?_
            show Steps p.tables e below (s₁.setTop (mkF m 97 #[.val (.int p1), .val (.long (p1.toInt64)), .second, .val (.long ((p1.toInt64) - (48 : Int64))), .second, .val (.int (1 : Int32)), .val (.long ((p1.toInt64) ||| (32 : Int64))), .second, .val (.int (0 : Int32)), .val (.int (0 : Int32))] [(.int (1 : Int32))])) _
            exact retN X0 hx (t := .boolean) Bd.returns (by simp) (hb hby d2_97) hr
          · show Q2 Z p1 h0 n0 _ s₁.heap _
            rw [e0]
            refine ⟨?_, N0, rfl⟩
            rw [f2, if_neg hc2, if_pos hc14, if_pos hc16, if_neg hc18]
      · have pre19 : ∀ t, Steps p.tables e below (s₁.setTop (mkF m 52 #[.val (.int p1), .val (.long (p1.toInt64)), .second, .val (.long ((p1.toInt64) - (48 : Int64))), .second, .val (.int (1 : Int32)), .val (.long ((p1.toInt64) ||| (32 : Int64))), .second, .unset, .unset] [(.int (lcmpW ((p1.toInt64) ||| (32 : Int64)) (122 : Int64)))])) t → Steps p.tables e below (s₁.setTop (entryFrame m #[(.int p1)] 10)) t := fun t kt => by
          refine pre15 _ ?_
          show Steps p.tables e below (s₁.setTop (mkF m 43 #[.val (.int p1), .val (.long (p1.toInt64)), .second, .val (.long ((p1.toInt64) - (48 : Int64))), .second, .val (.int (1 : Int32)), .val (.long ((p1.toInt64) ||| (32 : Int64))), .second, .unset, .unset] [(.int (lcmpW ((p1.toInt64) ||| (32 : Int64)) (97 : Int64)))])) _
          refine XS.ifNo X0.here hx rfl (hb hby d2_43) rfl ((if0 _ _).trans (flt (mt (lw_lt ((p1.toInt64) ||| (32 : Int64)) (97 : Int64)).mp hc16)).1) ?_
          show Steps p.tables e below (s₁.setTop (mkF m 46 #[.val (.int p1), .val (.long (p1.toInt64)), .second, .val (.long ((p1.toInt64) - (48 : Int64))), .second, .val (.int (1 : Int32)), .val (.long ((p1.toInt64) ||| (32 : Int64))), .second, .unset, .unset] [])) _
          refine XS.lload X0.here hx rfl (hb hby d2_46) rfl ?_
          show Steps p.tables e below (s₁.setTop (mkF m 48 #[.val (.int p1), .val (.long (p1.toInt64)), .second, .val (.long ((p1.toInt64) - (48 : Int64))), .second, .val (.int (1 : Int32)), .val (.long ((p1.toInt64) ||| (32 : Int64))), .second, .unset, .unset] [(.long ((p1.toInt64) ||| (32 : Int64)))])) _
          refine X0.ldc2Long hx hown (mvT hZ (hw _ (List.mem_of_getElem? (i := 14) rfl))) (g := (mkF m 48 #[.val (.int p1), .val (.long (p1.toInt64)), .second, .val (.long ((p1.toInt64) - (48 : Int64))), .second, .val (.int (1 : Int32)), .val (.long ((p1.toInt64) ||| (32 : Int64))), .second, .unset, .unset] [(.long ((p1.toInt64) ||| (32 : Int64)))])) rfl (hb hby d2_48) _ ?_
          show Steps p.tables e below (s₁.setTop (mkF m 51 #[.val (.int p1), .val (.long (p1.toInt64)), .second, .val (.long ((p1.toInt64) - (48 : Int64))), .second, .val (.int (1 : Int32)), .val (.long ((p1.toInt64) ||| (32 : Int64))), .second, .unset, .unset] [(.long (122 : Int64)), (.long ((p1.toInt64) ||| (32 : Int64)))])) _
          refine XS.lcmp X0.here hx rfl (hb hby d2_51) rfl ?_
          exact kt
        by_cases hc20 : (122 : Int64) < ((p1.toInt64) ||| (32 : Int64))
        · have pre21 : ∀ t, Steps p.tables e below (s₁.setTop (mkF m 67 #[.val (.int p1), .val (.long (p1.toInt64)), .second, .val (.long ((p1.toInt64) - (48 : Int64))), .second, .val (.int (1 : Int32)), .val (.long ((p1.toInt64) ||| (32 : Int64))), .second, .val (.int (0 : Int32)), .unset] [(.int (lcmpW (p1.toInt64) (45 : Int64)))])) t → Steps p.tables e below (s₁.setTop (entryFrame m #[(.int p1)] 10)) t := fun t kt => by
            refine pre19 _ ?_
            show Steps p.tables e below (s₁.setTop (mkF m 52 #[.val (.int p1), .val (.long (p1.toInt64)), .second, .val (.long ((p1.toInt64) - (48 : Int64))), .second, .val (.int (1 : Int32)), .val (.long ((p1.toInt64) ||| (32 : Int64))), .second, .unset, .unset] [(.int (lcmpW ((p1.toInt64) ||| (32 : Int64)) (122 : Int64)))])) _
            refine XS.ifYes X0.here hx rfl (pc0 := 52) (pc' := 59) rfl (hb hby d2_52) rfl ((if0 _ _).trans (tlt ((lw_gt ((p1.toInt64) ||| (32 : Int64)) (122 : Int64)).mpr hc20)).2.2.1) (by decide) (by decide) ?_
            show Steps p.tables e below (s₁.setTop (mkF m 59 #[.val (.int p1), .val (.long (p1.toInt64)), .second, .val (.long ((p1.toInt64) - (48 : Int64))), .second, .val (.int (1 : Int32)), .val (.long ((p1.toInt64) ||| (32 : Int64))), .second, .unset, .unset] [])) _
            refine XS.iconst X0.here hx rfl (hb hby d2_59) ?_
            show Steps p.tables e below (s₁.setTop (mkF m 60 #[.val (.int p1), .val (.long (p1.toInt64)), .second, .val (.long ((p1.toInt64) - (48 : Int64))), .second, .val (.int (1 : Int32)), .val (.long ((p1.toInt64) ||| (32 : Int64))), .second, .unset, .unset] [(.int (0 : Int32))])) _
            refine XS.istore X0.here hx rfl (hb hby d2_60) rfl (l' := #[.val (.int p1), .val (.long (p1.toInt64)), .second, .val (.long ((p1.toInt64) - (48 : Int64))), .second, .val (.int (1 : Int32)), .val (.long ((p1.toInt64) ||| (32 : Int64))), .second, .val (.int (0 : Int32)), .unset]) rfl ?_
            show Steps p.tables e below (s₁.setTop (mkF m 62 #[.val (.int p1), .val (.long (p1.toInt64)), .second, .val (.long ((p1.toInt64) - (48 : Int64))), .second, .val (.int (1 : Int32)), .val (.long ((p1.toInt64) ||| (32 : Int64))), .second, .val (.int (0 : Int32)), .unset] [])) _
            refine XS.lloadN X0.here hx rfl (hb hby d2_62) rfl ?_
            show Steps p.tables e below (s₁.setTop (mkF m 63 #[.val (.int p1), .val (.long (p1.toInt64)), .second, .val (.long ((p1.toInt64) - (48 : Int64))), .second, .val (.int (1 : Int32)), .val (.long ((p1.toInt64) ||| (32 : Int64))), .second, .val (.int (0 : Int32)), .unset] [(.long (p1.toInt64))])) _
            refine X0.ldc2Long hx hown (mvT hZ (hw _ (List.mem_of_getElem? (i := 12) rfl))) (g := (mkF m 63 #[.val (.int p1), .val (.long (p1.toInt64)), .second, .val (.long ((p1.toInt64) - (48 : Int64))), .second, .val (.int (1 : Int32)), .val (.long ((p1.toInt64) ||| (32 : Int64))), .second, .val (.int (0 : Int32)), .unset] [(.long (p1.toInt64))])) rfl (hb hby d2_63) _ ?_
            show Steps p.tables e below (s₁.setTop (mkF m 66 #[.val (.int p1), .val (.long (p1.toInt64)), .second, .val (.long ((p1.toInt64) - (48 : Int64))), .second, .val (.int (1 : Int32)), .val (.long ((p1.toInt64) ||| (32 : Int64))), .second, .val (.int (0 : Int32)), .unset] [(.long (45 : Int64)), (.long (p1.toInt64))])) _
            refine XS.lcmp X0.here hx rfl (hb hby d2_66) rfl ?_
            exact kt
          by_cases hc22 : (p1.toInt64) = (45 : Int64)
          · obtain ⟨fs, hr, hrun, hended, hW, hsame⟩ := X0.leave (v := some (.int (1 : Int32))) (fun h => by rw [Bd.returns] at h; cases h)
            refine ⟨_, _, pre21 _ ?_, hrun, hended, _, _, rfl, ?_, ⟨_, rfl⟩, hW, hsame.mono (by decide) (by decide)⟩
            · show Steps p.tables e below (s₁.setTop (mkF m 67 #[.val (.int p1), .val (.long (p1.toInt64)), .second, .val (.long ((p1.toInt64) - (48 : Int64))), .second, .val (.int (1 : Int32)), .val (.long ((p1.toInt64) ||| (32 : Int64))), .second, .val (.int (0 : Int32)), .unset] [(.int (lcmpW (p1.toInt64) (45 : Int64)))])) _
              refine XS.ifNo X0.here hx rfl (hb hby d2_67) rfl ((if0 _ _).trans (teq ((lw_eq (p1.toInt64) (45 : Int64)).mpr hc22)).2) ?_
              show Steps p.tables e below (s₁.setTop (mkF m 70 #[.val (.int p1), .val (.long (p1.toInt64)), .second, .val (.long ((p1.toInt64) - (48 : Int64))), .second, .val (.int (1 : Int32)), .val (.long ((p1.toInt64) ||| (32 : Int64))), .second, .val (.int (0 : Int32)), .unset] [])) _
              refine XS.iconst X0.here hx rfl (hb hby d2_70) ?_
              show Steps p.tables e below (s₁.setTop (mkF m 71 #[.val (.int p1), .val (.long (p1.toInt64)), .second, .val (.long ((p1.toInt64) - (48 : Int64))), .second, .val (.int (1 : Int32)), .val (.long ((p1.toInt64) ||| (32 : Int64))), .second, .val (.int (0 : Int32)), .unset] [(.int (1 : Int32))])) _
              refine XS.goto X0.here hx rfl (pc0 := 71) (pc' := 75) rfl (hb hby d2_71) (by decide) (by decide) ?_
              show Steps p.tables e below (s₁.setTop (mkF m 75 #[.val (.int p1), .val (.long (p1.toInt64)), .second, .val (.long ((p1.toInt64) - (48 : Int64))), .second, .val (.int (1 : Int32)), .val (.long ((p1.toInt64) ||| (32 : Int64))), .second, .val (.int (0 : Int32)), .unset] [(.int (1 : Int32))])) _
              refine XS.istore X0.here hx rfl (hb hby d2_75) rfl (l' := #[.val (.int p1), .val (.long (p1.toInt64)), .second, .val (.long ((p1.toInt64) - (48 : Int64))), .second, .val (.int (1 : Int32)), .val (.long ((p1.toInt64) ||| (32 : Int64))), .second, .val (.int (0 : Int32)), .val (.int (1 : Int32))]) rfl ?_
              show Steps p.tables e below (s₁.setTop (mkF m 77 #[.val (.int p1), .val (.long (p1.toInt64)), .second, .val (.long ((p1.toInt64) - (48 : Int64))), .second, .val (.int (1 : Int32)), .val (.long ((p1.toInt64) ||| (32 : Int64))), .second, .val (.int (0 : Int32)), .val (.int (1 : Int32))] [])) _
              refine XS.iload X0.here hx rfl (hb hby d2_77) rfl ?_
              show Steps p.tables e below (s₁.setTop (mkF m 79 #[.val (.int p1), .val (.long (p1.toInt64)), .second, .val (.long ((p1.toInt64) - (48 : Int64))), .second, .val (.int (1 : Int32)), .val (.long ((p1.toInt64) ||| (32 : Int64))), .second, .val (.int (0 : Int32)), .val (.int (1 : Int32))] [(.int (1 : Int32))])) _
              refine XS.ifYes X0.here hx rfl (pc0 := 79) (pc' := 92) rfl (hb hby d2_79) rfl ((if0 _ _).trans (feq (by decide : ¬ ((1 : Int32) = (0 : Int32)))).2) (by decide) (by decide) ?_
              show Steps p.tables e below (s₁.setTop (mkF m 92 #[.val (.int p1), .val (.long (p1.toInt64)), .second, .val (.long ((p1.toInt64) - (48 : Int64))), .second, .val (.int (1 : Int32)), .val (.long ((p1.toInt64) ||| (32 : Int64))), .second, .val (.int (0 : Int32)), .val (.int (1 : Int32))] [])) _
              refine XS.iconst X0.here hx rfl (hb hby d2_92) ?_
              show Steps p.tables e below (s₁.setTop (mkF m 93 #[.val (.int p1), .val (.long (p1.toInt64)), .second, .val (.long ((p1.toInt64) - (48 : Int64))), .second, .val (.int (1 : Int32)), .val (.long ((p1.toInt64) ||| (32 : Int64))), .second, .val (.int (0 : Int32)), .val (.int (1 : Int32))] [(.int (1 : Int32))])) _
              refine XS.goto X0.here hx rfl (pc0 := 93) (pc' := 97) rfl (hb hby d2_93) (by decide) (by decide) ?_
              show Steps p.tables e below (s₁.setTop (mkF m 97 #[.val (.int p1), .val (.long (p1.toInt64)), .second, .val (.long ((p1.toInt64) - (48 : Int64))), .second, .val (.int (1 : Int32)), .val (.long ((p1.toInt64) ||| (32 : Int64))), .second, .val (.int (0 : Int32)), .val (.int (1 : Int32))] [(.int (1 : Int32))])) _
              exact retN X0 hx (t := .boolean) Bd.returns (by simp) (hb hby d2_97) hr
            · show Q2 Z p1 h0 n0 _ s₁.heap _
              rw [e0]
              refine ⟨?_, N0, rfl⟩
              rw [f2, if_neg hc2, if_pos hc14, if_neg hc16, if_pos hc20, if_pos hc22]
          · obtain ⟨fs, hr, hrun, hended, hW, hsame⟩ := X0.leave (v := some (.int (1 : Int32))) (fun h => by rw [Bd.returns] at h; cases h)
            refine ⟨_, _, pre21 _ ?_, hrun, hended, _, _, rfl, ?_, ⟨_, rfl⟩, hW, hsame.mono (by decide) (by decide)⟩
            · show Steps p.tables e below (s₁.setTop (mkF m 67 #[.val (.int p1), .val (.long (p1.toInt64)), .second, .val (.long ((p1.toInt64) - (48 : Int64))), .second, .val (.int (1 : Int32)), .val (.long ((p1.toInt64) ||| (32 : Int64))), .second, .val (.int (0 : Int32)), .unset] [(.int (lcmpW (p1.toInt64) (45 : Int64)))])) _
              refine XS.ifYes X0.here hx rfl (pc0 := 67) (pc' := 74) rfl (hb hby d2_67) rfl ((if0 _ _).trans (feq (mt (lw_eq (p1.toInt64) (45 : Int64)).mp hc22)).2) (by decide) (by decide) ?_
              show Steps p.tables e below (s₁.setTop (mkF m 74 #[.val (.int p1), .val (.long (p1.toInt64)), .second, .val (.long ((p1.toInt64) - (48 : Int64))), .second, .val (.int (1 : Int32)), .val (.long ((p1.toInt64) ||| (32 : Int64))), .second, .val (.int (0 : Int32)), .unset] [])) _
              refine XS.iconst X0.here hx rfl (hb hby d2_74) ?_
              show Steps p.tables e below (s₁.setTop (mkF m 75 #[.val (.int p1), .val (.long (p1.toInt64)), .second, .val (.long ((p1.toInt64) - (48 : Int64))), .second, .val (.int (1 : Int32)), .val (.long ((p1.toInt64) ||| (32 : Int64))), .second, .val (.int (0 : Int32)), .unset] [(.int (0 : Int32))])) _
              refine XS.istore X0.here hx rfl (hb hby d2_75) rfl (l' := #[.val (.int p1), .val (.long (p1.toInt64)), .second, .val (.long ((p1.toInt64) - (48 : Int64))), .second, .val (.int (1 : Int32)), .val (.long ((p1.toInt64) ||| (32 : Int64))), .second, .val (.int (0 : Int32)), .val (.int (0 : Int32))]) rfl ?_
              show Steps p.tables e below (s₁.setTop (mkF m 77 #[.val (.int p1), .val (.long (p1.toInt64)), .second, .val (.long ((p1.toInt64) - (48 : Int64))), .second, .val (.int (1 : Int32)), .val (.long ((p1.toInt64) ||| (32 : Int64))), .second, .val (.int (0 : Int32)), .val (.int (0 : Int32))] [])) _
              refine XS.iload X0.here hx rfl (hb hby d2_77) rfl ?_
              show Steps p.tables e below (s₁.setTop (mkF m 79 #[.val (.int p1), .val (.long (p1.toInt64)), .second, .val (.long ((p1.toInt64) - (48 : Int64))), .second, .val (.int (1 : Int32)), .val (.long ((p1.toInt64) ||| (32 : Int64))), .second, .val (.int (0 : Int32)), .val (.int (0 : Int32))] [(.int (1 : Int32))])) _
              refine XS.ifYes X0.here hx rfl (pc0 := 79) (pc' := 92) rfl (hb hby d2_79) rfl ((if0 _ _).trans (feq (by decide : ¬ ((1 : Int32) = (0 : Int32)))).2) (by decide) (by decide) ?_
              show Steps p.tables e below (s₁.setTop (mkF m 92 #[.val (.int p1), .val (.long (p1.toInt64)), .second, .val (.long ((p1.toInt64) - (48 : Int64))), .second, .val (.int (1 : Int32)), .val (.long ((p1.toInt64) ||| (32 : Int64))), .second, .val (.int (0 : Int32)), .val (.int (0 : Int32))] [])) _
              refine XS.iconst X0.here hx rfl (hb hby d2_92) ?_
              show Steps p.tables e below (s₁.setTop (mkF m 93 #[.val (.int p1), .val (.long (p1.toInt64)), .second, .val (.long ((p1.toInt64) - (48 : Int64))), .second, .val (.int (1 : Int32)), .val (.long ((p1.toInt64) ||| (32 : Int64))), .second, .val (.int (0 : Int32)), .val (.int (0 : Int32))] [(.int (1 : Int32))])) _
              refine XS.goto X0.here hx rfl (pc0 := 93) (pc' := 97) rfl (hb hby d2_93) (by decide) (by decide) ?_
              show Steps p.tables e below (s₁.setTop (mkF m 97 #[.val (.int p1), .val (.long (p1.toInt64)), .second, .val (.long ((p1.toInt64) - (48 : Int64))), .second, .val (.int (1 : Int32)), .val (.long ((p1.toInt64) ||| (32 : Int64))), .second, .val (.int (0 : Int32)), .val (.int (0 : Int32))] [(.int (1 : Int32))])) _
              exact retN X0 hx (t := .boolean) Bd.returns (by simp) (hb hby d2_97) hr
            · show Q2 Z p1 h0 n0 _ s₁.heap _
              rw [e0]
              refine ⟨?_, N0, rfl⟩
              rw [f2, if_neg hc2, if_pos hc14, if_neg hc16, if_pos hc20, if_neg hc22]
        · have pre23 : ∀ t, Steps p.tables e below (s₁.setTop (mkF m 67 #[.val (.int p1), .val (.long (p1.toInt64)), .second, .val (.long ((p1.toInt64) - (48 : Int64))), .second, .val (.int (1 : Int32)), .val (.long ((p1.toInt64) ||| (32 : Int64))), .second, .val (.int (1 : Int32)), .unset] [(.int (lcmpW (p1.toInt64) (45 : Int64)))])) t → Steps p.tables e below (s₁.setTop (entryFrame m #[(.int p1)] 10)) t := fun t kt => by
            refine pre19 _ ?_
            show Steps p.tables e below (s₁.setTop (mkF m 52 #[.val (.int p1), .val (.long (p1.toInt64)), .second, .val (.long ((p1.toInt64) - (48 : Int64))), .second, .val (.int (1 : Int32)), .val (.long ((p1.toInt64) ||| (32 : Int64))), .second, .unset, .unset] [(.int (lcmpW ((p1.toInt64) ||| (32 : Int64)) (122 : Int64)))])) _
            refine XS.ifNo X0.here hx rfl (hb hby d2_52) rfl ((if0 _ _).trans (flt (mt (lw_gt ((p1.toInt64) ||| (32 : Int64)) (122 : Int64)).mp hc20)).2.2.1) ?_
            show Steps p.tables e below (s₁.setTop (mkF m 55 #[.val (.int p1), .val (.long (p1.toInt64)), .second, .val (.long ((p1.toInt64) - (48 : Int64))), .second, .val (.int (1 : Int32)), .val (.long ((p1.toInt64) ||| (32 : Int64))), .second, .unset, .unset] [])) _
            refine XS.iconst X0.here hx rfl (hb hby d2_55) ?_
            show Steps p.tables e below (s₁.setTop (mkF m 56 #[.val (.int p1), .val (.long (p1.toInt64)), .second, .val (.long ((p1.toInt64) - (48 : Int64))), .second, .val (.int (1 : Int32)), .val (.long ((p1.toInt64) ||| (32 : Int64))), .second, .unset, .unset] [(.int (1 : Int32))])) _
            refine XS.goto X0.here hx rfl (pc0 := 56) (pc' := 60) rfl (hb hby d2_56) (by decide) (by decide) ?_
            show Steps p.tables e below (s₁.setTop (mkF m 60 #[.val (.int p1), .val (.long (p1.toInt64)), .second, .val (.long ((p1.toInt64) - (48 : Int64))), .second, .val (.int (1 : Int32)), .val (.long ((p1.toInt64) ||| (32 : Int64))), .second, .unset, .unset] [(.int (1 : Int32))])) _
            refine XS.istore X0.here hx rfl (hb hby d2_60) rfl (l' := #[.val (.int p1), .val (.long (p1.toInt64)), .second, .val (.long ((p1.toInt64) - (48 : Int64))), .second, .val (.int (1 : Int32)), .val (.long ((p1.toInt64) ||| (32 : Int64))), .second, .val (.int (1 : Int32)), .unset]) rfl ?_
            show Steps p.tables e below (s₁.setTop (mkF m 62 #[.val (.int p1), .val (.long (p1.toInt64)), .second, .val (.long ((p1.toInt64) - (48 : Int64))), .second, .val (.int (1 : Int32)), .val (.long ((p1.toInt64) ||| (32 : Int64))), .second, .val (.int (1 : Int32)), .unset] [])) _
            refine XS.lloadN X0.here hx rfl (hb hby d2_62) rfl ?_
            show Steps p.tables e below (s₁.setTop (mkF m 63 #[.val (.int p1), .val (.long (p1.toInt64)), .second, .val (.long ((p1.toInt64) - (48 : Int64))), .second, .val (.int (1 : Int32)), .val (.long ((p1.toInt64) ||| (32 : Int64))), .second, .val (.int (1 : Int32)), .unset] [(.long (p1.toInt64))])) _
            refine X0.ldc2Long hx hown (mvT hZ (hw _ (List.mem_of_getElem? (i := 12) rfl))) (g := (mkF m 63 #[.val (.int p1), .val (.long (p1.toInt64)), .second, .val (.long ((p1.toInt64) - (48 : Int64))), .second, .val (.int (1 : Int32)), .val (.long ((p1.toInt64) ||| (32 : Int64))), .second, .val (.int (1 : Int32)), .unset] [(.long (p1.toInt64))])) rfl (hb hby d2_63) _ ?_
            show Steps p.tables e below (s₁.setTop (mkF m 66 #[.val (.int p1), .val (.long (p1.toInt64)), .second, .val (.long ((p1.toInt64) - (48 : Int64))), .second, .val (.int (1 : Int32)), .val (.long ((p1.toInt64) ||| (32 : Int64))), .second, .val (.int (1 : Int32)), .unset] [(.long (45 : Int64)), (.long (p1.toInt64))])) _
            refine XS.lcmp X0.here hx rfl (hb hby d2_66) rfl ?_
            exact kt
          by_cases hc24 : (p1.toInt64) = (45 : Int64)
          · obtain ⟨fs, hr, hrun, hended, hW, hsame⟩ := X0.leave (v := some (.int (1 : Int32))) (fun h => by rw [Bd.returns] at h; cases h)
            refine ⟨_, _, pre23 _ ?_, hrun, hended, _, _, rfl, ?_, ⟨_, rfl⟩, hW, hsame.mono (by decide) (by decide)⟩
            · show Steps p.tables e below (s₁.setTop (mkF m 67 #[.val (.int p1), .val (.long (p1.toInt64)), .second, .val (.long ((p1.toInt64) - (48 : Int64))), .second, .val (.int (1 : Int32)), .val (.long ((p1.toInt64) ||| (32 : Int64))), .second, .val (.int (1 : Int32)), .unset] [(.int (lcmpW (p1.toInt64) (45 : Int64)))])) _
              refine XS.ifNo X0.here hx rfl (hb hby d2_67) rfl ((if0 _ _).trans (teq ((lw_eq (p1.toInt64) (45 : Int64)).mpr hc24)).2) ?_
              show Steps p.tables e below (s₁.setTop (mkF m 70 #[.val (.int p1), .val (.long (p1.toInt64)), .second, .val (.long ((p1.toInt64) - (48 : Int64))), .second, .val (.int (1 : Int32)), .val (.long ((p1.toInt64) ||| (32 : Int64))), .second, .val (.int (1 : Int32)), .unset] [])) _
              refine XS.iconst X0.here hx rfl (hb hby d2_70) ?_
              show Steps p.tables e below (s₁.setTop (mkF m 71 #[.val (.int p1), .val (.long (p1.toInt64)), .second, .val (.long ((p1.toInt64) - (48 : Int64))), .second, .val (.int (1 : Int32)), .val (.long ((p1.toInt64) ||| (32 : Int64))), .second, .val (.int (1 : Int32)), .unset] [(.int (1 : Int32))])) _
              refine XS.goto X0.here hx rfl (pc0 := 71) (pc' := 75) rfl (hb hby d2_71) (by decide) (by decide) ?_
              show Steps p.tables e below (s₁.setTop (mkF m 75 #[.val (.int p1), .val (.long (p1.toInt64)), .second, .val (.long ((p1.toInt64) - (48 : Int64))), .second, .val (.int (1 : Int32)), .val (.long ((p1.toInt64) ||| (32 : Int64))), .second, .val (.int (1 : Int32)), .unset] [(.int (1 : Int32))])) _
              refine XS.istore X0.here hx rfl (hb hby d2_75) rfl (l' := #[.val (.int p1), .val (.long (p1.toInt64)), .second, .val (.long ((p1.toInt64) - (48 : Int64))), .second, .val (.int (1 : Int32)), .val (.long ((p1.toInt64) ||| (32 : Int64))), .second, .val (.int (1 : Int32)), .val (.int (1 : Int32))]) rfl ?_
              show Steps p.tables e below (s₁.setTop (mkF m 77 #[.val (.int p1), .val (.long (p1.toInt64)), .second, .val (.long ((p1.toInt64) - (48 : Int64))), .second, .val (.int (1 : Int32)), .val (.long ((p1.toInt64) ||| (32 : Int64))), .second, .val (.int (1 : Int32)), .val (.int (1 : Int32))] [])) _
              refine XS.iload X0.here hx rfl (hb hby d2_77) rfl ?_
              show Steps p.tables e below (s₁.setTop (mkF m 79 #[.val (.int p1), .val (.long (p1.toInt64)), .second, .val (.long ((p1.toInt64) - (48 : Int64))), .second, .val (.int (1 : Int32)), .val (.long ((p1.toInt64) ||| (32 : Int64))), .second, .val (.int (1 : Int32)), .val (.int (1 : Int32))] [(.int (1 : Int32))])) _
              refine XS.ifYes X0.here hx rfl (pc0 := 79) (pc' := 92) rfl (hb hby d2_79) rfl ((if0 _ _).trans (feq (by decide : ¬ ((1 : Int32) = (0 : Int32)))).2) (by decide) (by decide) ?_
              show Steps p.tables e below (s₁.setTop (mkF m 92 #[.val (.int p1), .val (.long (p1.toInt64)), .second, .val (.long ((p1.toInt64) - (48 : Int64))), .second, .val (.int (1 : Int32)), .val (.long ((p1.toInt64) ||| (32 : Int64))), .second, .val (.int (1 : Int32)), .val (.int (1 : Int32))] [])) _
              refine XS.iconst X0.here hx rfl (hb hby d2_92) ?_
              show Steps p.tables e below (s₁.setTop (mkF m 93 #[.val (.int p1), .val (.long (p1.toInt64)), .second, .val (.long ((p1.toInt64) - (48 : Int64))), .second, .val (.int (1 : Int32)), .val (.long ((p1.toInt64) ||| (32 : Int64))), .second, .val (.int (1 : Int32)), .val (.int (1 : Int32))] [(.int (1 : Int32))])) _
              refine XS.goto X0.here hx rfl (pc0 := 93) (pc' := 97) rfl (hb hby d2_93) (by decide) (by decide) ?_
              show Steps p.tables e below (s₁.setTop (mkF m 97 #[.val (.int p1), .val (.long (p1.toInt64)), .second, .val (.long ((p1.toInt64) - (48 : Int64))), .second, .val (.int (1 : Int32)), .val (.long ((p1.toInt64) ||| (32 : Int64))), .second, .val (.int (1 : Int32)), .val (.int (1 : Int32))] [(.int (1 : Int32))])) _
              exact retN X0 hx (t := .boolean) Bd.returns (by simp) (hb hby d2_97) hr
            · show Q2 Z p1 h0 n0 _ s₁.heap _
              rw [e0]
              refine ⟨?_, N0, rfl⟩
              rw [f2, if_neg hc2, if_pos hc14, if_neg hc16, if_neg hc20, if_pos hc24]
          · obtain ⟨fs, hr, hrun, hended, hW, hsame⟩ := X0.leave (v := some (.int (1 : Int32))) (fun h => by rw [Bd.returns] at h; cases h)
            refine ⟨_, _, pre23 _ ?_, hrun, hended, _, _, rfl, ?_, ⟨_, rfl⟩, hW, hsame.mono (by decide) (by decide)⟩
            · show Steps p.tables e below (s₁.setTop (mkF m 67 #[.val (.int p1), .val (.long (p1.toInt64)), .second, .val (.long ((p1.toInt64) - (48 : Int64))), .second, .val (.int (1 : Int32)), .val (.long ((p1.toInt64) ||| (32 : Int64))), .second, .val (.int (1 : Int32)), .unset] [(.int (lcmpW (p1.toInt64) (45 : Int64)))])) _
              refine XS.ifYes X0.here hx rfl (pc0 := 67) (pc' := 74) rfl (hb hby d2_67) rfl ((if0 _ _).trans (feq (mt (lw_eq (p1.toInt64) (45 : Int64)).mp hc24)).2) (by decide) (by decide) ?_
              show Steps p.tables e below (s₁.setTop (mkF m 74 #[.val (.int p1), .val (.long (p1.toInt64)), .second, .val (.long ((p1.toInt64) - (48 : Int64))), .second, .val (.int (1 : Int32)), .val (.long ((p1.toInt64) ||| (32 : Int64))), .second, .val (.int (1 : Int32)), .unset] [])) _
              refine XS.iconst X0.here hx rfl (hb hby d2_74) ?_
              show Steps p.tables e below (s₁.setTop (mkF m 75 #[.val (.int p1), .val (.long (p1.toInt64)), .second, .val (.long ((p1.toInt64) - (48 : Int64))), .second, .val (.int (1 : Int32)), .val (.long ((p1.toInt64) ||| (32 : Int64))), .second, .val (.int (1 : Int32)), .unset] [(.int (0 : Int32))])) _
              refine XS.istore X0.here hx rfl (hb hby d2_75) rfl (l' := #[.val (.int p1), .val (.long (p1.toInt64)), .second, .val (.long ((p1.toInt64) - (48 : Int64))), .second, .val (.int (1 : Int32)), .val (.long ((p1.toInt64) ||| (32 : Int64))), .second, .val (.int (1 : Int32)), .val (.int (0 : Int32))]) rfl ?_
              show Steps p.tables e below (s₁.setTop (mkF m 77 #[.val (.int p1), .val (.long (p1.toInt64)), .second, .val (.long ((p1.toInt64) - (48 : Int64))), .second, .val (.int (1 : Int32)), .val (.long ((p1.toInt64) ||| (32 : Int64))), .second, .val (.int (1 : Int32)), .val (.int (0 : Int32))] [])) _
              refine XS.iload X0.here hx rfl (hb hby d2_77) rfl ?_
              show Steps p.tables e below (s₁.setTop (mkF m 79 #[.val (.int p1), .val (.long (p1.toInt64)), .second, .val (.long ((p1.toInt64) - (48 : Int64))), .second, .val (.int (1 : Int32)), .val (.long ((p1.toInt64) ||| (32 : Int64))), .second, .val (.int (1 : Int32)), .val (.int (0 : Int32))] [(.int (1 : Int32))])) _
              refine XS.ifYes X0.here hx rfl (pc0 := 79) (pc' := 92) rfl (hb hby d2_79) rfl ((if0 _ _).trans (feq (by decide : ¬ ((1 : Int32) = (0 : Int32)))).2) (by decide) (by decide) ?_
              show Steps p.tables e below (s₁.setTop (mkF m 92 #[.val (.int p1), .val (.long (p1.toInt64)), .second, .val (.long ((p1.toInt64) - (48 : Int64))), .second, .val (.int (1 : Int32)), .val (.long ((p1.toInt64) ||| (32 : Int64))), .second, .val (.int (1 : Int32)), .val (.int (0 : Int32))] [])) _
              refine XS.iconst X0.here hx rfl (hb hby d2_92) ?_
              show Steps p.tables e below (s₁.setTop (mkF m 93 #[.val (.int p1), .val (.long (p1.toInt64)), .second, .val (.long ((p1.toInt64) - (48 : Int64))), .second, .val (.int (1 : Int32)), .val (.long ((p1.toInt64) ||| (32 : Int64))), .second, .val (.int (1 : Int32)), .val (.int (0 : Int32))] [(.int (1 : Int32))])) _
              refine XS.goto X0.here hx rfl (pc0 := 93) (pc' := 97) rfl (hb hby d2_93) (by decide) (by decide) ?_
              show Steps p.tables e below (s₁.setTop (mkF m 97 #[.val (.int p1), .val (.long (p1.toInt64)), .second, .val (.long ((p1.toInt64) - (48 : Int64))), .second, .val (.int (1 : Int32)), .val (.long ((p1.toInt64) ||| (32 : Int64))), .second, .val (.int (1 : Int32)), .val (.int (0 : Int32))] [(.int (1 : Int32))])) _
              exact retN X0 hx (t := .boolean) Bd.returns (by simp) (hb hby d2_97) hr
            · show Q2 Z p1 h0 n0 _ s₁.heap _
              rw [e0]
              refine ⟨?_, N0, rfl⟩
              rw [f2, if_neg hc2, if_pos hc14, if_neg hc16, if_neg hc20, if_neg hc24]
    · have pre25 : ∀ t, Steps p.tables e below (s₁.setTop (mkF m 43 #[.val (.int p1), .val (.long (p1.toInt64)), .second, .val (.long ((p1.toInt64) - (48 : Int64))), .second, .val (.int (0 : Int32)), .val (.long ((p1.toInt64) ||| (32 : Int64))), .second, .unset, .unset] [(.int (lcmpW ((p1.toInt64) ||| (32 : Int64)) (97 : Int64)))])) t → Steps p.tables e below (s₁.setTop (entryFrame m #[(.int p1)] 10)) t := fun t kt => by
        refine pre13 _ ?_
        show Steps p.tables e below (s₁.setTop (mkF m 20 #[.val (.int p1), .val (.long (p1.toInt64)), .second, .val (.long ((p1.toInt64) - (48 : Int64))), .second, .unset, .unset, .unset, .unset, .unset] [(.int (lcmpW ((p1.toInt64) - (48 : Int64)) (10 : Int64)))])) _
        refine XS.ifYes X0.here hx rfl (pc0 := 20) (pc' := 27) rfl (hb hby d2_20) rfl ((if0 _ _).trans (flt (mt (lw_lt ((p1.toInt64) - (48 : Int64)) (10 : Int64)).mp hc14)).2.1) (by decide) (by decide) ?_
        show Steps p.tables e below (s₁.setTop (mkF m 27 #[.val (.int p1), .val (.long (p1.toInt64)), .second, .val (.long ((p1.toInt64) - (48 : Int64))), .second, .unset, .unset, .unset, .unset, .unset] [])) _
        refine XS.iconst X0.here hx rfl (hb hby d2_27) ?_
        show Steps p.tables e below (s₁.setTop (mkF m 28 #[.val (.int p1), .val (.long (p1.toInt64)), .second, .val (.long ((p1.toInt64) - (48 : Int64))), .second, .unset, .unset, .unset, .unset, .unset] [(.int (0 : Int32))])) _
        refine XS.istore X0.here hx rfl (hb hby d2_28) rfl (l' := #[.val (.int p1), .val (.long (p1.toInt64)), .second, .val (.long ((p1.toInt64) - (48 : Int64))), .second, .val (.int (0 : Int32)), .unset, .unset, .unset, .unset]) rfl ?_
        show Steps p.tables e below (s₁.setTop (mkF m 30 #[.val (.int p1), .val (.long (p1.toInt64)), .second, .val (.long ((p1.toInt64) - (48 : Int64))), .second, .val (.int (0 : Int32)), .unset, .unset, .unset, .unset] [])) _
        refine XS.lloadN X0.here hx rfl (hb hby d2_30) rfl ?_
        show Steps p.tables e below (s₁.setTop (mkF m 31 #[.val (.int p1), .val (.long (p1.toInt64)), .second, .val (.long ((p1.toInt64) - (48 : Int64))), .second, .val (.int (0 : Int32)), .unset, .unset, .unset, .unset] [(.long (p1.toInt64))])) _
        refine X0.ldc2Long hx hown (mvT hZ (hw _ (List.mem_of_getElem? (i := 10) rfl))) (g := (mkF m 31 #[.val (.int p1), .val (.long (p1.toInt64)), .second, .val (.long ((p1.toInt64) - (48 : Int64))), .second, .val (.int (0 : Int32)), .unset, .unset, .unset, .unset] [(.long (p1.toInt64))])) rfl (hb hby d2_31) _ ?_
        show Steps p.tables e below (s₁.setTop (mkF m 34 #[.val (.int p1), .val (.long (p1.toInt64)), .second, .val (.long ((p1.toInt64) - (48 : Int64))), .second, .val (.int (0 : Int32)), .unset, .unset, .unset, .unset] [(.long (32 : Int64)), (.long (p1.toInt64))])) _
        refine XS.lor X0.here hx rfl (hb hby d2_34) rfl ?_
        show Steps p.tables e below (s₁.setTop (mkF m 35 #[.val (.int p1), .val (.long (p1.toInt64)), .second, .val (.long ((p1.toInt64) - (48 : Int64))), .second, .val (.int (0 : Int32)), .unset, .unset, .unset, .unset] [(.long ((p1.toInt64) ||| (32 : Int64)))])) _
        refine XS.lstore X0.here hx rfl (hb hby d2_35) rfl (l' := #[.val (.int p1), .val (.long (p1.toInt64)), .second, .val (.long ((p1.toInt64) - (48 : Int64))), .second, .val (.int (0 : Int32)), .val (.long ((p1.toInt64) ||| (32 : Int64))), .second, .unset, .unset]) rfl ?_
        show Steps p.tables e below (s₁.setTop (mkF m 37 #[.val (.int p1), .val (.long (p1.toInt64)), .second, .val (.long ((p1.toInt64) - (48 : Int64))), .second, .val (.int (0 : Int32)), .val (.long ((p1.toInt64) ||| (32 : Int64))), .second, .unset, .unset] [])) _
        refine XS.lload X0.here hx rfl (hb hby d2_37) rfl ?_
        show Steps p.tables e below (s₁.setTop (mkF m 39 #[.val (.int p1), .val (.long (p1.toInt64)), .second, .val (.long ((p1.toInt64) - (48 : Int64))), .second, .val (.int (0 : Int32)), .val (.long ((p1.toInt64) ||| (32 : Int64))), .second, .unset, .unset] [(.long ((p1.toInt64) ||| (32 : Int64)))])) _
        refine X0.ldc2Long hx hown (mvT hZ (hw _ (List.mem_of_getElem? (i := 11) rfl))) (g := (mkF m 39 #[.val (.int p1), .val (.long (p1.toInt64)), .second, .val (.long ((p1.toInt64) - (48 : Int64))), .second, .val (.int (0 : Int32)), .val (.long ((p1.toInt64) ||| (32 : Int64))), .second, .unset, .unset] [(.long ((p1.toInt64) ||| (32 : Int64)))])) rfl (hb hby d2_39) _ ?_
        show Steps p.tables e below (s₁.setTop (mkF m 42 #[.val (.int p1), .val (.long (p1.toInt64)), .second, .val (.long ((p1.toInt64) - (48 : Int64))), .second, .val (.int (0 : Int32)), .val (.long ((p1.toInt64) ||| (32 : Int64))), .second, .unset, .unset] [(.long (97 : Int64)), (.long ((p1.toInt64) ||| (32 : Int64)))])) _
        refine XS.lcmp X0.here hx rfl (hb hby d2_42) rfl ?_
        exact kt
      by_cases hc26 : ((p1.toInt64) ||| (32 : Int64)) < (97 : Int64)
      · have pre27 : ∀ t, Steps p.tables e below (s₁.setTop (mkF m 67 #[.val (.int p1), .val (.long (p1.toInt64)), .second, .val (.long ((p1.toInt64) - (48 : Int64))), .second, .val (.int (0 : Int32)), .val (.long ((p1.toInt64) ||| (32 : Int64))), .second, .val (.int (0 : Int32)), .unset] [(.int (lcmpW (p1.toInt64) (45 : Int64)))])) t → Steps p.tables e below (s₁.setTop (entryFrame m #[(.int p1)] 10)) t := fun t kt => by
          refine pre25 _ ?_
          show Steps p.tables e below (s₁.setTop (mkF m 43 #[.val (.int p1), .val (.long (p1.toInt64)), .second, .val (.long ((p1.toInt64) - (48 : Int64))), .second, .val (.int (0 : Int32)), .val (.long ((p1.toInt64) ||| (32 : Int64))), .second, .unset, .unset] [(.int (lcmpW ((p1.toInt64) ||| (32 : Int64)) (97 : Int64)))])) _
          refine XS.ifYes X0.here hx rfl (pc0 := 43) (pc' := 59) rfl (hb hby d2_43) rfl ((if0 _ _).trans (tlt ((lw_lt ((p1.toInt64) ||| (32 : Int64)) (97 : Int64)).mpr hc26)).1) (by decide) (by decide) ?_
          show Steps p.tables e below (s₁.setTop (mkF m 59 #[.val (.int p1), .val (.long (p1.toInt64)), .second, .val (.long ((p1.toInt64) - (48 : Int64))), .second, .val (.int (0 : Int32)), .val (.long ((p1.toInt64) ||| (32 : Int64))), .second, .unset, .unset] [])) _
          refine XS.iconst X0.here hx rfl (hb hby d2_59) ?_
          show Steps p.tables e below (s₁.setTop (mkF m 60 #[.val (.int p1), .val (.long (p1.toInt64)), .second, .val (.long ((p1.toInt64) - (48 : Int64))), .second, .val (.int (0 : Int32)), .val (.long ((p1.toInt64) ||| (32 : Int64))), .second, .unset, .unset] [(.int (0 : Int32))])) _
          refine XS.istore X0.here hx rfl (hb hby d2_60) rfl (l' := #[.val (.int p1), .val (.long (p1.toInt64)), .second, .val (.long ((p1.toInt64) - (48 : Int64))), .second, .val (.int (0 : Int32)), .val (.long ((p1.toInt64) ||| (32 : Int64))), .second, .val (.int (0 : Int32)), .unset]) rfl ?_
          show Steps p.tables e below (s₁.setTop (mkF m 62 #[.val (.int p1), .val (.long (p1.toInt64)), .second, .val (.long ((p1.toInt64) - (48 : Int64))), .second, .val (.int (0 : Int32)), .val (.long ((p1.toInt64) ||| (32 : Int64))), .second, .val (.int (0 : Int32)), .unset] [])) _
          refine XS.lloadN X0.here hx rfl (hb hby d2_62) rfl ?_
          show Steps p.tables e below (s₁.setTop (mkF m 63 #[.val (.int p1), .val (.long (p1.toInt64)), .second, .val (.long ((p1.toInt64) - (48 : Int64))), .second, .val (.int (0 : Int32)), .val (.long ((p1.toInt64) ||| (32 : Int64))), .second, .val (.int (0 : Int32)), .unset] [(.long (p1.toInt64))])) _
          refine X0.ldc2Long hx hown (mvT hZ (hw _ (List.mem_of_getElem? (i := 12) rfl))) (g := (mkF m 63 #[.val (.int p1), .val (.long (p1.toInt64)), .second, .val (.long ((p1.toInt64) - (48 : Int64))), .second, .val (.int (0 : Int32)), .val (.long ((p1.toInt64) ||| (32 : Int64))), .second, .val (.int (0 : Int32)), .unset] [(.long (p1.toInt64))])) rfl (hb hby d2_63) _ ?_
          show Steps p.tables e below (s₁.setTop (mkF m 66 #[.val (.int p1), .val (.long (p1.toInt64)), .second, .val (.long ((p1.toInt64) - (48 : Int64))), .second, .val (.int (0 : Int32)), .val (.long ((p1.toInt64) ||| (32 : Int64))), .second, .val (.int (0 : Int32)), .unset] [(.long (45 : Int64)), (.long (p1.toInt64))])) _
          refine XS.lcmp X0.here hx rfl (hb hby d2_66) rfl ?_
          exact kt
        by_cases hc28 : (p1.toInt64) = (45 : Int64)
        · obtain ⟨fs, hr, hrun, hended, hW, hsame⟩ := X0.leave (v := some (.int (1 : Int32))) (fun h => by rw [Bd.returns] at h; cases h)
          refine ⟨_, _, pre27 _ ?_, hrun, hended, _, _, rfl, ?_, ⟨_, rfl⟩, hW, hsame.mono (by decide) (by decide)⟩
          · show Steps p.tables e below (s₁.setTop (mkF m 67 #[.val (.int p1), .val (.long (p1.toInt64)), .second, .val (.long ((p1.toInt64) - (48 : Int64))), .second, .val (.int (0 : Int32)), .val (.long ((p1.toInt64) ||| (32 : Int64))), .second, .val (.int (0 : Int32)), .unset] [(.int (lcmpW (p1.toInt64) (45 : Int64)))])) _
            refine XS.ifNo X0.here hx rfl (hb hby d2_67) rfl ((if0 _ _).trans (teq ((lw_eq (p1.toInt64) (45 : Int64)).mpr hc28)).2) ?_
            show Steps p.tables e below (s₁.setTop (mkF m 70 #[.val (.int p1), .val (.long (p1.toInt64)), .second, .val (.long ((p1.toInt64) - (48 : Int64))), .second, .val (.int (0 : Int32)), .val (.long ((p1.toInt64) ||| (32 : Int64))), .second, .val (.int (0 : Int32)), .unset] [])) _
            refine XS.iconst X0.here hx rfl (hb hby d2_70) ?_
            show Steps p.tables e below (s₁.setTop (mkF m 71 #[.val (.int p1), .val (.long (p1.toInt64)), .second, .val (.long ((p1.toInt64) - (48 : Int64))), .second, .val (.int (0 : Int32)), .val (.long ((p1.toInt64) ||| (32 : Int64))), .second, .val (.int (0 : Int32)), .unset] [(.int (1 : Int32))])) _
            refine XS.goto X0.here hx rfl (pc0 := 71) (pc' := 75) rfl (hb hby d2_71) (by decide) (by decide) ?_
            show Steps p.tables e below (s₁.setTop (mkF m 75 #[.val (.int p1), .val (.long (p1.toInt64)), .second, .val (.long ((p1.toInt64) - (48 : Int64))), .second, .val (.int (0 : Int32)), .val (.long ((p1.toInt64) ||| (32 : Int64))), .second, .val (.int (0 : Int32)), .unset] [(.int (1 : Int32))])) _
            refine XS.istore X0.here hx rfl (hb hby d2_75) rfl (l' := #[.val (.int p1), .val (.long (p1.toInt64)), .second, .val (.long ((p1.toInt64) - (48 : Int64))), .second, .val (.int (0 : Int32)), .val (.long ((p1.toInt64) ||| (32 : Int64))), .second, .val (.int (0 : Int32)), .val (.int (1 : Int32))]) rfl ?_
            show Steps p.tables e below (s₁.setTop (mkF m 77 #[.val (.int p1), .val (.long (p1.toInt64)), .second, .val (.long ((p1.toInt64) - (48 : Int64))), .second, .val (.int (0 : Int32)), .val (.long ((p1.toInt64) ||| (32 : Int64))), .second, .val (.int (0 : Int32)), .val (.int (1 : Int32))] [])) _
            refine XS.iload X0.here hx rfl (hb hby d2_77) rfl ?_
            show Steps p.tables e below (s₁.setTop (mkF m 79 #[.val (.int p1), .val (.long (p1.toInt64)), .second, .val (.long ((p1.toInt64) - (48 : Int64))), .second, .val (.int (0 : Int32)), .val (.long ((p1.toInt64) ||| (32 : Int64))), .second, .val (.int (0 : Int32)), .val (.int (1 : Int32))] [(.int (0 : Int32))])) _
            refine XS.ifNo X0.here hx rfl (hb hby d2_79) rfl ((if0 _ _).trans (teq (by decide : (0 : Int32) = (0 : Int32))).2) ?_
            show Steps p.tables e below (s₁.setTop (mkF m 82 #[.val (.int p1), .val (.long (p1.toInt64)), .second, .val (.long ((p1.toInt64) - (48 : Int64))), .second, .val (.int (0 : Int32)), .val (.long ((p1.toInt64) ||| (32 : Int64))), .second, .val (.int (0 : Int32)), .val (.int (1 : Int32))] [])) _
            refine XS.iload X0.here hx rfl (hb hby d2_82) rfl ?_
            show Steps p.tables e below (s₁.setTop (mkF m 84 #[.val (.int p1), .val (.long (p1.toInt64)), .second, .val (.long ((p1.toInt64) - (48 : Int64))), .second, .val (.int (0 : Int32)), .val (.long ((p1.toInt64) ||| (32 : Int64))), .second, .val (.int (0 : Int32)), .val (.int (1 : Int32))] [(.int (0 : Int32))])) _
            refine XS.ifNo X0.here hx rfl (hb hby d2_84) rfl ((if0 _ _).trans (teq (by decide : (0 : Int32) = (0 : Int32))).2) ?_
            show Steps p.tables e below (s₁.setTop (mkF m 87 #[.val (.int p1), .val (.long (p1.toInt64)), .second, .val (.long ((p1.toInt64) - (48 : Int64))), .second, .val (.int (0 : Int32)), .val (.long ((p1.toInt64) ||| (32 : Int64))), .second, .val (.int (0 : Int32)), .val (.int (1 : Int32))] [])) _
            refine XS.iload X0.here hx rfl (hb hby d2_87) rfl ?_
            show Steps p.tables e below (s₁.setTop (mkF m 89 #[.val (.int p1), .val (.long (p1.toInt64)), .second, .val (.long ((p1.toInt64) - (48 : Int64))), .second, .val (.int (0 : Int32)), .val (.long ((p1.toInt64) ||| (32 : Int64))), .second, .val (.int (0 : Int32)), .val (.int (1 : Int32))] [(.int (1 : Int32))])) _
            refine XS.ifNo X0.here hx rfl (hb hby d2_89) rfl ((if0 _ _).trans (feq (by decide : ¬ ((1 : Int32) = (0 : Int32)))).1) ?_
            show Steps p.tables e below (s₁.setTop (mkF m 92 #[.val (.int p1), .val (.long (p1.toInt64)), .second, .val (.long ((p1.toInt64) - (48 : Int64))), .second, .val (.int (0 : Int32)), .val (.long ((p1.toInt64) ||| (32 : Int64))), .second, .val (.int (0 : Int32)), .val (.int (1 : Int32))] [])) _
            refine XS.iconst X0.here hx rfl (hb hby d2_92) ?_
            show Steps p.tables e below (s₁.setTop (mkF m 93 #[.val (.int p1), .val (.long (p1.toInt64)), .second, .val (.long ((p1.toInt64) - (48 : Int64))), .second, .val (.int (0 : Int32)), .val (.long ((p1.toInt64) ||| (32 : Int64))), .second, .val (.int (0 : Int32)), .val (.int (1 : Int32))] [(.int (1 : Int32))])) _
            refine XS.goto X0.here hx rfl (pc0 := 93) (pc' := 97) rfl (hb hby d2_93) (by decide) (by decide) ?_
            show Steps p.tables e below (s₁.setTop (mkF m 97 #[.val (.int p1), .val (.long (p1.toInt64)), .second, .val (.long ((p1.toInt64) - (48 : Int64))), .second, .val (.int (0 : Int32)), .val (.long ((p1.toInt64) ||| (32 : Int64))), .second, .val (.int (0 : Int32)), .val (.int (1 : Int32))] [(.int (1 : Int32))])) _
            exact retN X0 hx (t := .boolean) Bd.returns (by simp) (hb hby d2_97) hr
          · show Q2 Z p1 h0 n0 _ s₁.heap _
            rw [e0]
            refine ⟨?_, N0, rfl⟩
            rw [f2, if_neg hc2, if_neg hc14, if_pos hc26, if_pos hc28]
        · obtain ⟨fs, hr, hrun, hended, hW, hsame⟩ := X0.leave (v := some (.int (0 : Int32))) (fun h => by rw [Bd.returns] at h; cases h)
          refine ⟨_, _, pre27 _ ?_, hrun, hended, _, _, rfl, ?_, ⟨_, rfl⟩, hW, hsame.mono (by decide) (by decide)⟩
          · show Steps p.tables e below (s₁.setTop (mkF m 67 #[.val (.int p1), .val (.long (p1.toInt64)), .second, .val (.long ((p1.toInt64) - (48 : Int64))), .second, .val (.int (0 : Int32)), .val (.long ((p1.toInt64) ||| (32 : Int64))), .second, .val (.int (0 : Int32)), .unset] [(.int (lcmpW (p1.toInt64) (45 : Int64)))])) _
            refine XS.ifYes X0.here hx rfl (pc0 := 67) (pc' := 74) rfl (hb hby d2_67) rfl ((if0 _ _).trans (feq (mt (lw_eq (p1.toInt64) (45 : Int64)).mp hc28)).2) (by decide) (by decide) ?_
            show Steps p.tables e below (s₁.setTop (mkF m 74 #[.val (.int p1), .val (.long (p1.toInt64)), .second, .val (.long ((p1.toInt64) - (48 : Int64))), .second, .val (.int (0 : Int32)), .val (.long ((p1.toInt64) ||| (32 : Int64))), .second, .val (.int (0 : Int32)), .unset] [])) _
            refine XS.iconst X0.here hx rfl (hb hby d2_74) ?_
            show Steps p.tables e below (s₁.setTop (mkF m 75 #[.val (.int p1), .val (.long (p1.toInt64)), .second, .val (.long ((p1.toInt64) - (48 : Int64))), .second, .val (.int (0 : Int32)), .val (.long ((p1.toInt64) ||| (32 : Int64))), .second, .val (.int (0 : Int32)), .unset] [(.int (0 : Int32))])) _
            refine XS.istore X0.here hx rfl (hb hby d2_75) rfl (l' := #[.val (.int p1), .val (.long (p1.toInt64)), .second, .val (.long ((p1.toInt64) - (48 : Int64))), .second, .val (.int (0 : Int32)), .val (.long ((p1.toInt64) ||| (32 : Int64))), .second, .val (.int (0 : Int32)), .val (.int (0 : Int32))]) rfl ?_
            show Steps p.tables e below (s₁.setTop (mkF m 77 #[.val (.int p1), .val (.long (p1.toInt64)), .second, .val (.long ((p1.toInt64) - (48 : Int64))), .second, .val (.int (0 : Int32)), .val (.long ((p1.toInt64) ||| (32 : Int64))), .second, .val (.int (0 : Int32)), .val (.int (0 : Int32))] [])) _
            refine XS.iload X0.here hx rfl (hb hby d2_77) rfl ?_
            show Steps p.tables e below (s₁.setTop (mkF m 79 #[.val (.int p1), .val (.long (p1.toInt64)), .second, .val (.long ((p1.toInt64) - (48 : Int64))), .second, .val (.int (0 : Int32)), .val (.long ((p1.toInt64) ||| (32 : Int64))), .second, .val (.int (0 : Int32)), .val (.int (0 : Int32))] [(.int (0 : Int32))])) _
            refine XS.ifNo X0.here hx rfl (hb hby d2_79) rfl ((if0 _ _).trans (teq (by decide : (0 : Int32) = (0 : Int32))).2) ?_
            show Steps p.tables e below (s₁.setTop (mkF m 82 #[.val (.int p1), .val (.long (p1.toInt64)), .second, .val (.long ((p1.toInt64) - (48 : Int64))), .second, .val (.int (0 : Int32)), .val (.long ((p1.toInt64) ||| (32 : Int64))), .second, .val (.int (0 : Int32)), .val (.int (0 : Int32))] [])) _
            refine XS.iload X0.here hx rfl (hb hby d2_82) rfl ?_
            show Steps p.tables e below (s₁.setTop (mkF m 84 #[.val (.int p1), .val (.long (p1.toInt64)), .second, .val (.long ((p1.toInt64) - (48 : Int64))), .second, .val (.int (0 : Int32)), .val (.long ((p1.toInt64) ||| (32 : Int64))), .second, .val (.int (0 : Int32)), .val (.int (0 : Int32))] [(.int (0 : Int32))])) _
            refine XS.ifNo X0.here hx rfl (hb hby d2_84) rfl ((if0 _ _).trans (teq (by decide : (0 : Int32) = (0 : Int32))).2) ?_
            show Steps p.tables e below (s₁.setTop (mkF m 87 #[.val (.int p1), .val (.long (p1.toInt64)), .second, .val (.long ((p1.toInt64) - (48 : Int64))), .second, .val (.int (0 : Int32)), .val (.long ((p1.toInt64) ||| (32 : Int64))), .second, .val (.int (0 : Int32)), .val (.int (0 : Int32))] [])) _
            refine XS.iload X0.here hx rfl (hb hby d2_87) rfl ?_
            show Steps p.tables e below (s₁.setTop (mkF m 89 #[.val (.int p1), .val (.long (p1.toInt64)), .second, .val (.long ((p1.toInt64) - (48 : Int64))), .second, .val (.int (0 : Int32)), .val (.long ((p1.toInt64) ||| (32 : Int64))), .second, .val (.int (0 : Int32)), .val (.int (0 : Int32))] [(.int (0 : Int32))])) _
            refine XS.ifYes X0.here hx rfl (pc0 := 89) (pc' := 96) rfl (hb hby d2_89) rfl ((if0 _ _).trans (teq (by decide : (0 : Int32) = (0 : Int32))).1) (by decide) (by decide) ?_
            show Steps p.tables e below (s₁.setTop (mkF m 96 #[.val (.int p1), .val (.long (p1.toInt64)), .second, .val (.long ((p1.toInt64) - (48 : Int64))), .second, .val (.int (0 : Int32)), .val (.long ((p1.toInt64) ||| (32 : Int64))), .second, .val (.int (0 : Int32)), .val (.int (0 : Int32))] [])) _
            refine XS.iconst X0.here hx rfl (hb hby d2_96) ?_
            show Steps p.tables e below (s₁.setTop (mkF m 97 #[.val (.int p1), .val (.long (p1.toInt64)), .second, .val (.long ((p1.toInt64) - (48 : Int64))), .second, .val (.int (0 : Int32)), .val (.long ((p1.toInt64) ||| (32 : Int64))), .second, .val (.int (0 : Int32)), .val (.int (0 : Int32))] [(.int (0 : Int32))])) _
            exact retN X0 hx (t := .boolean) Bd.returns (by simp) (hb hby d2_97) hr
          · show Q2 Z p1 h0 n0 _ s₁.heap _
            rw [e0]
            refine ⟨?_, N0, rfl⟩
            rw [f2, if_neg hc2, if_neg hc14, if_pos hc26, if_neg hc28]
      · have pre29 : ∀ t, Steps p.tables e below (s₁.setTop (mkF m 52 #[.val (.int p1), .val (.long (p1.toInt64)), .second, .val (.long ((p1.toInt64) - (48 : Int64))), .second, .val (.int (0 : Int32)), .val (.long ((p1.toInt64) ||| (32 : Int64))), .second, .unset, .unset] [(.int (lcmpW ((p1.toInt64) ||| (32 : Int64)) (122 : Int64)))])) t → Steps p.tables e below (s₁.setTop (entryFrame m #[(.int p1)] 10)) t := fun t kt => by
          refine pre25 _ ?_
          show Steps p.tables e below (s₁.setTop (mkF m 43 #[.val (.int p1), .val (.long (p1.toInt64)), .second, .val (.long ((p1.toInt64) - (48 : Int64))), .second, .val (.int (0 : Int32)), .val (.long ((p1.toInt64) ||| (32 : Int64))), .second, .unset, .unset] [(.int (lcmpW ((p1.toInt64) ||| (32 : Int64)) (97 : Int64)))])) _
          refine XS.ifNo X0.here hx rfl (hb hby d2_43) rfl ((if0 _ _).trans (flt (mt (lw_lt ((p1.toInt64) ||| (32 : Int64)) (97 : Int64)).mp hc26)).1) ?_
          show Steps p.tables e below (s₁.setTop (mkF m 46 #[.val (.int p1), .val (.long (p1.toInt64)), .second, .val (.long ((p1.toInt64) - (48 : Int64))), .second, .val (.int (0 : Int32)), .val (.long ((p1.toInt64) ||| (32 : Int64))), .second, .unset, .unset] [])) _
          refine XS.lload X0.here hx rfl (hb hby d2_46) rfl ?_
          show Steps p.tables e below (s₁.setTop (mkF m 48 #[.val (.int p1), .val (.long (p1.toInt64)), .second, .val (.long ((p1.toInt64) - (48 : Int64))), .second, .val (.int (0 : Int32)), .val (.long ((p1.toInt64) ||| (32 : Int64))), .second, .unset, .unset] [(.long ((p1.toInt64) ||| (32 : Int64)))])) _
          refine X0.ldc2Long hx hown (mvT hZ (hw _ (List.mem_of_getElem? (i := 14) rfl))) (g := (mkF m 48 #[.val (.int p1), .val (.long (p1.toInt64)), .second, .val (.long ((p1.toInt64) - (48 : Int64))), .second, .val (.int (0 : Int32)), .val (.long ((p1.toInt64) ||| (32 : Int64))), .second, .unset, .unset] [(.long ((p1.toInt64) ||| (32 : Int64)))])) rfl (hb hby d2_48) _ ?_
          show Steps p.tables e below (s₁.setTop (mkF m 51 #[.val (.int p1), .val (.long (p1.toInt64)), .second, .val (.long ((p1.toInt64) - (48 : Int64))), .second, .val (.int (0 : Int32)), .val (.long ((p1.toInt64) ||| (32 : Int64))), .second, .unset, .unset] [(.long (122 : Int64)), (.long ((p1.toInt64) ||| (32 : Int64)))])) _
          refine XS.lcmp X0.here hx rfl (hb hby d2_51) rfl ?_
          exact kt
        by_cases hc30 : (122 : Int64) < ((p1.toInt64) ||| (32 : Int64))
        · have pre31 : ∀ t, Steps p.tables e below (s₁.setTop (mkF m 67 #[.val (.int p1), .val (.long (p1.toInt64)), .second, .val (.long ((p1.toInt64) - (48 : Int64))), .second, .val (.int (0 : Int32)), .val (.long ((p1.toInt64) ||| (32 : Int64))), .second, .val (.int (0 : Int32)), .unset] [(.int (lcmpW (p1.toInt64) (45 : Int64)))])) t → Steps p.tables e below (s₁.setTop (entryFrame m #[(.int p1)] 10)) t := fun t kt => by
            refine pre29 _ ?_
            show Steps p.tables e below (s₁.setTop (mkF m 52 #[.val (.int p1), .val (.long (p1.toInt64)), .second, .val (.long ((p1.toInt64) - (48 : Int64))), .second, .val (.int (0 : Int32)), .val (.long ((p1.toInt64) ||| (32 : Int64))), .second, .unset, .unset] [(.int (lcmpW ((p1.toInt64) ||| (32 : Int64)) (122 : Int64)))])) _
            refine XS.ifYes X0.here hx rfl (pc0 := 52) (pc' := 59) rfl (hb hby d2_52) rfl ((if0 _ _).trans (tlt ((lw_gt ((p1.toInt64) ||| (32 : Int64)) (122 : Int64)).mpr hc30)).2.2.1) (by decide) (by decide) ?_
            show Steps p.tables e below (s₁.setTop (mkF m 59 #[.val (.int p1), .val (.long (p1.toInt64)), .second, .val (.long ((p1.toInt64) - (48 : Int64))), .second, .val (.int (0 : Int32)), .val (.long ((p1.toInt64) ||| (32 : Int64))), .second, .unset, .unset] [])) _
            refine XS.iconst X0.here hx rfl (hb hby d2_59) ?_
            show Steps p.tables e below (s₁.setTop (mkF m 60 #[.val (.int p1), .val (.long (p1.toInt64)), .second, .val (.long ((p1.toInt64) - (48 : Int64))), .second, .val (.int (0 : Int32)), .val (.long ((p1.toInt64) ||| (32 : Int64))), .second, .unset, .unset] [(.int (0 : Int32))])) _
            refine XS.istore X0.here hx rfl (hb hby d2_60) rfl (l' := #[.val (.int p1), .val (.long (p1.toInt64)), .second, .val (.long ((p1.toInt64) - (48 : Int64))), .second, .val (.int (0 : Int32)), .val (.long ((p1.toInt64) ||| (32 : Int64))), .second, .val (.int (0 : Int32)), .unset]) rfl ?_
            show Steps p.tables e below (s₁.setTop (mkF m 62 #[.val (.int p1), .val (.long (p1.toInt64)), .second, .val (.long ((p1.toInt64) - (48 : Int64))), .second, .val (.int (0 : Int32)), .val (.long ((p1.toInt64) ||| (32 : Int64))), .second, .val (.int (0 : Int32)), .unset] [])) _
            refine XS.lloadN X0.here hx rfl (hb hby d2_62) rfl ?_
            show Steps p.tables e below (s₁.setTop (mkF m 63 #[.val (.int p1), .val (.long (p1.toInt64)), .second, .val (.long ((p1.toInt64) - (48 : Int64))), .second, .val (.int (0 : Int32)), .val (.long ((p1.toInt64) ||| (32 : Int64))), .second, .val (.int (0 : Int32)), .unset] [(.long (p1.toInt64))])) _
            refine X0.ldc2Long hx hown (mvT hZ (hw _ (List.mem_of_getElem? (i := 12) rfl))) (g := (mkF m 63 #[.val (.int p1), .val (.long (p1.toInt64)), .second, .val (.long ((p1.toInt64) - (48 : Int64))), .second, .val (.int (0 : Int32)), .val (.long ((p1.toInt64) ||| (32 : Int64))), .second, .val (.int (0 : Int32)), .unset] [(.long (p1.toInt64))])) rfl (hb hby d2_63) _ ?_
            show Steps p.tables e below (s₁.setTop (mkF m 66 #[.val (.int p1), .val (.long (p1.toInt64)), .second, .val (.long ((p1.toInt64) - (48 : Int64))), .second, .val (.int (0 : Int32)), .val (.long ((p1.toInt64) ||| (32 : Int64))), .second, .val (.int (0 : Int32)), .unset] [(.long (45 : Int64)), (.long (p1.toInt64))])) _
            refine XS.lcmp X0.here hx rfl (hb hby d2_66) rfl ?_
            exact kt
          by_cases hc32 : (p1.toInt64) = (45 : Int64)
          · obtain ⟨fs, hr, hrun, hended, hW, hsame⟩ := X0.leave (v := some (.int (1 : Int32))) (fun h => by rw [Bd.returns] at h; cases h)
            refine ⟨_, _, pre31 _ ?_, hrun, hended, _, _, rfl, ?_, ⟨_, rfl⟩, hW, hsame.mono (by decide) (by decide)⟩
            · show Steps p.tables e below (s₁.setTop (mkF m 67 #[.val (.int p1), .val (.long (p1.toInt64)), .second, .val (.long ((p1.toInt64) - (48 : Int64))), .second, .val (.int (0 : Int32)), .val (.long ((p1.toInt64) ||| (32 : Int64))), .second, .val (.int (0 : Int32)), .unset] [(.int (lcmpW (p1.toInt64) (45 : Int64)))])) _
              refine XS.ifNo X0.here hx rfl (hb hby d2_67) rfl ((if0 _ _).trans (teq ((lw_eq (p1.toInt64) (45 : Int64)).mpr hc32)).2) ?_
              show Steps p.tables e below (s₁.setTop (mkF m 70 #[.val (.int p1), .val (.long (p1.toInt64)), .second, .val (.long ((p1.toInt64) - (48 : Int64))), .second, .val (.int (0 : Int32)), .val (.long ((p1.toInt64) ||| (32 : Int64))), .second, .val (.int (0 : Int32)), .unset] [])) _
              refine XS.iconst X0.here hx rfl (hb hby d2_70) ?_
              show Steps p.tables e below (s₁.setTop (mkF m 71 #[.val (.int p1), .val (.long (p1.toInt64)), .second, .val (.long ((p1.toInt64) - (48 : Int64))), .second, .val (.int (0 : Int32)), .val (.long ((p1.toInt64) ||| (32 : Int64))), .second, .val (.int (0 : Int32)), .unset] [(.int (1 : Int32))])) _
              refine XS.goto X0.here hx rfl (pc0 := 71) (pc' := 75) rfl (hb hby d2_71) (by decide) (by decide) ?_
              show Steps p.tables e below (s₁.setTop (mkF m 75 #[.val (.int p1), .val (.long (p1.toInt64)), .second, .val (.long ((p1.toInt64) - (48 : Int64))), .second, .val (.int (0 : Int32)), .val (.long ((p1.toInt64) ||| (32 : Int64))), .second, .val (.int (0 : Int32)), .unset] [(.int (1 : Int32))])) _
              refine XS.istore X0.here hx rfl (hb hby d2_75) rfl (l' := #[.val (.int p1), .val (.long (p1.toInt64)), .second, .val (.long ((p1.toInt64) - (48 : Int64))), .second, .val (.int (0 : Int32)), .val (.long ((p1.toInt64) ||| (32 : Int64))), .second, .val (.int (0 : Int32)), .val (.int (1 : Int32))]) rfl ?_
              show Steps p.tables e below (s₁.setTop (mkF m 77 #[.val (.int p1), .val (.long (p1.toInt64)), .second, .val (.long ((p1.toInt64) - (48 : Int64))), .second, .val (.int (0 : Int32)), .val (.long ((p1.toInt64) ||| (32 : Int64))), .second, .val (.int (0 : Int32)), .val (.int (1 : Int32))] [])) _
              refine XS.iload X0.here hx rfl (hb hby d2_77) rfl ?_
              show Steps p.tables e below (s₁.setTop (mkF m 79 #[.val (.int p1), .val (.long (p1.toInt64)), .second, .val (.long ((p1.toInt64) - (48 : Int64))), .second, .val (.int (0 : Int32)), .val (.long ((p1.toInt64) ||| (32 : Int64))), .second, .val (.int (0 : Int32)), .val (.int (1 : Int32))] [(.int (0 : Int32))])) _
              refine XS.ifNo X0.here hx rfl (hb hby d2_79) rfl ((if0 _ _).trans (teq (by decide : (0 : Int32) = (0 : Int32))).2) ?_
              show Steps p.tables e below (s₁.setTop (mkF m 82 #[.val (.int p1), .val (.long (p1.toInt64)), .second, .val (.long ((p1.toInt64) - (48 : Int64))), .second, .val (.int (0 : Int32)), .val (.long ((p1.toInt64) ||| (32 : Int64))), .second, .val (.int (0 : Int32)), .val (.int (1 : Int32))] [])) _
              refine XS.iload X0.here hx rfl (hb hby d2_82) rfl ?_
              show Steps p.tables e below (s₁.setTop (mkF m 84 #[.val (.int p1), .val (.long (p1.toInt64)), .second, .val (.long ((p1.toInt64) - (48 : Int64))), .second, .val (.int (0 : Int32)), .val (.long ((p1.toInt64) ||| (32 : Int64))), .second, .val (.int (0 : Int32)), .val (.int (1 : Int32))] [(.int (0 : Int32))])) _
              refine XS.ifNo X0.here hx rfl (hb hby d2_84) rfl ((if0 _ _).trans (teq (by decide : (0 : Int32) = (0 : Int32))).2) ?_
              show Steps p.tables e below (s₁.setTop (mkF m 87 #[.val (.int p1), .val (.long (p1.toInt64)), .second, .val (.long ((p1.toInt64) - (48 : Int64))), .second, .val (.int (0 : Int32)), .val (.long ((p1.toInt64) ||| (32 : Int64))), .second, .val (.int (0 : Int32)), .val (.int (1 : Int32))] [])) _
              refine XS.iload X0.here hx rfl (hb hby d2_87) rfl ?_
              show Steps p.tables e below (s₁.setTop (mkF m 89 #[.val (.int p1), .val (.long (p1.toInt64)), .second, .val (.long ((p1.toInt64) - (48 : Int64))), .second, .val (.int (0 : Int32)), .val (.long ((p1.toInt64) ||| (32 : Int64))), .second, .val (.int (0 : Int32)), .val (.int (1 : Int32))] [(.int (1 : Int32))])) _
              refine XS.ifNo X0.here hx rfl (hb hby d2_89) rfl ((if0 _ _).trans (feq (by decide : ¬ ((1 : Int32) = (0 : Int32)))).1) ?_
              show Steps p.tables e below (s₁.setTop (mkF m 92 #[.val (.int p1), .val (.long (p1.toInt64)), .second, .val (.long ((p1.toInt64) - (48 : Int64))), .second, .val (.int (0 : Int32)), .val (.long ((p1.toInt64) ||| (32 : Int64))), .second, .val (.int (0 : Int32)), .val (.int (1 : Int32))] [])) _
              refine XS.iconst X0.here hx rfl (hb hby d2_92) ?_
              show Steps p.tables e below (s₁.setTop (mkF m 93 #[.val (.int p1), .val (.long (p1.toInt64)), .second, .val (.long ((p1.toInt64) - (48 : Int64))), .second, .val (.int (0 : Int32)), .val (.long ((p1.toInt64) ||| (32 : Int64))), .second, .val (.int (0 : Int32)), .val (.int (1 : Int32))] [(.int (1 : Int32))])) _
              refine XS.goto X0.here hx rfl (pc0 := 93) (pc' := 97) rfl (hb hby d2_93) (by decide) (by decide) ?_
              show Steps p.tables e below (s₁.setTop (mkF m 97 #[.val (.int p1), .val (.long (p1.toInt64)), .second, .val (.long ((p1.toInt64) - (48 : Int64))), .second, .val (.int (0 : Int32)), .val (.long ((p1.toInt64) ||| (32 : Int64))), .second, .val (.int (0 : Int32)), .val (.int (1 : Int32))] [(.int (1 : Int32))])) _
              exact retN X0 hx (t := .boolean) Bd.returns (by simp) (hb hby d2_97) hr
            · show Q2 Z p1 h0 n0 _ s₁.heap _
              rw [e0]
              refine ⟨?_, N0, rfl⟩
              rw [f2, if_neg hc2, if_neg hc14, if_neg hc26, if_pos hc30, if_pos hc32]
          · obtain ⟨fs, hr, hrun, hended, hW, hsame⟩ := X0.leave (v := some (.int (0 : Int32))) (fun h => by rw [Bd.returns] at h; cases h)
            refine ⟨_, _, pre31 _ ?_, hrun, hended, _, _, rfl, ?_, ⟨_, rfl⟩, hW, hsame.mono (by decide) (by decide)⟩
            · show Steps p.tables e below (s₁.setTop (mkF m 67 #[.val (.int p1), .val (.long (p1.toInt64)), .second, .val (.long ((p1.toInt64) - (48 : Int64))), .second, .val (.int (0 : Int32)), .val (.long ((p1.toInt64) ||| (32 : Int64))), .second, .val (.int (0 : Int32)), .unset] [(.int (lcmpW (p1.toInt64) (45 : Int64)))])) _
              refine XS.ifYes X0.here hx rfl (pc0 := 67) (pc' := 74) rfl (hb hby d2_67) rfl ((if0 _ _).trans (feq (mt (lw_eq (p1.toInt64) (45 : Int64)).mp hc32)).2) (by decide) (by decide) ?_
              show Steps p.tables e below (s₁.setTop (mkF m 74 #[.val (.int p1), .val (.long (p1.toInt64)), .second, .val (.long ((p1.toInt64) - (48 : Int64))), .second, .val (.int (0 : Int32)), .val (.long ((p1.toInt64) ||| (32 : Int64))), .second, .val (.int (0 : Int32)), .unset] [])) _
              refine XS.iconst X0.here hx rfl (hb hby d2_74) ?_
              show Steps p.tables e below (s₁.setTop (mkF m 75 #[.val (.int p1), .val (.long (p1.toInt64)), .second, .val (.long ((p1.toInt64) - (48 : Int64))), .second, .val (.int (0 : Int32)), .val (.long ((p1.toInt64) ||| (32 : Int64))), .second, .val (.int (0 : Int32)), .unset] [(.int (0 : Int32))])) _
              refine XS.istore X0.here hx rfl (hb hby d2_75) rfl (l' := #[.val (.int p1), .val (.long (p1.toInt64)), .second, .val (.long ((p1.toInt64) - (48 : Int64))), .second, .val (.int (0 : Int32)), .val (.long ((p1.toInt64) ||| (32 : Int64))), .second, .val (.int (0 : Int32)), .val (.int (0 : Int32))]) rfl ?_
              show Steps p.tables e below (s₁.setTop (mkF m 77 #[.val (.int p1), .val (.long (p1.toInt64)), .second, .val (.long ((p1.toInt64) - (48 : Int64))), .second, .val (.int (0 : Int32)), .val (.long ((p1.toInt64) ||| (32 : Int64))), .second, .val (.int (0 : Int32)), .val (.int (0 : Int32))] [])) _
              refine XS.iload X0.here hx rfl (hb hby d2_77) rfl ?_
              show Steps p.tables e below (s₁.setTop (mkF m 79 #[.val (.int p1), .val (.long (p1.toInt64)), .second, .val (.long ((p1.toInt64) - (48 : Int64))), .second, .val (.int (0 : Int32)), .val (.long ((p1.toInt64) ||| (32 : Int64))), .second, .val (.int (0 : Int32)), .val (.int (0 : Int32))] [(.int (0 : Int32))])) _
              refine XS.ifNo X0.here hx rfl (hb hby d2_79) rfl ((if0 _ _).trans (teq (by decide : (0 : Int32) = (0 : Int32))).2) ?_
              show Steps p.tables e below (s₁.setTop (mkF m 82 #[.val (.int p1), .val (.long (p1.toInt64)), .second, .val (.long ((p1.toInt64) - (48 : Int64))), .second, .val (.int (0 : Int32)), .val (.long ((p1.toInt64) ||| (32 : Int64))), .second, .val (.int (0 : Int32)), .val (.int (0 : Int32))] [])) _
              refine XS.iload X0.here hx rfl (hb hby d2_82) rfl ?_
              show Steps p.tables e below (s₁.setTop (mkF m 84 #[.val (.int p1), .val (.long (p1.toInt64)), .second, .val (.long ((p1.toInt64) - (48 : Int64))), .second, .val (.int (0 : Int32)), .val (.long ((p1.toInt64) ||| (32 : Int64))), .second, .val (.int (0 : Int32)), .val (.int (0 : Int32))] [(.int (0 : Int32))])) _
              refine XS.ifNo X0.here hx rfl (hb hby d2_84) rfl ((if0 _ _).trans (teq (by decide : (0 : Int32) = (0 : Int32))).2) ?_
              show Steps p.tables e below (s₁.setTop (mkF m 87 #[.val (.int p1), .val (.long (p1.toInt64)), .second, .val (.long ((p1.toInt64) - (48 : Int64))), .second, .val (.int (0 : Int32)), .val (.long ((p1.toInt64) ||| (32 : Int64))), .second, .val (.int (0 : Int32)), .val (.int (0 : Int32))] [])) _
              refine XS.iload X0.here hx rfl (hb hby d2_87) rfl ?_
              show Steps p.tables e below (s₁.setTop (mkF m 89 #[.val (.int p1), .val (.long (p1.toInt64)), .second, .val (.long ((p1.toInt64) - (48 : Int64))), .second, .val (.int (0 : Int32)), .val (.long ((p1.toInt64) ||| (32 : Int64))), .second, .val (.int (0 : Int32)), .val (.int (0 : Int32))] [(.int (0 : Int32))])) _
              refine XS.ifYes X0.here hx rfl (pc0 := 89) (pc' := 96) rfl (hb hby d2_89) rfl ((if0 _ _).trans (teq (by decide : (0 : Int32) = (0 : Int32))).1) (by decide) (by decide) ?_
              show Steps p.tables e below (s₁.setTop (mkF m 96 #[.val (.int p1), .val (.long (p1.toInt64)), .second, .val (.long ((p1.toInt64) - (48 : Int64))), .second, .val (.int (0 : Int32)), .val (.long ((p1.toInt64) ||| (32 : Int64))), .second, .val (.int (0 : Int32)), .val (.int (0 : Int32))] [])) _
              refine XS.iconst X0.here hx rfl (hb hby d2_96) ?_
              show Steps p.tables e below (s₁.setTop (mkF m 97 #[.val (.int p1), .val (.long (p1.toInt64)), .second, .val (.long ((p1.toInt64) - (48 : Int64))), .second, .val (.int (0 : Int32)), .val (.long ((p1.toInt64) ||| (32 : Int64))), .second, .val (.int (0 : Int32)), .val (.int (0 : Int32))] [(.int (0 : Int32))])) _
              exact retN X0 hx (t := .boolean) Bd.returns (by simp) (hb hby d2_97) hr
            · show Q2 Z p1 h0 n0 _ s₁.heap _
              rw [e0]
              refine ⟨?_, N0, rfl⟩
              rw [f2, if_neg hc2, if_neg hc14, if_neg hc26, if_pos hc30, if_neg hc32]
        · have pre33 : ∀ t, Steps p.tables e below (s₁.setTop (mkF m 67 #[.val (.int p1), .val (.long (p1.toInt64)), .second, .val (.long ((p1.toInt64) - (48 : Int64))), .second, .val (.int (0 : Int32)), .val (.long ((p1.toInt64) ||| (32 : Int64))), .second, .val (.int (1 : Int32)), .unset] [(.int (lcmpW (p1.toInt64) (45 : Int64)))])) t → Steps p.tables e below (s₁.setTop (entryFrame m #[(.int p1)] 10)) t := fun t kt => by
            refine pre29 _ ?_
            show Steps p.tables e below (s₁.setTop (mkF m 52 #[.val (.int p1), .val (.long (p1.toInt64)), .second, .val (.long ((p1.toInt64) - (48 : Int64))), .second, .val (.int (0 : Int32)), .val (.long ((p1.toInt64) ||| (32 : Int64))), .second, .unset, .unset] [(.int (lcmpW ((p1.toInt64) ||| (32 : Int64)) (122 : Int64)))])) _
            refine XS.ifNo X0.here hx rfl (hb hby d2_52) rfl ((if0 _ _).trans (flt (mt (lw_gt ((p1.toInt64) ||| (32 : Int64)) (122 : Int64)).mp hc30)).2.2.1) ?_
            show Steps p.tables e below (s₁.setTop (mkF m 55 #[.val (.int p1), .val (.long (p1.toInt64)), .second, .val (.long ((p1.toInt64) - (48 : Int64))), .second, .val (.int (0 : Int32)), .val (.long ((p1.toInt64) ||| (32 : Int64))), .second, .unset, .unset] [])) _
            refine XS.iconst X0.here hx rfl (hb hby d2_55) ?_
            show Steps p.tables e below (s₁.setTop (mkF m 56 #[.val (.int p1), .val (.long (p1.toInt64)), .second, .val (.long ((p1.toInt64) - (48 : Int64))), .second, .val (.int (0 : Int32)), .val (.long ((p1.toInt64) ||| (32 : Int64))), .second, .unset, .unset] [(.int (1 : Int32))])) _
            refine XS.goto X0.here hx rfl (pc0 := 56) (pc' := 60) rfl (hb hby d2_56) (by decide) (by decide) ?_
            show Steps p.tables e below (s₁.setTop (mkF m 60 #[.val (.int p1), .val (.long (p1.toInt64)), .second, .val (.long ((p1.toInt64) - (48 : Int64))), .second, .val (.int (0 : Int32)), .val (.long ((p1.toInt64) ||| (32 : Int64))), .second, .unset, .unset] [(.int (1 : Int32))])) _
            refine XS.istore X0.here hx rfl (hb hby d2_60) rfl (l' := #[.val (.int p1), .val (.long (p1.toInt64)), .second, .val (.long ((p1.toInt64) - (48 : Int64))), .second, .val (.int (0 : Int32)), .val (.long ((p1.toInt64) ||| (32 : Int64))), .second, .val (.int (1 : Int32)), .unset]) rfl ?_
            show Steps p.tables e below (s₁.setTop (mkF m 62 #[.val (.int p1), .val (.long (p1.toInt64)), .second, .val (.long ((p1.toInt64) - (48 : Int64))), .second, .val (.int (0 : Int32)), .val (.long ((p1.toInt64) ||| (32 : Int64))), .second, .val (.int (1 : Int32)), .unset] [])) _
            refine XS.lloadN X0.here hx rfl (hb hby d2_62) rfl ?_
            show Steps p.tables e below (s₁.setTop (mkF m 63 #[.val (.int p1), .val (.long (p1.toInt64)), .second, .val (.long ((p1.toInt64) - (48 : Int64))), .second, .val (.int (0 : Int32)), .val (.long ((p1.toInt64) ||| (32 : Int64))), .second, .val (.int (1 : Int32)), .unset] [(.long (p1.toInt64))])) _
            refine X0.ldc2Long hx hown (mvT hZ (hw _ (List.mem_of_getElem? (i := 12) rfl))) (g := (mkF m 63 #[.val (.int p1), .val (.long (p1.toInt64)), .second, .val (.long ((p1.toInt64) - (48 : Int64))), .second, .val (.int (0 : Int32)), .val (.long ((p1.toInt64) ||| (32 : Int64))), .second, .val (.int (1 : Int32)), .unset] [(.long (p1.toInt64))])) rfl (hb hby d2_63) _ ?_
            show Steps p.tables e below (s₁.setTop (mkF m 66 #[.val (.int p1), .val (.long (p1.toInt64)), .second, .val (.long ((p1.toInt64) - (48 : Int64))), .second, .val (.int (0 : Int32)), .val (.long ((p1.toInt64) ||| (32 : Int64))), .second, .val (.int (1 : Int32)), .unset] [(.long (45 : Int64)), (.long (p1.toInt64))])) _
            refine XS.lcmp X0.here hx rfl (hb hby d2_66) rfl ?_
            exact kt
          by_cases hc34 : (p1.toInt64) = (45 : Int64)
          · obtain ⟨fs, hr, hrun, hended, hW, hsame⟩ := X0.leave (v := some (.int (1 : Int32))) (fun h => by rw [Bd.returns] at h; cases h)
            refine ⟨_, _, pre33 _ ?_, hrun, hended, _, _, rfl, ?_, ⟨_, rfl⟩, hW, hsame.mono (by decide) (by decide)⟩
            · show Steps p.tables e below (s₁.setTop (mkF m 67 #[.val (.int p1), .val (.long (p1.toInt64)), .second, .val (.long ((p1.toInt64) - (48 : Int64))), .second, .val (.int (0 : Int32)), .val (.long ((p1.toInt64) ||| (32 : Int64))), .second, .val (.int (1 : Int32)), .unset] [(.int (lcmpW (p1.toInt64) (45 : Int64)))])) _
              refine XS.ifNo X0.here hx rfl (hb hby d2_67) rfl ((if0 _ _).trans (teq ((lw_eq (p1.toInt64) (45 : Int64)).mpr hc34)).2) ?_
              show Steps p.tables e below (s₁.setTop (mkF m 70 #[.val (.int p1), .val (.long (p1.toInt64)), .second, .val (.long ((p1.toInt64) - (48 : Int64))), .second, .val (.int (0 : Int32)), .val (.long ((p1.toInt64) ||| (32 : Int64))), .second, .val (.int (1 : Int32)), .unset] [])) _
              refine XS.iconst X0.here hx rfl (hb hby d2_70) ?_
              show Steps p.tables e below (s₁.setTop (mkF m 71 #[.val (.int p1), .val (.long (p1.toInt64)), .second, .val (.long ((p1.toInt64) - (48 : Int64))), .second, .val (.int (0 : Int32)), .val (.long ((p1.toInt64) ||| (32 : Int64))), .second, .val (.int (1 : Int32)), .unset] [(.int (1 : Int32))])) _
              refine XS.goto X0.here hx rfl (pc0 := 71) (pc' := 75) rfl (hb hby d2_71) (by decide) (by decide) ?_
              show Steps p.tables e below (s₁.setTop (mkF m 75 #[.val (.int p1), .val (.long (p1.toInt64)), .second, .val (.long ((p1.toInt64) - (48 : Int64))), .second, .val (.int (0 : Int32)), .val (.long ((p1.toInt64) ||| (32 : Int64))), .second, .val (.int (1 : Int32)), .unset] [(.int (1 : Int32))])) _
              refine XS.istore X0.here hx rfl (hb hby d2_75) rfl (l' := #[.val (.int p1), .val (.long (p1.toInt64)), .second, .val (.long ((p1.toInt64) - (48 : Int64))), .second, .val (.int (0 : Int32)), .val (.long ((p1.toInt64) ||| (32 : Int64))), .second, .val (.int (1 : Int32)), .val (.int (1 : Int32))]) rfl ?_
              show Steps p.tables e below (s₁.setTop (mkF m 77 #[.val (.int p1), .val (.long (p1.toInt64)), .second, .val (.long ((p1.toInt64) - (48 : Int64))), .second, .val (.int (0 : Int32)), .val (.long ((p1.toInt64) ||| (32 : Int64))), .second, .val (.int (1 : Int32)), .val (.int (1 : Int32))] [])) _
              refine XS.iload X0.here hx rfl (hb hby d2_77) rfl ?_
              show Steps p.tables e below (s₁.setTop (mkF m 79 #[.val (.int p1), .val (.long (p1.toInt64)), .second, .val (.long ((p1.toInt64) - (48 : Int64))), .second, .val (.int (0 : Int32)), .val (.long ((p1.toInt64) ||| (32 : Int64))), .second, .val (.int (1 : Int32)), .val (.int (1 : Int32))] [(.int (0 : Int32))])) _
              refine XS.ifNo X0.here hx rfl (hb hby d2_79) rfl ((if0 _ _).trans (teq (by decide : (0 : Int32) = (0 : Int32))).2) ?_
              show Steps p.tables e below (s₁.setTop (mkF m 82 #[.val (.int p1), .val (.long (p1.toInt64)), .second, .val (.long ((p1.toInt64) - (48 : Int64))), .second, .val (.int (0 : Int32)), .val (.long ((p1.toInt64) ||| (32 : Int64))), .second, .val (.int (1 : Int32)), .val (.int (1 : Int32))] [])) _
              refine XS.iload X0.here hx rfl (hb hby d2_82) rfl ?_
              show Steps p.tables e below (s₁.setTop (mkF m 84 #[.val (.int p1), .val (.long (p1.toInt64)), .second, .val (.long ((p1.toInt64) - (48 : Int64))), .second, .val (.int (0 : Int32)), .val (.long ((p1.toInt64) ||| (32 : Int64))), .second, .val (.int (1 : Int32)), .val (.int (1 : Int32))] [(.int (1 : Int32))])) _
              refine XS.ifYes X0.here hx rfl (pc0 := 84) (pc' := 92) rfl (hb hby d2_84) rfl ((if0 _ _).trans (feq (by decide : ¬ ((1 : Int32) = (0 : Int32)))).2) (by decide) (by decide) ?_
              show Steps p.tables e below (s₁.setTop (mkF m 92 #[.val (.int p1), .val (.long (p1.toInt64)), .second, .val (.long ((p1.toInt64) - (48 : Int64))), .second, .val (.int (0 : Int32)), .val (.long ((p1.toInt64) ||| (32 : Int64))), .second, .val (.int (1 : Int32)), .val (.int (1 : Int32))] [])) _
              refine XS.iconst X0.here hx rfl (hb hby d2_92) ?_
              show Steps p.tables e below (s₁.setTop (mkF m 93 #[.val (.int p1), .val (.long (p1.toInt64)), .second, .val (.long ((p1.toInt64) - (48 : Int64))), .second, .val (.int (0 : Int32)), .val (.long ((p1.toInt64) ||| (32 : Int64))), .second, .val (.int (1 : Int32)), .val (.int (1 : Int32))] [(.int (1 : Int32))])) _
              refine XS.goto X0.here hx rfl (pc0 := 93) (pc' := 97) rfl (hb hby d2_93) (by decide) (by decide) ?_
              show Steps p.tables e below (s₁.setTop (mkF m 97 #[.val (.int p1), .val (.long (p1.toInt64)), .second, .val (.long ((p1.toInt64) - (48 : Int64))), .second, .val (.int (0 : Int32)), .val (.long ((p1.toInt64) ||| (32 : Int64))), .second, .val (.int (1 : Int32)), .val (.int (1 : Int32))] [(.int (1 : Int32))])) _
              exact retN X0 hx (t := .boolean) Bd.returns (by simp) (hb hby d2_97) hr
            · show Q2 Z p1 h0 n0 _ s₁.heap _
              rw [e0]
              refine ⟨?_, N0, rfl⟩
              rw [f2, if_neg hc2, if_neg hc14, if_neg hc26, if_neg hc30, if_pos hc34]
          · obtain ⟨fs, hr, hrun, hended, hW, hsame⟩ := X0.leave (v := some (.int (1 : Int32))) (fun h => by rw [Bd.returns] at h; cases h)
            refine ⟨_, _, pre33 _ ?_, hrun, hended, _, _, rfl, ?_, ⟨_, rfl⟩, hW, hsame.mono (by decide) (by decide)⟩
            · show Steps p.tables e below (s₁.setTop (mkF m 67 #[.val (.int p1), .val (.long (p1.toInt64)), .second, .val (.long ((p1.toInt64) - (48 : Int64))), .second, .val (.int (0 : Int32)), .val (.long ((p1.toInt64) ||| (32 : Int64))), .second, .val (.int (1 : Int32)), .unset] [(.int (lcmpW (p1.toInt64) (45 : Int64)))])) _
              refine XS.ifYes X0.here hx rfl (pc0 := 67) (pc' := 74) rfl (hb hby d2_67) rfl ((if0 _ _).trans (feq (mt (lw_eq (p1.toInt64) (45 : Int64)).mp hc34)).2) (by decide) (by decide) ?_
              show Steps p.tables e below (s₁.setTop (mkF m 74 #[.val (.int p1), .val (.long (p1.toInt64)), .second, .val (.long ((p1.toInt64) - (48 : Int64))), .second, .val (.int (0 : Int32)), .val (.long ((p1.toInt64) ||| (32 : Int64))), .second, .val (.int (1 : Int32)), .unset] [])) _
              refine XS.iconst X0.here hx rfl (hb hby d2_74) ?_
              show Steps p.tables e below (s₁.setTop (mkF m 75 #[.val (.int p1), .val (.long (p1.toInt64)), .second, .val (.long ((p1.toInt64) - (48 : Int64))), .second, .val (.int (0 : Int32)), .val (.long ((p1.toInt64) ||| (32 : Int64))), .second, .val (.int (1 : Int32)), .unset] [(.int (0 : Int32))])) _
              refine XS.istore X0.here hx rfl (hb hby d2_75) rfl (l' := #[.val (.int p1), .val (.long (p1.toInt64)), .second, .val (.long ((p1.toInt64) - (48 : Int64))), .second, .val (.int (0 : Int32)), .val (.long ((p1.toInt64) ||| (32 : Int64))), .second, .val (.int (1 : Int32)), .val (.int (0 : Int32))]) rfl ?_
              show Steps p.tables e below (s₁.setTop (mkF m 77 #[.val (.int p1), .val (.long (p1.toInt64)), .second, .val (.long ((p1.toInt64) - (48 : Int64))), .second, .val (.int (0 : Int32)), .val (.long ((p1.toInt64) ||| (32 : Int64))), .second, .val (.int (1 : Int32)), .val (.int (0 : Int32))] [])) _
              refine XS.iload X0.here hx rfl (hb hby d2_77) rfl ?_
              show Steps p.tables e below (s₁.setTop (mkF m 79 #[.val (.int p1), .val (.long (p1.toInt64)), .second, .val (.long ((p1.toInt64) - (48 : Int64))), .second, .val (.int (0 : Int32)), .val (.long ((p1.toInt64) ||| (32 : Int64))), .second, .val (.int (1 : Int32)), .val (.int (0 : Int32))] [(.int (0 : Int32))])) _
              refine XS.ifNo X0.here hx rfl (hb hby d2_79) rfl ((if0 _ _).trans (teq (by decide : (0 : Int32) = (0 : Int32))).2) ?_
              show Steps p.tables e below (s₁.setTop (mkF m 82 #[.val (.int p1), .val (.long (p1.toInt64)), .second, .val (.long ((p1.toInt64) - (48 : Int64))), .second, .val (.int (0 : Int32)), .val (.long ((p1.toInt64) ||| (32 : Int64))), .second, .val (.int (1 : Int32)), .val (.int (0 : Int32))] [])) _
              refine XS.iload X0.here hx rfl (hb hby d2_82) rfl ?_
              show Steps p.tables e below (s₁.setTop (mkF m 84 #[.val (.int p1), .val (.long (p1.toInt64)), .second, .val (.long ((p1.toInt64) - (48 : Int64))), .second, .val (.int (0 : Int32)), .val (.long ((p1.toInt64) ||| (32 : Int64))), .second, .val (.int (1 : Int32)), .val (.int (0 : Int32))] [(.int (1 : Int32))])) _
              refine XS.ifYes X0.here hx rfl (pc0 := 84) (pc' := 92) rfl (hb hby d2_84) rfl ((if0 _ _).trans (feq (by decide : ¬ ((1 : Int32) = (0 : Int32)))).2) (by decide) (by decide) ?_
              show Steps p.tables e below (s₁.setTop (mkF m 92 #[.val (.int p1), .val (.long (p1.toInt64)), .second, .val (.long ((p1.toInt64) - (48 : Int64))), .second, .val (.int (0 : Int32)), .val (.long ((p1.toInt64) ||| (32 : Int64))), .second, .val (.int (1 : Int32)), .val (.int (0 : Int32))] [])) _
              refine XS.iconst X0.here hx rfl (hb hby d2_92) ?_
              show Steps p.tables e below (s₁.setTop (mkF m 93 #[.val (.int p1), .val (.long (p1.toInt64)), .second, .val (.long ((p1.toInt64) - (48 : Int64))), .second, .val (.int (0 : Int32)), .val (.long ((p1.toInt64) ||| (32 : Int64))), .second, .val (.int (1 : Int32)), .val (.int (0 : Int32))] [(.int (1 : Int32))])) _
              refine XS.goto X0.here hx rfl (pc0 := 93) (pc' := 97) rfl (hb hby d2_93) (by decide) (by decide) ?_
              show Steps p.tables e below (s₁.setTop (mkF m 97 #[.val (.int p1), .val (.long (p1.toInt64)), .second, .val (.long ((p1.toInt64) - (48 : Int64))), .second, .val (.int (0 : Int32)), .val (.long ((p1.toInt64) ||| (32 : Int64))), .second, .val (.int (1 : Int32)), .val (.int (0 : Int32))] [(.int (1 : Int32))])) _
              exact retN X0 hx (t := .boolean) Bd.returns (by simp) (hb hby d2_97) hr
            · show Q2 Z p1 h0 n0 _ s₁.heap _
              rw [e0]
              refine ⟨?_, N0, rfl⟩
              rw [f2, if_neg hc2, if_neg hc14, if_neg hc26, if_neg hc30, if_neg hc34]
theorem own_small {n : Nat} (P : Int32 → Prop) (h : ∀ i : Fin n, P (Int32.ofNat i.1)) {x : Int32} (h0 : ¬ x < 0) (h1 : x.toInt < n) : P x := by
  have e0 : (0 : Int32).toInt = 0 := by decide
  have hx : Int32.ofNat x.toNatClampNeg = x := (back32 h0).1
  have hp : 0 ≤ x.toInt := by rw [Int32.lt_iff_toInt_lt] at h0; omega
  have hlt : x.toNatClampNeg < n := by
    show x.toInt.toNat < n
    omega
  have q := h ⟨x.toNatClampNeg, hlt⟩
  rw [← hx]; exact q
theorem own_far (x : Int32) (h : x < 0 ∨ ¬ x < 128) : f1 x = 0 := by
  have l0 : (0 : Int32).toInt = 0 := by decide
  have l45 : (45 : Int32).toInt = 45 := by decide
  have l48 : (48 : Int32).toInt = 48 := by decide
  have l57 : (57 : Int32).toInt = 57 := by decide
  have l65 : (65 : Int32).toInt = 65 := by decide
  have l90 : (90 : Int32).toInt = 90 := by decide
  have l95 : (95 : Int32).toInt = 95 := by decide
  have l97 : (97 : Int32).toInt = 97 := by decide
  have l122 : (122 : Int32).toInt = 122 := by decide
  have l128 : (128 : Int32).toInt = 128 := by decide
  unfold f1
  repeat' split
  all_goals first | rfl | (exfalso; simp only [Int32.lt_iff_toInt_lt, Int32.le_iff_toInt_le, ← Int32.toInt_inj, l0, l45, l48, l57, l65, l90, l95, l97, l122, l128] at *; omega)
theorem own_orle (a b : Int64) (ha : 0 ≤ a.toInt) (hb : 0 ≤ b.toInt) (hc : 0 ≤ (a ||| b).toInt) : a.toInt ≤ (a ||| b).toInt := by
  have ea : a.toInt = (a.toBitVec.toNat : Int) := BitVec.toInt_eq_toNat_of_msb (by rw [BitVec.msb_eq_toInt]; exact decide_eq_false (Int.not_lt.mpr ha))
  have eo : (a ||| b).toInt = ((a ||| b).toBitVec.toNat : Int) := BitVec.toInt_eq_toNat_of_msb (by rw [BitVec.msb_eq_toInt]; exact decide_eq_false (Int.not_lt.mpr hc))
  rw [ea, eo, Int64.toBitVec_or, BitVec.toNat_or]
  exact Int.ofNat_le.mpr Nat.left_le_or
theorem own_or (x : Int32) (h : x < 0 ∨ ¬ x < 128) : (x.toInt64 ||| (32 : Int64)).toInt < 0 ∨ 128 ≤ (x.toInt64 ||| (32 : Int64)).toInt := by
  have e0 : (0 : Int32).toInt = 0 := by decide
  have e128 : (128 : Int32).toInt = 128 := by decide
  rcases h with h | h
  · left
    have q := (c_orSL x.toInt64 32).2.1
    rw [c_i2l] at q
    rw [Int32.lt_iff_toInt_lt] at h
    exact q (by omega)
  · right
    rw [Int32.lt_iff_toInt_lt] at h
    have hx : 0 ≤ x.toInt64.toInt := by rw [c_i2l]; omega
    have q0 := (c_orSL x.toInt64 32).1 hx (by decide)
    have h1 : x.toInt64.toInt ≤ (x.toInt64 ||| (32 : Int64)).toInt := own_orle _ _ hx (by decide) q0
    rw [c_i2l] at h1
    omega
theorem own_farL (x : Int32) (h : x < 0 ∨ ¬ x < 128) : f2 x = 0 := by
  have q := own_or x h
  have e0 : (0 : Int32).toInt = 0 := by decide
  have e128 : (128 : Int32).toInt = 128 := by decide
  have b := rng32 x
  have hi : x.toInt64.toInt = x.toInt := c_i2l x
  have hs : (x.toInt64 - (48 : Int64)).toInt = x.toInt - 48 := by
    have c1 := c_lsub x.toInt64 48
    have c2 := rng64 (x.toInt64 - 48)
    have l48 : (48 : Int64).toInt = 48 := by decide
    omega
  have l0 : (0 : Int64).toInt = 0 := by decide
  have l10 : (10 : Int64).toInt = 10 := by decide
  have l32 : (32 : Int64).toInt = 32 := by decide
  have l45 : (45 : Int64).toInt = 45 := by decide
  have l48 : (48 : Int64).toInt = 48 := by decide
  have l97 : (97 : Int64).toInt = 97 := by decide
  have l122 : (122 : Int64).toInt = 122 := by decide
  have hh : x.toInt < 0 ∨ 128 ≤ x.toInt := by
    rcases h with h | h <;> rw [Int32.lt_iff_toInt_lt] at h <;> omega
  unfold f2
  repeat' split
  all_goals first | rfl | (exfalso; clear h; simp only [Int64.lt_iff_toInt_lt, ← Int64.toInt_inj, hs, hi, l0, l10, l32, l45, l48, l97, l122] at *; omega)
theorem own_eq (x : Int32) : f1 x = f2 x := by
  by_cases h : x < 0
  · rw [own_far x (Or.inl h), own_farL x (Or.inl h)]
  · by_cases h' : x < 128
    · refine own_small (n := 128) (fun x => f1 x = f2 x) (by decide +kernel) h ?_
      have l128 : (128 : Int32).toInt = 128 := by decide
      rw [Int32.lt_iff_toInt_lt] at h'; omega
    · rw [own_far x (Or.inr h'), own_farL x (Or.inr h')]
theorem pn_0 : plainName "com/example/lokey/lokey/yaml/PropertyReaderIsWordCharacterPinLaw" = true := by first | (simp [plainName, overriddenIn]; done) | decide +kernel
theorem pd_0_0 : parseMethodDescriptor "(I)Z" = some ⟨[.int], some .boolean⟩ := by decide +kernel
theorem ef_0 (m : MethodId) (x0 : Int32) (x1 : Int32) : entryFrame m #[(.int x0), (.int x1)] maxLocals = mkF m 0 #[.val (.int x0), .val (.int x1), .unset, .unset, .unset, .unset, .unset] [] := by first | (simp [entryFrame, mkF, argsToLocals, Value.category, maxLocals]; done) | rfl
def f0 (p1 : Int32) (p2 : Int32) : Int32 := (1 : Int32)
def Q0 (Z : State) (p1 : Int32) (p2 : Int32) (h0 : Heap) (n0 : Nat) (v : Option Value) (h : Heap) (L : List Loc) : Prop := v = some (.int (f0 p1 p2)) ∧ Fr n0 L ∧ h = h0
set_option maxRecDepth 65536 in
set_option maxHeartbeats 40000000 in
theorem rm0 (l : Launch) (Z : State) (a0 : Array Value) (hw : ∀ d ∈ tables_1, d.before a0 Z = true) (ws : List Jvm.Cond) (p1 : Int32) (p2 : Int32) (h0 : Heap) (n0 : Nat) (Z0 : n0 ≤ h0.size) :
    MetFree l x (head1 (Jvm.Cond.code x code maxLocals ret :: ws) room_1) (fun a U => a = #[(.int p1), (.int p2)] ∧ Z.Warmed39 U.vm ∧ U.heap = h0) (fun _ _ _ _ _ => True) (fun _ U o U' => ∃ v L, o = .returned v ∧ Q0 Z p1 p2 h0 n0 v U'.heap L ∧ FrameEnd U o U' L room_1.cells room_1.slots) := by
  refine MetFree.of_bodySF (plainFor_of_name pn_0) hisR ?_
  intro p e s m args below meth c s₁ Bd hml0 hP hK
  obtain ⟨rfl, hZ, hh⟩ := hP
  have hx := Bd.exec
  have hby := Bd.bytes
  have hml : c.maxLocals = 7 := hml0
  have hown : s.vm.findClass "com/example/lokey/lokey/yaml/PropertyReaderIsWordCharacterPinLaw" = some m.cls := findClass_of_methodNamed Bd.named
  have hnm := (name_of_methodNamed Bd.named Bd.method).1
  have X0 : Stand p l e room_1 s m #[(.int p1), (.int p2)] below meth c s₁ [] 0 0 := Stand.of_body Bd
  have e0 : s₁.heap = h0 := by rw [← hh, Bd.state]; rfl
  have N0 := Fr.nil n0
  have pre0 : ∀ t, Steps p.tables e below (s₁.setTop (mkF m 0 #[.val (.int p1), .val (.int p2), .unset, .unset, .unset, .unset, .unset] [])) t → Steps p.tables e below (s₁.setTop (entryFrame m #[(.int p1), (.int p2)] maxLocals)) t := fun t k => castTop (ef_0 m p1 p2) k
  obtain ⟨_, _, ⟨T1, L1, k1, n1⟩, -, X1, ⟨Lc1, hQ1, l1, y1, z1⟩, st1⟩ := Jvm.LawKit.callS X0 hx (y := (⟨"com/example/lokey/lokey/yaml/PropertyReader", "isWordCharacter", "(I)Z"⟩ : MethodName)) hown (mvT hZ (hw _ (List.mem_of_getElem? (i := 1) rfl))) (mvT hZ (hw _ (List.mem_of_getElem? (i := 2) rfl))) (mvT hZ (hw _ (List.mem_of_getElem? (i := 3) rfl))) (mvT hZ (hw _ (List.mem_of_getElem? (i := 4) rfl))) (by decide) (backOf (W := 0) (rm1 l Z a0 hw [] p1  h0 n0 Z0 ) hZ (hw _ (List.mem_of_getElem? (i := 4) rfl)) (hw _ (List.mem_of_getElem? (i := 3) rfl)) (by decide) (by decide)) (g := (mkF m 14 #[.val (.int p1), .val (.int p2), .val (.int (p2 &&& (127 : Int32))), .val (.int (((p2.toUInt32 >>> ((7 : Int32) &&& 31).toUInt32).toInt32) &&& (65535 : Int32))), .unset, .unset, .unset] [(.int p1)])) rfl (by rw [hml]; rfl) (argsL := [(.int p1)]) (rest := []) (lenOf pd_0_0 rfl) rfl (by show 2 * 0 + _ ≤ _; exact Nat.le_of_eq rfl) (hb hby at_14) (fun _ _ => ⟨rfl, e0, (by decide : 0 + 0 ≤ _), (by decide : 0 + 0 ≤ _)⟩)
  dsimp only [Pt.U, Pt.locs, Pt.cells, Pt.slots] at X1 l1 y1 z1 st1 hQ1
  subst l1 y1 z1
  obtain ⟨rfl, N1q, e1⟩ := hQ1
  have N1 := Fr.app N0 N1q
  obtain ⟨_, _, ⟨T2, L2, k2, n2⟩, -, X2, ⟨Lc2, hQ2, l2, y2, z2⟩, st2⟩ := Jvm.LawKit.callS X1 hx (y := (⟨"com/example/lokey/lokey/yaml/PropertyReaderIsWordCharacterPinLaw", "expected", "(I)Z"⟩ : MethodName)) hown (mvT hZ (hw _ (List.mem_of_getElem? (i := 5) rfl))) (mvT hZ (hw _ (List.mem_of_getElem? (i := 6) rfl))) (mvT hZ (hw _ (List.mem_of_getElem? (i := 7) rfl))) (mvT hZ (hw _ (List.mem_of_getElem? (i := 8) rfl))) (by decide) (backOf (W := 1) (rm2 l Z a0 hw [] p1  h0 n0 Z0 ) hZ (hw _ (List.mem_of_getElem? (i := 8) rfl)) (hw _ (List.mem_of_getElem? (i := 7) rfl)) (by decide) (by decide)) (g := (mkF m 18 #[.val (.int p1), .val (.int p2), .val (.int (p2 &&& (127 : Int32))), .val (.int (((p2.toUInt32 >>> ((7 : Int32) &&& 31).toUInt32).toInt32) &&& (65535 : Int32))), .unset, .unset, .unset] [(.int p1), (.int (f1 p1))])) rfl (by rw [hml]; rfl) (argsL := [(.int p1)]) (rest := [(.int (f1 p1))]) (lenOf pd_0_0 rfl) rfl (by show 2 * 0 + _ ≤ _; exact Nat.le_of_eq rfl) (hb hby at_18) (fun _ _ => ⟨rfl, e1, (by decide : 0 + 0 ≤ _), (by decide : 0 + 0 ≤ _)⟩)
  dsimp only [Pt.U, Pt.locs, Pt.cells, Pt.slots] at X2 l2 y2 z2 st2 hQ2
  subst l2 y2 z2
  obtain ⟨rfl, N2q, e2⟩ := hQ2
  have N2 := Fr.app N1 N2q
  obtain ⟨_, _, ⟨T3, L3, k3, n3⟩, -, X3, ⟨Lc3, hQ3, l3, y3, z3⟩, st3⟩ := Jvm.LawKit.callS X2 hx (y := (⟨"com/example/lokey/lokey/yaml/PropertyReader", "isWordCharacter", "(I)Z"⟩ : MethodName)) hown (mvT hZ (hw _ (List.mem_of_getElem? (i := 1) rfl))) (mvT hZ (hw _ (List.mem_of_getElem? (i := 2) rfl))) (mvT hZ (hw _ (List.mem_of_getElem? (i := 3) rfl))) (mvT hZ (hw _ (List.mem_of_getElem? (i := 4) rfl))) (by decide) (backOf (W := 0) (rm1 l Z a0 hw [] (p2 &&& (127 : Int32))  h0 n0 Z0 ) hZ (hw _ (List.mem_of_getElem? (i := 4) rfl)) (hw _ (List.mem_of_getElem? (i := 3) rfl)) (by decide) (by decide)) (g := (mkF m 32 #[.val (.int p1), .val (.int p2), .val (.int (p2 &&& (127 : Int32))), .val (.int (((p2.toUInt32 >>> ((7 : Int32) &&& 31).toUInt32).toInt32) &&& (65535 : Int32))), .val (.int (1 : Int32)), .unset, .unset] [(.int (p2 &&& (127 : Int32)))])) rfl (by rw [hml]; rfl) (argsL := [(.int (p2 &&& (127 : Int32)))]) (rest := []) (lenOf pd_0_0 rfl) rfl (by show 2 * 0 + _ ≤ _; exact Nat.le_of_eq rfl) (hb hby at_32) (fun _ _ => ⟨rfl, e2, (by decide : 0 + 0 ≤ _), (by decide : 0 + 0 ≤ _)⟩)
  dsimp only [Pt.U, Pt.locs, Pt.cells, Pt.slots] at X3 l3 y3 z3 st3 hQ3
  subst l3 y3 z3
  obtain ⟨rfl, N3q, e3⟩ := hQ3
  have N3 := Fr.app N2 N3q
  obtain ⟨_, _, ⟨T4, L4, k4, n4⟩, -, X4, ⟨Lc4, hQ4, l4, y4, z4⟩, st4⟩ := Jvm.LawKit.callS X3 hx (y := (⟨"com/example/lokey/lokey/yaml/PropertyReaderIsWordCharacterPinLaw", "expected", "(I)Z"⟩ : MethodName)) hown (mvT hZ (hw _ (List.mem_of_getElem? (i := 5) rfl))) (mvT hZ (hw _ (List.mem_of_getElem? (i := 6) rfl))) (mvT hZ (hw _ (List.mem_of_getElem? (i := 7) rfl))) (mvT hZ (hw _ (List.mem_of_getElem? (i := 8) rfl))) (by decide) (backOf (W := 1) (rm2 l Z a0 hw [] (p2 &&& (127 : Int32))  h0 n0 Z0 ) hZ (hw _ (List.mem_of_getElem? (i := 8) rfl)) (hw _ (List.mem_of_getElem? (i := 7) rfl)) (by decide) (by decide)) (g := (mkF m 36 #[.val (.int p1), .val (.int p2), .val (.int (p2 &&& (127 : Int32))), .val (.int (((p2.toUInt32 >>> ((7 : Int32) &&& 31).toUInt32).toInt32) &&& (65535 : Int32))), .val (.int (1 : Int32)), .unset, .unset] [(.int (p2 &&& (127 : Int32))), (.int (f1 (p2 &&& (127 : Int32))))])) rfl (by rw [hml]; rfl) (argsL := [(.int (p2 &&& (127 : Int32)))]) (rest := [(.int (f1 (p2 &&& (127 : Int32))))]) (lenOf pd_0_0 rfl) rfl (by show 2 * 0 + _ ≤ _; exact Nat.le_of_eq rfl) (hb hby at_36) (fun _ _ => ⟨rfl, e3, (by decide : 0 + 0 ≤ _), (by decide : 0 + 0 ≤ _)⟩)
  dsimp only [Pt.U, Pt.locs, Pt.cells, Pt.slots] at X4 l4 y4 z4 st4 hQ4
  subst l4 y4 z4
  obtain ⟨rfl, N4q, e4⟩ := hQ4
  have N4 := Fr.app N3 N4q
  obtain ⟨_, _, ⟨T5, L5, k5, n5⟩, -, X5, ⟨Lc5, hQ5, l5, y5, z5⟩, st5⟩ := Jvm.LawKit.callS X4 hx (y := (⟨"com/example/lokey/lokey/yaml/PropertyReader", "isWordCharacter", "(I)Z"⟩ : MethodName)) hown (mvT hZ (hw _ (List.mem_of_getElem? (i := 1) rfl))) (mvT hZ (hw _ (List.mem_of_getElem? (i := 2) rfl))) (mvT hZ (hw _ (List.mem_of_getElem? (i := 3) rfl))) (mvT hZ (hw _ (List.mem_of_getElem? (i := 4) rfl))) (by decide) (backOf (W := 0) (rm1 l Z a0 hw [] (((p2.toUInt32 >>> ((7 : Int32) &&& 31).toUInt32).toInt32) &&& (65535 : Int32))  h0 n0 Z0 ) hZ (hw _ (List.mem_of_getElem? (i := 4) rfl)) (hw _ (List.mem_of_getElem? (i := 3) rfl)) (by decide) (by decide)) (g := (mkF m 50 #[.val (.int p1), .val (.int p2), .val (.int (p2 &&& (127 : Int32))), .val (.int (((p2.toUInt32 >>> ((7 : Int32) &&& 31).toUInt32).toInt32) &&& (65535 : Int32))), .val (.int (1 : Int32)), .val (.int (1 : Int32)), .unset] [(.int (((p2.toUInt32 >>> ((7 : Int32) &&& 31).toUInt32).toInt32) &&& (65535 : Int32)))])) rfl (by rw [hml]; rfl) (argsL := [(.int (((p2.toUInt32 >>> ((7 : Int32) &&& 31).toUInt32).toInt32) &&& (65535 : Int32)))]) (rest := []) (lenOf pd_0_0 rfl) rfl (by show 2 * 0 + _ ≤ _; exact Nat.le_of_eq rfl) (hb hby at_50) (fun _ _ => ⟨rfl, e4, (by decide : 0 + 0 ≤ _), (by decide : 0 + 0 ≤ _)⟩)
  dsimp only [Pt.U, Pt.locs, Pt.cells, Pt.slots] at X5 l5 y5 z5 st5 hQ5
  subst l5 y5 z5
  obtain ⟨rfl, N5q, e5⟩ := hQ5
  have N5 := Fr.app N4 N5q
  obtain ⟨_, _, ⟨T6, L6, k6, n6⟩, -, X6, ⟨Lc6, hQ6, l6, y6, z6⟩, st6⟩ := Jvm.LawKit.callS X5 hx (y := (⟨"com/example/lokey/lokey/yaml/PropertyReaderIsWordCharacterPinLaw", "expected", "(I)Z"⟩ : MethodName)) hown (mvT hZ (hw _ (List.mem_of_getElem? (i := 5) rfl))) (mvT hZ (hw _ (List.mem_of_getElem? (i := 6) rfl))) (mvT hZ (hw _ (List.mem_of_getElem? (i := 7) rfl))) (mvT hZ (hw _ (List.mem_of_getElem? (i := 8) rfl))) (by decide) (backOf (W := 1) (rm2 l Z a0 hw [] (((p2.toUInt32 >>> ((7 : Int32) &&& 31).toUInt32).toInt32) &&& (65535 : Int32))  h0 n0 Z0 ) hZ (hw _ (List.mem_of_getElem? (i := 8) rfl)) (hw _ (List.mem_of_getElem? (i := 7) rfl)) (by decide) (by decide)) (g := (mkF m 54 #[.val (.int p1), .val (.int p2), .val (.int (p2 &&& (127 : Int32))), .val (.int (((p2.toUInt32 >>> ((7 : Int32) &&& 31).toUInt32).toInt32) &&& (65535 : Int32))), .val (.int (1 : Int32)), .val (.int (1 : Int32)), .unset] [(.int (((p2.toUInt32 >>> ((7 : Int32) &&& 31).toUInt32).toInt32) &&& (65535 : Int32))), (.int (f1 (((p2.toUInt32 >>> ((7 : Int32) &&& 31).toUInt32).toInt32) &&& (65535 : Int32))))])) rfl (by rw [hml]; rfl) (argsL := [(.int (((p2.toUInt32 >>> ((7 : Int32) &&& 31).toUInt32).toInt32) &&& (65535 : Int32)))]) (rest := [(.int (f1 (((p2.toUInt32 >>> ((7 : Int32) &&& 31).toUInt32).toInt32) &&& (65535 : Int32))))]) (lenOf pd_0_0 rfl) rfl (by show 2 * 0 + _ ≤ _; exact Nat.le_of_eq rfl) (hb hby at_54) (fun _ _ => ⟨rfl, e5, (by decide : 0 + 0 ≤ _), (by decide : 0 + 0 ≤ _)⟩)
  dsimp only [Pt.U, Pt.locs, Pt.cells, Pt.slots] at X6 l6 y6 z6 st6 hQ6
  subst l6 y6 z6
  obtain ⟨rfl, N6q, e6⟩ := hQ6
  have N6 := Fr.app N5 N6q
  obtain ⟨fs, hr, hrun, hended, hW, hsame⟩ := X6.leave (v := some (.int (1 : Int32))) (fun h => by rw [Bd.returns] at h; cases h)
  refine ⟨_, _, pre0 _ ?_, hrun, hended, _, _, rfl, ?_, ⟨_, rfl⟩, hW, hsame.mono (by decide) (by decide)⟩
  · show Steps p.tables e below (s₁.setTop (mkF m 0 #[.val (.int p1), .val (.int p2), .unset, .unset, .unset, .unset, .unset] [])) _
    refine XS.iloadN X0.here hx rfl (hb hby at_0) rfl ?_
    show Steps p.tables e below (s₁.setTop (mkF m 1 #[.val (.int p1), .val (.int p2), .unset, .unset, .unset, .unset, .unset] [(.int p2)])) _
    refine XS.bipush X0.here hx rfl (hb hby at_1) ?_
    show Steps p.tables e below (s₁.setTop (mkF m 3 #[.val (.int p1), .val (.int p2), .unset, .unset, .unset, .unset, .unset] [(.int (127 : Int32)), (.int p2)])) _
    refine XS.iand X0.here hx rfl (hb hby at_3) rfl ?_
    show Steps p.tables e below (s₁.setTop (mkF m 4 #[.val (.int p1), .val (.int p2), .unset, .unset, .unset, .unset, .unset] [(.int (p2 &&& (127 : Int32)))])) _
    refine XS.istoreN X0.here hx rfl (hb hby at_4) rfl (l' := #[.val (.int p1), .val (.int p2), .val (.int (p2 &&& (127 : Int32))), .unset, .unset, .unset, .unset]) rfl ?_
    show Steps p.tables e below (s₁.setTop (mkF m 5 #[.val (.int p1), .val (.int p2), .val (.int (p2 &&& (127 : Int32))), .unset, .unset, .unset, .unset] [])) _
    refine XS.iloadN X0.here hx rfl (hb hby at_5) rfl ?_
    show Steps p.tables e below (s₁.setTop (mkF m 6 #[.val (.int p1), .val (.int p2), .val (.int (p2 &&& (127 : Int32))), .unset, .unset, .unset, .unset] [(.int p2)])) _
    refine XS.bipush X0.here hx rfl (hb hby at_6) ?_
    show Steps p.tables e below (s₁.setTop (mkF m 8 #[.val (.int p1), .val (.int p2), .val (.int (p2 &&& (127 : Int32))), .unset, .unset, .unset, .unset] [(.int (7 : Int32)), (.int p2)])) _
    refine XS.iushr X0.here hx rfl (hb hby at_8) rfl ?_
    show Steps p.tables e below (s₁.setTop (mkF m 9 #[.val (.int p1), .val (.int p2), .val (.int (p2 &&& (127 : Int32))), .unset, .unset, .unset, .unset] [(.int ((p2.toUInt32 >>> ((7 : Int32) &&& 31).toUInt32).toInt32))])) _
    refine X0.ldcInt hx hown (mvT hZ (hw _ (List.mem_of_getElem? (i := 0) rfl))) (g := (mkF m 9 #[.val (.int p1), .val (.int p2), .val (.int (p2 &&& (127 : Int32))), .unset, .unset, .unset, .unset] [(.int ((p2.toUInt32 >>> ((7 : Int32) &&& 31).toUInt32).toInt32))])) rfl (hb hby at_9) _ ?_
    show Steps p.tables e below (s₁.setTop (mkF m 11 #[.val (.int p1), .val (.int p2), .val (.int (p2 &&& (127 : Int32))), .unset, .unset, .unset, .unset] [(.int (65535 : Int32)), (.int ((p2.toUInt32 >>> ((7 : Int32) &&& 31).toUInt32).toInt32))])) _
    refine XS.iand X0.here hx rfl (hb hby at_11) rfl ?_
    show Steps p.tables e below (s₁.setTop (mkF m 12 #[.val (.int p1), .val (.int p2), .val (.int (p2 &&& (127 : Int32))), .unset, .unset, .unset, .unset] [(.int (((p2.toUInt32 >>> ((7 : Int32) &&& 31).toUInt32).toInt32) &&& (65535 : Int32)))])) _
    refine XS.istoreN X0.here hx rfl (hb hby at_12) rfl (l' := #[.val (.int p1), .val (.int p2), .val (.int (p2 &&& (127 : Int32))), .val (.int (((p2.toUInt32 >>> ((7 : Int32) &&& 31).toUInt32).toInt32) &&& (65535 : Int32))), .unset, .unset, .unset]) rfl ?_
    show Steps p.tables e below (s₁.setTop (mkF m 13 #[.val (.int p1), .val (.int p2), .val (.int (p2 &&& (127 : Int32))), .val (.int (((p2.toUInt32 >>> ((7 : Int32) &&& 31).toUInt32).toInt32) &&& (65535 : Int32))), .unset, .unset, .unset] [])) _
    refine XS.iloadN X0.here hx rfl (hb hby at_13) rfl ?_
    show Steps p.tables e below (s₁.setTop (mkF m 14 #[.val (.int p1), .val (.int p2), .val (.int (p2 &&& (127 : Int32))), .val (.int (((p2.toUInt32 >>> ((7 : Int32) &&& 31).toUInt32).toInt32) &&& (65535 : Int32))), .unset, .unset, .unset] [(.int p1)])) _
    refine st1 _ ?_
    show Steps p.tables e below (T1.setTop (mkF m 17 #[.val (.int p1), .val (.int p2), .val (.int (p2 &&& (127 : Int32))), .val (.int (((p2.toUInt32 >>> ((7 : Int32) &&& 31).toUInt32).toInt32) &&& (65535 : Int32))), .unset, .unset, .unset] [(.int (f1 p1))])) _
    refine XS.iloadN X1.here hx rfl (hb hby at_17) rfl ?_
    show Steps p.tables e below (T1.setTop (mkF m 18 #[.val (.int p1), .val (.int p2), .val (.int (p2 &&& (127 : Int32))), .val (.int (((p2.toUInt32 >>> ((7 : Int32) &&& 31).toUInt32).toInt32) &&& (65535 : Int32))), .unset, .unset, .unset] [(.int p1), (.int (f1 p1))])) _
    refine st2 _ ?_
    show Steps p.tables e below (T2.setTop (mkF m 21 #[.val (.int p1), .val (.int p2), .val (.int (p2 &&& (127 : Int32))), .val (.int (((p2.toUInt32 >>> ((7 : Int32) &&& 31).toUInt32).toInt32) &&& (65535 : Int32))), .unset, .unset, .unset] [(.int (f2 p1)), (.int (f1 p1))])) _
    refine XS.icmpNo X2.here hx rfl (hb hby at_21) rfl (teq (own_eq p1)).2 ?_
    show Steps p.tables e below (T2.setTop (mkF m 24 #[.val (.int p1), .val (.int p2), .val (.int (p2 &&& (127 : Int32))), .val (.int (((p2.toUInt32 >>> ((7 : Int32) &&& 31).toUInt32).toInt32) &&& (65535 : Int32))), .unset, .unset, .unset] [])) _
    refine XS.iconst X2.here hx rfl (hb hby at_24) ?_
    show Steps p.tables e below (T2.setTop (mkF m 25 #[.val (.int p1), .val (.int p2), .val (.int (p2 &&& (127 : Int32))), .val (.int (((p2.toUInt32 >>> ((7 : Int32) &&& 31).toUInt32).toInt32) &&& (65535 : Int32))), .unset, .unset, .unset] [(.int (1 : Int32))])) _
    refine XS.goto X2.here hx rfl (pc0 := 25) (pc' := 29) rfl (hb hby at_25) (by decide) (by decide) ?_
    show Steps p.tables e below (T2.setTop (mkF m 29 #[.val (.int p1), .val (.int p2), .val (.int (p2 &&& (127 : Int32))), .val (.int (((p2.toUInt32 >>> ((7 : Int32) &&& 31).toUInt32).toInt32) &&& (65535 : Int32))), .unset, .unset, .unset] [(.int (1 : Int32))])) _
    refine XS.istore X2.here hx rfl (hb hby at_29) rfl (l' := #[.val (.int p1), .val (.int p2), .val (.int (p2 &&& (127 : Int32))), .val (.int (((p2.toUInt32 >>> ((7 : Int32) &&& 31).toUInt32).toInt32) &&& (65535 : Int32))), .val (.int (1 : Int32)), .unset, .unset]) rfl ?_
    show Steps p.tables e below (T2.setTop (mkF m 31 #[.val (.int p1), .val (.int p2), .val (.int (p2 &&& (127 : Int32))), .val (.int (((p2.toUInt32 >>> ((7 : Int32) &&& 31).toUInt32).toInt32) &&& (65535 : Int32))), .val (.int (1 : Int32)), .unset, .unset] [])) _
    refine XS.iloadN X2.here hx rfl (hb hby at_31) rfl ?_
    show Steps p.tables e below (T2.setTop (mkF m 32 #[.val (.int p1), .val (.int p2), .val (.int (p2 &&& (127 : Int32))), .val (.int (((p2.toUInt32 >>> ((7 : Int32) &&& 31).toUInt32).toInt32) &&& (65535 : Int32))), .val (.int (1 : Int32)), .unset, .unset] [(.int (p2 &&& (127 : Int32)))])) _
    refine st3 _ ?_
    show Steps p.tables e below (T3.setTop (mkF m 35 #[.val (.int p1), .val (.int p2), .val (.int (p2 &&& (127 : Int32))), .val (.int (((p2.toUInt32 >>> ((7 : Int32) &&& 31).toUInt32).toInt32) &&& (65535 : Int32))), .val (.int (1 : Int32)), .unset, .unset] [(.int (f1 (p2 &&& (127 : Int32))))])) _
    refine XS.iloadN X3.here hx rfl (hb hby at_35) rfl ?_
    show Steps p.tables e below (T3.setTop (mkF m 36 #[.val (.int p1), .val (.int p2), .val (.int (p2 &&& (127 : Int32))), .val (.int (((p2.toUInt32 >>> ((7 : Int32) &&& 31).toUInt32).toInt32) &&& (65535 : Int32))), .val (.int (1 : Int32)), .unset, .unset] [(.int (p2 &&& (127 : Int32))), (.int (f1 (p2 &&& (127 : Int32))))])) _
    refine st4 _ ?_
    show Steps p.tables e below (T4.setTop (mkF m 39 #[.val (.int p1), .val (.int p2), .val (.int (p2 &&& (127 : Int32))), .val (.int (((p2.toUInt32 >>> ((7 : Int32) &&& 31).toUInt32).toInt32) &&& (65535 : Int32))), .val (.int (1 : Int32)), .unset, .unset] [(.int (f2 (p2 &&& (127 : Int32)))), (.int (f1 (p2 &&& (127 : Int32))))])) _
    refine XS.icmpNo X4.here hx rfl (hb hby at_39) rfl (teq (own_eq (p2 &&& (127 : Int32)))).2 ?_
    show Steps p.tables e below (T4.setTop (mkF m 42 #[.val (.int p1), .val (.int p2), .val (.int (p2 &&& (127 : Int32))), .val (.int (((p2.toUInt32 >>> ((7 : Int32) &&& 31).toUInt32).toInt32) &&& (65535 : Int32))), .val (.int (1 : Int32)), .unset, .unset] [])) _
    refine XS.iconst X4.here hx rfl (hb hby at_42) ?_
    show Steps p.tables e below (T4.setTop (mkF m 43 #[.val (.int p1), .val (.int p2), .val (.int (p2 &&& (127 : Int32))), .val (.int (((p2.toUInt32 >>> ((7 : Int32) &&& 31).toUInt32).toInt32) &&& (65535 : Int32))), .val (.int (1 : Int32)), .unset, .unset] [(.int (1 : Int32))])) _
    refine XS.goto X4.here hx rfl (pc0 := 43) (pc' := 47) rfl (hb hby at_43) (by decide) (by decide) ?_
    show Steps p.tables e below (T4.setTop (mkF m 47 #[.val (.int p1), .val (.int p2), .val (.int (p2 &&& (127 : Int32))), .val (.int (((p2.toUInt32 >>> ((7 : Int32) &&& 31).toUInt32).toInt32) &&& (65535 : Int32))), .val (.int (1 : Int32)), .unset, .unset] [(.int (1 : Int32))])) _
    refine XS.istore X4.here hx rfl (hb hby at_47) rfl (l' := #[.val (.int p1), .val (.int p2), .val (.int (p2 &&& (127 : Int32))), .val (.int (((p2.toUInt32 >>> ((7 : Int32) &&& 31).toUInt32).toInt32) &&& (65535 : Int32))), .val (.int (1 : Int32)), .val (.int (1 : Int32)), .unset]) rfl ?_
    show Steps p.tables e below (T4.setTop (mkF m 49 #[.val (.int p1), .val (.int p2), .val (.int (p2 &&& (127 : Int32))), .val (.int (((p2.toUInt32 >>> ((7 : Int32) &&& 31).toUInt32).toInt32) &&& (65535 : Int32))), .val (.int (1 : Int32)), .val (.int (1 : Int32)), .unset] [])) _
    refine XS.iloadN X4.here hx rfl (hb hby at_49) rfl ?_
    show Steps p.tables e below (T4.setTop (mkF m 50 #[.val (.int p1), .val (.int p2), .val (.int (p2 &&& (127 : Int32))), .val (.int (((p2.toUInt32 >>> ((7 : Int32) &&& 31).toUInt32).toInt32) &&& (65535 : Int32))), .val (.int (1 : Int32)), .val (.int (1 : Int32)), .unset] [(.int (((p2.toUInt32 >>> ((7 : Int32) &&& 31).toUInt32).toInt32) &&& (65535 : Int32)))])) _
    refine st5 _ ?_
    show Steps p.tables e below (T5.setTop (mkF m 53 #[.val (.int p1), .val (.int p2), .val (.int (p2 &&& (127 : Int32))), .val (.int (((p2.toUInt32 >>> ((7 : Int32) &&& 31).toUInt32).toInt32) &&& (65535 : Int32))), .val (.int (1 : Int32)), .val (.int (1 : Int32)), .unset] [(.int (f1 (((p2.toUInt32 >>> ((7 : Int32) &&& 31).toUInt32).toInt32) &&& (65535 : Int32))))])) _
    refine XS.iloadN X5.here hx rfl (hb hby at_53) rfl ?_
    show Steps p.tables e below (T5.setTop (mkF m 54 #[.val (.int p1), .val (.int p2), .val (.int (p2 &&& (127 : Int32))), .val (.int (((p2.toUInt32 >>> ((7 : Int32) &&& 31).toUInt32).toInt32) &&& (65535 : Int32))), .val (.int (1 : Int32)), .val (.int (1 : Int32)), .unset] [(.int (((p2.toUInt32 >>> ((7 : Int32) &&& 31).toUInt32).toInt32) &&& (65535 : Int32))), (.int (f1 (((p2.toUInt32 >>> ((7 : Int32) &&& 31).toUInt32).toInt32) &&& (65535 : Int32))))])) _
    refine st6 _ ?_
    show Steps p.tables e below (T6.setTop (mkF m 57 #[.val (.int p1), .val (.int p2), .val (.int (p2 &&& (127 : Int32))), .val (.int (((p2.toUInt32 >>> ((7 : Int32) &&& 31).toUInt32).toInt32) &&& (65535 : Int32))), .val (.int (1 : Int32)), .val (.int (1 : Int32)), .unset] [(.int (f2 (((p2.toUInt32 >>> ((7 : Int32) &&& 31).toUInt32).toInt32) &&& (65535 : Int32)))), (.int (f1 (((p2.toUInt32 >>> ((7 : Int32) &&& 31).toUInt32).toInt32) &&& (65535 : Int32))))])) _
    refine XS.icmpNo X6.here hx rfl (hb hby at_57) rfl (teq (own_eq (((p2.toUInt32 >>> ((7 : Int32) &&& 31).toUInt32).toInt32) &&& (65535 : Int32)))).2 ?_
    show Steps p.tables e below (T6.setTop (mkF m 60 #[.val (.int p1), .val (.int p2), .val (.int (p2 &&& (127 : Int32))), .val (.int (((p2.toUInt32 >>> ((7 : Int32) &&& 31).toUInt32).toInt32) &&& (65535 : Int32))), .val (.int (1 : Int32)), .val (.int (1 : Int32)), .unset] [])) _
    refine XS.iconst X6.here hx rfl (hb hby at_60) ?_
    show Steps p.tables e below (T6.setTop (mkF m 61 #[.val (.int p1), .val (.int p2), .val (.int (p2 &&& (127 : Int32))), .val (.int (((p2.toUInt32 >>> ((7 : Int32) &&& 31).toUInt32).toInt32) &&& (65535 : Int32))), .val (.int (1 : Int32)), .val (.int (1 : Int32)), .unset] [(.int (1 : Int32))])) _
    refine XS.goto X6.here hx rfl (pc0 := 61) (pc' := 65) rfl (hb hby at_61) (by decide) (by decide) ?_
    show Steps p.tables e below (T6.setTop (mkF m 65 #[.val (.int p1), .val (.int p2), .val (.int (p2 &&& (127 : Int32))), .val (.int (((p2.toUInt32 >>> ((7 : Int32) &&& 31).toUInt32).toInt32) &&& (65535 : Int32))), .val (.int (1 : Int32)), .val (.int (1 : Int32)), .unset] [(.int (1 : Int32))])) _
    refine XS.istore X6.here hx rfl (hb hby at_65) rfl (l' := #[.val (.int p1), .val (.int p2), .val (.int (p2 &&& (127 : Int32))), .val (.int (((p2.toUInt32 >>> ((7 : Int32) &&& 31).toUInt32).toInt32) &&& (65535 : Int32))), .val (.int (1 : Int32)), .val (.int (1 : Int32)), .val (.int (1 : Int32))]) rfl ?_
    show Steps p.tables e below (T6.setTop (mkF m 67 #[.val (.int p1), .val (.int p2), .val (.int (p2 &&& (127 : Int32))), .val (.int (((p2.toUInt32 >>> ((7 : Int32) &&& 31).toUInt32).toInt32) &&& (65535 : Int32))), .val (.int (1 : Int32)), .val (.int (1 : Int32)), .val (.int (1 : Int32))] [])) _
    refine XS.iload X6.here hx rfl (hb hby at_67) rfl ?_
    show Steps p.tables e below (T6.setTop (mkF m 69 #[.val (.int p1), .val (.int p2), .val (.int (p2 &&& (127 : Int32))), .val (.int (((p2.toUInt32 >>> ((7 : Int32) &&& 31).toUInt32).toInt32) &&& (65535 : Int32))), .val (.int (1 : Int32)), .val (.int (1 : Int32)), .val (.int (1 : Int32))] [(.int (1 : Int32))])) _
    refine XS.ifNo X6.here hx rfl (hb hby at_69) rfl ((if0 _ _).trans (feq (by decide : ¬ ((1 : Int32) = (0 : Int32)))).1) ?_
    show Steps p.tables e below (T6.setTop (mkF m 72 #[.val (.int p1), .val (.int p2), .val (.int (p2 &&& (127 : Int32))), .val (.int (((p2.toUInt32 >>> ((7 : Int32) &&& 31).toUInt32).toInt32) &&& (65535 : Int32))), .val (.int (1 : Int32)), .val (.int (1 : Int32)), .val (.int (1 : Int32))] [])) _
    refine XS.iload X6.here hx rfl (hb hby at_72) rfl ?_
    show Steps p.tables e below (T6.setTop (mkF m 74 #[.val (.int p1), .val (.int p2), .val (.int (p2 &&& (127 : Int32))), .val (.int (((p2.toUInt32 >>> ((7 : Int32) &&& 31).toUInt32).toInt32) &&& (65535 : Int32))), .val (.int (1 : Int32)), .val (.int (1 : Int32)), .val (.int (1 : Int32))] [(.int (1 : Int32))])) _
    refine XS.ifNo X6.here hx rfl (hb hby at_74) rfl ((if0 _ _).trans (feq (by decide : ¬ ((1 : Int32) = (0 : Int32)))).1) ?_
    show Steps p.tables e below (T6.setTop (mkF m 77 #[.val (.int p1), .val (.int p2), .val (.int (p2 &&& (127 : Int32))), .val (.int (((p2.toUInt32 >>> ((7 : Int32) &&& 31).toUInt32).toInt32) &&& (65535 : Int32))), .val (.int (1 : Int32)), .val (.int (1 : Int32)), .val (.int (1 : Int32))] [])) _
    refine XS.iload X6.here hx rfl (hb hby at_77) rfl ?_
    show Steps p.tables e below (T6.setTop (mkF m 79 #[.val (.int p1), .val (.int p2), .val (.int (p2 &&& (127 : Int32))), .val (.int (((p2.toUInt32 >>> ((7 : Int32) &&& 31).toUInt32).toInt32) &&& (65535 : Int32))), .val (.int (1 : Int32)), .val (.int (1 : Int32)), .val (.int (1 : Int32))] [(.int (1 : Int32))])) _
    refine XS.ifNo X6.here hx rfl (hb hby at_79) rfl ((if0 _ _).trans (feq (by decide : ¬ ((1 : Int32) = (0 : Int32)))).1) ?_
    show Steps p.tables e below (T6.setTop (mkF m 82 #[.val (.int p1), .val (.int p2), .val (.int (p2 &&& (127 : Int32))), .val (.int (((p2.toUInt32 >>> ((7 : Int32) &&& 31).toUInt32).toInt32) &&& (65535 : Int32))), .val (.int (1 : Int32)), .val (.int (1 : Int32)), .val (.int (1 : Int32))] [])) _
    refine XS.iconst X6.here hx rfl (hb hby at_82) ?_
    show Steps p.tables e below (T6.setTop (mkF m 83 #[.val (.int p1), .val (.int p2), .val (.int (p2 &&& (127 : Int32))), .val (.int (((p2.toUInt32 >>> ((7 : Int32) &&& 31).toUInt32).toInt32) &&& (65535 : Int32))), .val (.int (1 : Int32)), .val (.int (1 : Int32)), .val (.int (1 : Int32))] [(.int (1 : Int32))])) _
    refine XS.goto X6.here hx rfl (pc0 := 83) (pc' := 87) rfl (hb hby at_83) (by decide) (by decide) ?_
    show Steps p.tables e below (T6.setTop (mkF m 87 #[.val (.int p1), .val (.int p2), .val (.int (p2 &&& (127 : Int32))), .val (.int (((p2.toUInt32 >>> ((7 : Int32) &&& 31).toUInt32).toInt32) &&& (65535 : Int32))), .val (.int (1 : Int32)), .val (.int (1 : Int32)), .val (.int (1 : Int32))] [(.int (1 : Int32))])) _
    exact retN X6 hx (t := .boolean) Bd.returns (by simp) (hb hby at_87) hr
  · show Q0 Z p1 p2 h0 n0 _ T6.heap _
    rw [e6]
    refine ⟨?_, N6, rfl⟩
    rw [f0]
set_option maxRecDepth 65536 in
set_option maxHeartbeats 40000000 in
theorem comes_1 {Post : Tables → Env → Array Value → State → Outcome → State → Prop} (hpost : ∀ tb e args s v u, (limb_1_1.after args s (.returned v) u = true ∧ limb_1_2.after args s (.returned v) u = true ∧ True) → FrameEnd s (.returned v) u (Jvm.fieldLocs frame_1_writes args s ++ Jvm.arrayLocs frame_1_arrays args s ++ Jvm.staticLocs frame_1_statics s) 0 0 → Post tb e args s (.returned v) u) :
    ArmFor flags0 classFile x code maxLocals ret World_1 tables_1 room_1 Calls_1 rest_1 Pre_1 Post := by
  intro l hfl _ _ p e ha hc hk s m args below hf hA hF happ hP
  obtain ⟨hcalls, hrest, hpre⟩ := hP
  obtain ⟨-, -, -, hnamed, -, -, -, hat⟩ := (Spec.applies_iff hf).mp happ
  obtain ⟨hg, hn⟩ := and_e (Cond.before_iff.mp (show (Jvm.Cond.and given_1 narrow_1).before args s = true from hpre))
  obtain ⟨g1, g2⟩ := and_e hg
  obtain ⟨g3, g4⟩ := and_e g2
  obtain ⟨w0, w1, rfl⟩ : ∃ w0 w1 : Value, args = #[w0, w1] := by
    have hs : args.size = 2 := by simpa [Cond.value, given_1] using g1
    obtain ⟨L⟩ := args
    match L, hs with
    | [w0, w1], _ => exact ⟨w0, w1, rfl⟩
  have hw := fun d (hd : d ∈ tables_1) => atoms_spec (ws := Jvm.Cond.code x code maxLocals ret :: tables_1) hat d (List.mem_cons_of_mem _ hd)
  have hfit : Fit s := fun {y c} hc i hi => by
    obtain ⟨ha, rfl⟩ := Array.getElem?_eq_some_iff.mp hc
    have q := List.all_eq_true.mp ((Array.all_eq_true_iff_forall_mem.mp hF) _ (Array.getElem_mem ha)) i (List.mem_range.mpr hi)
    simpa [Array.getElem?_eq_getElem hi] using q
  obtain ⟨i0, ei0⟩ := is_v g3
  obtain rfl : w0 = (.int i0) := Option.some.inj ei0
  obtain ⟨i1, ei1⟩ := is_v g4
  obtain rfl : w1 = (.int i1) := Option.some.inj ei1
  obtain ⟨n, o, h1, h2, h3, v, L, rfl, hQ, hq⟩ := rm0 l s _ hw tables_1 i0 i1  s.heap s.heap.size (Nat.le_refl _)  p e ha hc hk s m _ below hf ((Spec.applies_iff_loose hf).mp happ).1 ⟨rfl, State.Warmed39.refl s, rfl⟩ trivial
  obtain ⟨hv, N, -⟩ := hQ
  rw [f0] at hv
  subst hv
  refine ⟨n, _, h1, h2, h3, hpost _ _ _ _ _ _ ⟨Cond.after_iff.mpr rfl, Cond.after_iff.mpr (eq_i res_at (Term.int_eval (1)) rfl), trivial⟩ ⟨hq.1, hq.2.1, (hq.2.2.sift fun y hy => Or.inr (N y hy)).mono (by decide) (by decide)⟩⟩
theorem main_1_1 : Claimed_1_1 := comes_1 fun _ _ _ _ _ _ h hF => ⟨h.1, hF⟩
theorem main_1_2 : Claimed_1_2 := comes_1 fun _ _ _ _ _ _ h hF => ⟨h.2.1, hF⟩
end Jvm.Pilot.@@N@@
namespace Jvm.Pilot.@@N@@
open Jvm Jvm.ClassFile Sem Op Lib Jvm.Free Jvm.Stand Jvm.Pilot.@@N@@.Jvm.D
/-! MADE BY PROGRAM (witnessworld.py) out of the Statement's table words and the real class files: 9 classes; the members and pool entries that the words name. The judged class is class 1, her method 2. -/
namespace start1
open Jvm.ClassFile
def u (s : String) : CpInfo := .utf8 (stringToUtf16 s)
/-- a pool by its gaps: so many unusable entries, then the entry; so many at the end -/
def gap : Nat → List CpInfo → List CpInfo
  | 0, r => r
  | n + 1, r => .unusable :: gap n r
def poolList (es : List (Nat × CpInfo)) (last : Nat) : List CpInfo := es.foldr (fun e r => gap e.1 (e.2 :: r)) (gap last [])
def pool (es : List (Nat × CpInfo)) (last : Nat) : Array CpInfo := ⟨poolList es last⟩
def fileOf (pool : Array CpInfo) (this : Nat) (attrs : Array Attribute := #[]) (ms : Array MethodInfo := #[]) (fl : Nat := 33) (sup : Nat := 0) (ifs : Array Nat := #[]) (fds : Array FieldInfo := #[]) : ClassFile where
  minorVersion := 0
  majorVersion := 65
  constantPool := pool
  accessFlags := fl
  thisClass := this
  superClass := sup
  interfaces := ifs
  fields := fds
  methods := ms
  attributes := attrs
def plain (name : String) (sup : Option ClassId) : Class where
  name := name
  kind := .ordinary
  loader := none
  accessFlags := 33
  super := sup
  interfaces := #[]
  cf := none
  fields := #[]
  methods := #[]
  instanceTypes := #[]
  staticTypes := #[]
  resolved := #[]
  callSites := []
  init := .initialized
  statics := none
  mirror := none

def pool0 : Array CpInfo := pool [(5, u "<init>"), (0, u "()V"), (1, .class_ 10), (1, u "java/lang/Object")] 113

def k0m0 : Method := { name := "<init>", desc := "()V", sig := { parameters := [], returnType := none }, accessFlags := 1, code := none }
/-- java/lang/Object -/
def k0 : Class := { plain "java/lang/Object" none with
  accessFlags := 33
  interfaces := #[]
  cf := some (fileOf pool0 8 #[] #[{ accessFlags := 1, nameIndex := 5, descriptorIndex := 6, attributes := #[] }] 33 0 #[] #[])
  fields := #[]
  methods := #[k0m0]
  instanceTypes := #[]
  staticTypes := #[]
  resolved := Array.replicate 124 none
  statics := none }

def pool1 : Array CpInfo := pool [(2, .class_ 4), (1, u "java/lang/Object"), (0, u "<init>"), (0, u "()V"), (0, .long 48), (1, .long 10), (1, .long 32), (1, .long 97), (1, .long 122), (1, .long 45), (1, .integer 65535), (0, .methodref 21 22), (0, .class_ 23), (0, .nameAndType 24 25), (0, u "com/example/lokey/lokey/yaml/PropertyReader"), (0, u "isWordCharacter"), (0, u "(I)Z"), (0, .methodref 27 28), (0, .class_ 29), (0, .nameAndType 30 25), (0, u "com/example/lokey/lokey/yaml/PropertyReaderIsWordCharacterPinLaw"), (0, u "expected"), (3, u "law"), (0, u "(II)Z")] 2

def k1m0 : Method := { name := "<init>", desc := "()V", sig := { parameters := [], returnType := none }, accessFlags := 2, code := none }
def k1c1 : Code := { maxStack := 4, maxLocals := 10, code := method_2_code, exceptionTable := #[], attributes := #[] }
def k1m1 : Method := { name := "expected", desc := "(I)Z", sig := { parameters := [.int], returnType := some .boolean }, accessFlags := 10, code := some k1c1 }
def k1c2 : Code := { maxStack := 2, maxLocals := 7, code := code, exceptionTable := #[], attributes := #[] }
def k1m2 : Method := { name := "law", desc := "(II)Z", sig := { parameters := [.int, .int], returnType := some .boolean }, accessFlags := 9, code := some k1c2 }
/-- com/example/lokey/lokey/yaml/PropertyReaderIsWordCharacterPinLaw -/
def k1 : Class := { plain "com/example/lokey/lokey/yaml/PropertyReaderIsWordCharacterPinLaw" (some 0) with
  accessFlags := 49
  interfaces := #[]
  cf := some (fileOf pool1 27 #[] #[{ accessFlags := 2, nameIndex := 5, descriptorIndex := 6, attributes := #[] }, { accessFlags := 10, nameIndex := 30, descriptorIndex := 25, attributes := #[] }, { accessFlags := 9, nameIndex := 34, descriptorIndex := 35, attributes := #[] }] 49 2 #[] #[])
  fields := #[]
  methods := #[k1m0, k1m1, k1m2]
  instanceTypes := #[]
  staticTypes := #[]
  resolved := Array.replicate 38 none
  statics := none }

def pool2 : Array CpInfo := pool [(2, .class_ 4), (1, u "java/lang/Object"), (6, .class_ 13), (1, u "com/example/lokey/lokey/yaml/PropertyReader"), (0, u "tagPrefixes"), (0, u "Ljava/util/Map;"), (2, u "tagsByShorthand"), (5, u "anchors"), (0, u "Ljava/util/Set;"), (2, u "cursor"), (0, u "Lcom/example/lokey/lokey/yaml/Cursor;"), (4, u "maxTagPrefixCharacters"), (3, u "J"), (2, u "countsEachNode"), (0, u "Z"), (10, u "olderVersion"), (0, u "Ljava/lang/String;"), (2, u "olderBreak"), (0, u "Lcom/example/lokey/lokey/input/TextPosition;"), (2, u "olderBreaksScanned"), (0, u "I"), (121, u "(I)Z"), (32, u "olderBreakCharacter"), (111, u "tagPrefixCharacters"), (9, u "isWordCharacter"), (2, u "DEFAULT_TAG_PREFIXES"), (55, u "URI_SCHEME"), (0, u "Ljava/util/regex/Pattern;")] 99

def k2c0 : Code := { maxStack := 2, maxLocals := 1, code := prog_125_method_24_code, exceptionTable := #[], attributes := #[] }
def k2m0 : Method := { name := "isWordCharacter", desc := "(I)Z", sig := { parameters := [.int], returnType := some .boolean }, accessFlags := 8, code := some k2c0 }
/-- com/example/lokey/lokey/yaml/PropertyReader -/
def k2 : Class := { plain "com/example/lokey/lokey/yaml/PropertyReader" (some 0) with
  accessFlags := 48
  interfaces := #[]
  cf := some (fileOf pool2 11 #[] #[{ accessFlags := 8, nameIndex := 339, descriptorIndex := 184, attributes := #[] }] 48 2 #[] #[{ accessFlags := 26, nameIndex := 342, descriptorIndex := 15, attributes := #[] }, { accessFlags := 24, nameIndex := 398, descriptorIndex := 399, attributes := #[] }, { accessFlags := 18, nameIndex := 28, descriptorIndex := 29, attributes := #[] }, { accessFlags := 18, nameIndex := 34, descriptorIndex := 38, attributes := #[] }, { accessFlags := 18, nameIndex := 41, descriptorIndex := 42, attributes := #[] }, { accessFlags := 18, nameIndex := 14, descriptorIndex := 15, attributes := #[] }, { accessFlags := 18, nameIndex := 18, descriptorIndex := 15, attributes := #[] }, { accessFlags := 18, nameIndex := 24, descriptorIndex := 25, attributes := #[] }, { accessFlags := 2, nameIndex := 53, descriptorIndex := 54, attributes := #[] }, { accessFlags := 2, nameIndex := 61, descriptorIndex := 62, attributes := #[] }, { accessFlags := 2, nameIndex := 57, descriptorIndex := 58, attributes := #[] }, { accessFlags := 2, nameIndex := 217, descriptorIndex := 62, attributes := #[] }, { accessFlags := 2, nameIndex := 329, descriptorIndex := 38, attributes := #[] }])
  fields := #[{ name := "DEFAULT_TAG_PREFIXES", type := (.object "java/util/Map"), accessFlags := 26, slot := 0, constantValue := 0 }, { name := "URI_SCHEME", type := (.object "java/util/regex/Pattern"), accessFlags := 24, slot := 1, constantValue := 0 }, { name := "cursor", type := (.object "com/example/lokey/lokey/yaml/Cursor"), accessFlags := 18, slot := 0, constantValue := 0 }, { name := "maxTagPrefixCharacters", type := .long, accessFlags := 18, slot := 1, constantValue := 0 }, { name := "countsEachNode", type := .boolean, accessFlags := 18, slot := 2, constantValue := 0 }, { name := "tagPrefixes", type := (.object "java/util/Map"), accessFlags := 18, slot := 3, constantValue := 0 }, { name := "tagsByShorthand", type := (.object "java/util/Map"), accessFlags := 18, slot := 4, constantValue := 0 }, { name := "anchors", type := (.object "java/util/Set"), accessFlags := 18, slot := 5, constantValue := 0 }, { name := "olderVersion", type := (.object "java/lang/String"), accessFlags := 2, slot := 6, constantValue := 0 }, { name := "olderBreaksScanned", type := .int, accessFlags := 2, slot := 7, constantValue := 0 }, { name := "olderBreak", type := (.object "com/example/lokey/lokey/input/TextPosition"), accessFlags := 2, slot := 8, constantValue := 0 }, { name := "olderBreakCharacter", type := .int, accessFlags := 2, slot := 9, constantValue := 0 }, { name := "tagPrefixCharacters", type := .long, accessFlags := 2, slot := 10, constantValue := 0 }]
  methods := #[k2m0]
  instanceTypes := #[(.object "com/example/lokey/lokey/yaml/Cursor"), .long, .boolean, (.object "java/util/Map"), (.object "java/util/Map"), (.object "java/util/Set"), (.object "java/lang/String"), .int, (.object "com/example/lokey/lokey/input/TextPosition"), .int, .long]
  staticTypes := #[(.object "java/util/Map"), (.object "java/util/regex/Pattern")]
  resolved := Array.replicate 499 none
  statics := none }

def pool3 : Array CpInfo := pool [(1, u "java/lang/Cloneable"), (0, .class_ 1), (0, u "java/lang/Object"), (0, .class_ 3)] 3

/-- java/lang/Cloneable -/
def k3 : Class := { plain "java/lang/Cloneable" (some 0) with
  accessFlags := 1537
  interfaces := #[]
  cf := some (fileOf pool3 2 #[] #[] 1537 4 #[] #[])
  fields := #[]
  methods := #[]
  instanceTypes := #[]
  staticTypes := #[]
  resolved := Array.replicate 8 none
  statics := none }

def pool4 : Array CpInfo := pool [(1, u "java/io/Serializable"), (0, .class_ 1), (0, u "java/lang/Object"), (0, .class_ 3)] 3

/-- java/io/Serializable -/
def k4 : Class := { plain "java/io/Serializable" (some 0) with
  accessFlags := 1537
  interfaces := #[]
  cf := some (fileOf pool4 2 #[] #[] 1537 4 #[] #[])
  fields := #[]
  methods := #[]
  instanceTypes := #[]
  staticTypes := #[]
  resolved := Array.replicate 8 none
  statics := none }

/-- the primitive byte -/
def k5 : Class := { plain "byte" none with kind := .primitive 'B', accessFlags := 0x411 }
/-- [B -/
def k6 : Class := { plain "[B" (some 0) with kind := .array 5 .byte, interfaces := #[3, 4], accessFlags := 1041 }

/-- the primitive int -/
def k7 : Class := { plain "int" none with kind := .primitive 'I', accessFlags := 0x411 }
/-- [I -/
def k8 : Class := { plain "[I" (some 0) with kind := .array 7 .int, interfaces := #[3, 4], accessFlags := 1041 }

def heap : Heap := #[]
def classes : Array Class := #[k0, k1, k2, k3, k4, k5, k6, k7, k8]
def interned : List (Array UInt16 × Addr) := []
def slotsUsed : Nat := 0
def theMethod : MethodId := ⟨1, 2⟩
def args0 : Array Value := #[.int 65, .int 48]
def aboutOver (below : List Frame) : State where
  vm := { classes := classes, interned := interned.toArray }
  heap := heap
  slotsUsed := slotsUsed
  threads := #[{ frames := .invoking theMethod args0 :: below }]
def below0 : List Frame := [.native { method := ⟨0, 0⟩, args := #[] }]
def about1 : State := aboutOver below0
def p0 : Program := .bare "" "" ""
def e0 : Env := launch0.env 0 0 0
theorem w_frames : about1.frames = Frame.invoking theMethod args0 :: below0 := rfl
set_option maxRecDepth 65536 in
theorem w_args : argsFit about1.vm theMethod args0 = true := by decide +kernel
set_option maxRecDepth 65536 in
theorem w_heap : heapFits about1 = true := by decide +kernel
set_option maxRecDepth 65536 in
theorem w_runnable : about1.curStatus? = some .runnable := by decide +kernel
set_option maxRecDepth 65536 in
theorem w_alone : about1.alone = true := by decide +kernel
set_option maxRecDepth 65536 in
theorem w_named : about1.methodNamed? x = some theMethod := by decide +kernel
set_option maxRecDepth 65536 in
theorem w_hears : about1.hears theMethod below0 = true := by decide +kernel
set_option maxRecDepth 65536 in
theorem w_ripe : about1.ripe theMethod args0 below0 = true := by decide +kernel
theorem w_running : about1.status = .running := rfl
set_option maxRecDepth 65536 in
theorem w_room : about1.hasRoom e0.platform room_1 = true :=
  launch0.hasRoom_least _ room_1 (by decide +kernel) (by decide +kernel) (by decide +kernel) (by decide +kernel) (by decide +kernel) (by decide +kernel)
theorem allAtoms_all (ts : List Jvm.Cond) (a : Array Jvm.Value) (st : Jvm.State) : (allAtoms ts).before a st = ts.all (fun c => c.before a st) := by
  induction ts with
  | nil => rfl
  | cons c t ih =>
    show (Jvm.Cond.and c (allAtoms t)).before a st = _
    rw [Jvm.Cond.before_and, ih, List.all_cons]
def words1 : List Jvm.Cond := Jvm.Cond.code x code maxLocals ret :: tables_1
/-- a 'code' word, met by the world's own term for the bytes: nothing is compared byte by byte -/
theorem code_word {y : MethodName} {bytes : ByteArray} {mx : Nat} {rt : Option FieldType} {a : Array Value} {s : State} {m : MethodId} {meth : Method} {c : Code} (h1 : s.methodNamed? y = some m) (h2 : s.vm.method? m = some meth) (h3 : meth.code = some c) (h4 : c.code = bytes)
    (h5 : (c.maxLocals == mx && c.exceptionTable.isEmpty && decide (c.maxStack ≤ mostOperands) && decide (meth.sig.returnType = rt) && !meth.locks && decide (parseMethodDescriptor y.desc = some meth.sig)) = true) : (Jvm.Cond.code y bytes mx rt).before a s = true := by
  simp only [Bool.and_eq_true, beq_iff_eq, Bool.not_eq_true', decide_eq_true_eq] at h5
  obtain ⟨⟨⟨⟨⟨g1, g2⟩, g3⟩, g4⟩, g5⟩, g6⟩ := h5
  simp [Cond.before, Cond.holds, Cond.value, h1, h2, h3, h4, g1, g2, g3, g4, g5, g6]
def isCode : Jvm.Cond → Bool
  | .code _ _ _ _ => true
  | _ => false
theorem all_split {L : List Jvm.Cond} {P : Jvm.Cond → Bool} (h1 : L.all (fun c => isCode c || P c) = true) (h2 : ∀ c ∈ L.filter isCode, P c = true) : L.all P = true := by
  refine List.all_eq_true.mpr fun c hc => ?_
  have h := List.all_eq_true.mp h1 c hc
  rcases Bool.eq_false_or_eq_true (isCode c) with hi | hi
  · exact h2 c (List.mem_filter.mpr ⟨hc, hi⟩)
  · simpa [hi] using h
set_option maxRecDepth 65536 in
theorem w_c0 : (Jvm.Cond.code x code maxLocals ret).before args0 about1 = true := code_word (m := ⟨1, 2⟩) (meth := k1m2) (c := k1c2) (by decide +kernel) rfl rfl rfl (by decide +kernel)
set_option maxRecDepth 65536 in
theorem w_c1 : (Jvm.Cond.code ({ cls := "com/example/lokey/lokey/yaml/PropertyReader", name := "isWordCharacter", desc := "(I)Z" } : Jvm.MethodName) prog_125_method_24_code (1 : Nat) (Option.some Jvm.ClassFile.FieldType.boolean)).before args0 about1 = true := code_word (m := ⟨2, 0⟩) (meth := k2m0) (c := k2c0) (by decide +kernel) rfl rfl rfl (by decide +kernel)
set_option maxRecDepth 65536 in
theorem w_c2 : (Jvm.Cond.code ({ cls := "com/example/lokey/lokey/yaml/PropertyReaderIsWordCharacterPinLaw", name := "expected", desc := "(I)Z" } : Jvm.MethodName) method_2_code (10 : Nat) (Option.some Jvm.ClassFile.FieldType.boolean)).before args0 about1 = true := code_word (m := ⟨1, 1⟩) (meth := k1m1) (c := k1c1) (by decide +kernel) rfl rfl rfl (by decide +kernel)
def codes1 : List Jvm.Cond := [Jvm.Cond.code x code maxLocals ret, Jvm.Cond.code ({ cls := "com/example/lokey/lokey/yaml/PropertyReader", name := "isWordCharacter", desc := "(I)Z" } : Jvm.MethodName) prog_125_method_24_code (1 : Nat) (Option.some Jvm.ClassFile.FieldType.boolean), Jvm.Cond.code ({ cls := "com/example/lokey/lokey/yaml/PropertyReaderIsWordCharacterPinLaw", name := "expected", desc := "(I)Z" } : Jvm.MethodName) method_2_code (10 : Nat) (Option.some Jvm.ClassFile.FieldType.boolean)]
set_option maxRecDepth 65536 in
theorem codes_eq : words1.filter isCode = codes1 := rfl
theorem w_codes : ∀ c ∈ words1.filter isCode, c.before args0 about1 = true := by
  rw [codes_eq]
  intro c hc
  simp only [codes1, List.mem_cons, List.not_mem_nil, or_false] at hc
  rcases hc with rfl | rfl | rfl
  · exact w_c0
  · exact w_c1
  · exact w_c2
set_option maxRecDepth 65536 in
theorem w_t1 : words1.all (fun c => isCode c || c.before args0 about1) = true := by decide +kernel
theorem w_tables : (allAtoms (Jvm.Cond.code x code maxLocals ret :: tables_1)).before args0 about1 = true := by
  rw [allAtoms_all]
  show words1.all (fun c => c.before args0 about1) = true
  refine all_split ?_ w_codes
  rw [w_t1]
set_option maxRecDepth 65536 in
theorem w_case : (Jvm.Cond.and given_1 narrow_1).before args0 about1 = true := by decide +kernel
theorem w_applies : (headSpec (Jvm.Cond.code x code maxLocals ret :: tables_1) room_1).applies x e0.platform about1 = true :=
  (Spec.applies_iff w_frames).mpr ⟨w_running, w_runnable, w_alone, w_named, w_hears, w_ripe, w_room, w_tables⟩
theorem atStart : AtStart classFile x code maxLocals ret World_1 tables_1 room_1 Calls_1 rest_1 Pre_1 launch0 p0 e0 about1 theMethod args0 below0 :=
  ⟨lists_1, trivial, launch0.admits_env _ _ _, launch0.least_env, fairChoices_fair.cas, fairChoices_fair.clock, w_frames, w_args, w_heap, w_applies, trivial, trivial, w_case⟩
end start1
theorem witness_1 : WitnessClaimed_1 := ⟨start1.p0, start1.e0, start1.about1, start1.theMethod, start1.args0, start1.below0, start1.atStart⟩
end Jvm.Pilot.@@N@@
