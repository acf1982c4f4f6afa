import JvmDerived
import JvmDerived.Pilot.@@N@@Statement
import JvmDerived.Pilot.@@N@@Code
set_option linter.unusedVariables false
set_option linter.unusedSimpArgs false
namespace Jvm.RoadKit
open Sem ClassFile Op Lib Jvm.Stand Jvm.Free Jvm.LawKit
section New
variable {p : Program} {l : Launch} {e : Env} {R : Room} {s : State} {m : MethodId} {args : Array Value} {below : List Frame} {meth : Method} {c : Code} {T : State} {locs : List Loc} {cells slots : Nat}
theorem retI (X : Stand p l e R s m args below meth c T locs cells slots) (hx : p.tables.exec = Jvm.exec) {pc : Nat} {Ls : Array Slot} {z : Int32} {rest : List Value} (hret : meth.sig.returnType = some .int) (hd : decode c.code pc = .ok (.ireturn, 1)) {fs : List Frame}
    (hl : ∀ (f : JFrame) (acts : List Action), f.method = m → f.locked = none → f.entered = [] → (doReturn e (T.setTop f) acts (some (.int z))).1 = T.setFrames fs) : Steps p.tables e below (T.setTop (mkF m pc Ls (.int z :: rest))) (T.setFrames fs) := by
  have hm' : T.vm.method? m = some meth := X.method'
  have hn : narrow .int (.int z) = .int z := rfl
  show Steps p.tables e below (T.setTop { method := m, pc := pc, locals := Ls, stack := _ :: rest, locked := none }) _
  jvm_step X.here [X.here.top, hx, hd, hm', hret, hn]
  first | (intro acts; rw [hl _ acts rfl rfl rfl]) | rw [hl _ _ rfl rfl rfl]
  exact Steps.refl _
end New
end Jvm.RoadKit
namespace Jvm.Pilot.@@N@@
open Jvm Jvm.ClassFile Sem Op Lib Jvm.Free Jvm.Stand Jvm.LawKit Jvm.RoadKit Bundle Jvm.Pilot.@@N@@.Jvm.D
theorem d2_0 : decode prog_83_method_18_code 0 = .ok (.iload_n 0, 1) := by decide +kernel
theorem d2_1 : decode prog_83_method_18_code 1 = .ok (.bipush 65, 2) := by decide +kernel
theorem d2_3 : decode prog_83_method_18_code 3 = .ok (.if_icmp .lt 9, 3) := by decide +kernel
theorem d2_6 : decode prog_83_method_18_code 6 = .ok (.iload_n 0, 1) := by decide +kernel
theorem d2_7 : decode prog_83_method_18_code 7 = .ok (.bipush 90, 2) := by decide +kernel
theorem d2_9 : decode prog_83_method_18_code 9 = .ok (.if_icmp .le 39, 3) := by decide +kernel
theorem d2_12 : decode prog_83_method_18_code 12 = .ok (.iload_n 0, 1) := by decide +kernel
theorem d2_13 : decode prog_83_method_18_code 13 = .ok (.bipush 97, 2) := by decide +kernel
theorem d2_15 : decode prog_83_method_18_code 15 = .ok (.if_icmp .lt 9, 3) := by decide +kernel
theorem d2_18 : decode prog_83_method_18_code 18 = .ok (.iload_n 0, 1) := by decide +kernel
theorem d2_19 : decode prog_83_method_18_code 19 = .ok (.bipush 122, 2) := by decide +kernel
theorem d2_21 : decode prog_83_method_18_code 21 = .ok (.if_icmp .le 27, 3) := by decide +kernel
theorem d2_24 : decode prog_83_method_18_code 24 = .ok (.iload_n 0, 1) := by decide +kernel
theorem d2_25 : decode prog_83_method_18_code 25 = .ok (.bipush 48, 2) := by decide +kernel
theorem d2_27 : decode prog_83_method_18_code 27 = .ok (.if_icmp .lt 9, 3) := by decide +kernel
theorem d2_30 : decode prog_83_method_18_code 30 = .ok (.iload_n 0, 1) := by decide +kernel
theorem d2_31 : decode prog_83_method_18_code 31 = .ok (.bipush 57, 2) := by decide +kernel
theorem d2_33 : decode prog_83_method_18_code 33 = .ok (.if_icmp .le 15, 3) := by decide +kernel
theorem d2_36 : decode prog_83_method_18_code 36 = .ok (.iload_n 0, 1) := by decide +kernel
theorem d2_37 : decode prog_83_method_18_code 37 = .ok (.bipush 45, 2) := by decide +kernel
theorem d2_39 : decode prog_83_method_18_code 39 = .ok (.if_icmp .eq 9, 3) := by decide +kernel
theorem d2_42 : decode prog_83_method_18_code 42 = .ok (.iload_n 0, 1) := by decide +kernel
theorem d2_43 : decode prog_83_method_18_code 43 = .ok (.bipush 95, 2) := by decide +kernel
theorem d2_45 : decode prog_83_method_18_code 45 = .ok (.if_icmp .ne 7, 3) := by decide +kernel
theorem d2_48 : decode prog_83_method_18_code 48 = .ok (.iconst 1, 1) := by decide +kernel
theorem d2_49 : decode prog_83_method_18_code 49 = .ok (.goto 4, 3) := by decide +kernel
theorem d2_52 : decode prog_83_method_18_code 52 = .ok (.iconst 0, 1) := by decide +kernel
theorem d2_53 : decode prog_83_method_18_code 53 = .ok (.ireturn, 1) := by decide +kernel
theorem pn_2 : plainName "com/example/lokey/lokey/toml/TomlCursor" = true := by first | (simp [plainName, overriddenIn]; done) | decide +kernel
theorem ef_2 (m : MethodId) (x0 : Int32) : entryFrame m #[(.int x0)] 1 = mkF m 0 #[.val (.int x0)] [] := by first | (simp [entryFrame, mkF, argsToLocals, Value.category]; done) | rfl
def f2 (p1 : Int32) : Int32 := (if p1 < (65 : Int32) then (if p1 < (97 : Int32) then (if p1 < (48 : Int32) then (if p1 = (45 : Int32) then (1 : Int32) else (if p1 = (95 : Int32) then (1 : Int32) else (0 : Int32))) else (if (57 : Int32) < p1 then (if p1 = (45 : Int32) then (1 : Int32) else (if p1 = (95 : Int32) then (1 : Int32) else (0 : Int32))) else (1 : Int32))) else (if (122 : Int32) < p1 then (if p1 < (48 : Int32) then (if p1 = (45 : Int32) then (1 : Int32) else (if p1 = (95 : Int32) then (1 : Int32) else (0 : Int32))) else (if (57 : Int32) < p1 then (if p1 = (45 : Int32) then (1 : Int32) else (if p1 = (95 : Int32) then (1 : Int32) else (0 : Int32))) else (1 : Int32))) else (1 : Int32))) else (if (90 : Int32) < p1 then (if p1 < (97 : Int32) then (if p1 < (48 : Int32) then (if p1 = (45 : Int32) then (1 : Int32) else (if p1 = (95 : Int32) then (1 : Int32) else (0 : Int32))) else (if (57 : Int32) < p1 then (if p1 = (45 : Int32) then (1 : Int32) else (if p1 = (95 : Int32) then (1 : Int32) else (0 : Int32))) else (1 : Int32))) else (if (122 : Int32) < p1 then (if p1 < (48 : Int32) then (if p1 = (45 : Int32) then (1 : Int32) else (if p1 = (95 : Int32) then (1 : Int32) else (0 : Int32))) else (if (57 : Int32) < p1 then (if p1 = (45 : Int32) then (1 : Int32) else (if p1 = (95 : Int32) then (1 : Int32) else (0 : Int32))) else (1 : Int32))) else (1 : Int32))) else (1 : Int32)))
def Q2 (Z : State) (p1 : Int32) (h0 : Heap) (n0 : Nat) (v : Option Value) (h : Heap) (L : List Loc) : Prop := v = some (.int (f2 p1)) ∧ Fr n0 L ∧ h = h0
set_option maxRecDepth 65536 in
set_option maxHeartbeats 40000000 in
theorem rm2 (l : Launch) (Z : State) (a0 : Array Value) (hw : ∀ d ∈ tables_1, d.before a0 Z = true) (ws : List Jvm.Cond) (p1 : Int32) (h0 : Heap) (n0 : Nat) (Z0 : n0 ≤ h0.size) :
    MetFree l (⟨"com/example/lokey/lokey/toml/TomlCursor", "isBareKeyCharacter", "(I)Z"⟩ : MethodName) (head1 (Jvm.Cond.code (⟨"com/example/lokey/lokey/toml/TomlCursor", "isBareKeyCharacter", "(I)Z"⟩ : MethodName) prog_83_method_18_code 1 (some .boolean) :: ws) ({ frames := 0, cells := 0, slots := 0, locals := 0 } : Room)) (fun a U => a = #[(.int p1)] ∧ Z.Warmed39 U.vm ∧ U.heap = h0) (fun _ _ _ _ _ => True) (fun _ U o U' => ∃ v L, o = .returned v ∧ Q2 Z p1 h0 n0 v U'.heap L ∧ FrameEnd U o U' L ({ frames := 0, cells := 0, slots := 0, locals := 0 } : Room).cells ({ frames := 0, cells := 0, slots := 0, locals := 0 } : Room).slots) := by
  refine MetFree.of_bodySF (plainFor_of_name pn_2) hisR ?_
  intro p e s m args below meth c s₁ Bd hml0 hP hK
  obtain ⟨rfl, hZ, hh⟩ := hP
  have hx := Bd.exec
  have hby := Bd.bytes
  have hml : c.maxLocals = 1 := hml0
  have hown : s.vm.findClass "com/example/lokey/lokey/toml/TomlCursor" = some m.cls := findClass_of_methodNamed Bd.named
  have hnm := (name_of_methodNamed Bd.named Bd.method).1
  have X0 : Stand p l e ({ frames := 0, cells := 0, slots := 0, locals := 0 } : Room) s m #[(.int p1)] below meth c s₁ [] 0 0 := Stand.of_body Bd
  have e0 : s₁.heap = h0 := by rw [← hh, Bd.state]; rfl
  have N0 := Fr.nil n0
  have pre0 : ∀ t, Steps p.tables e below (s₁.setTop (mkF m 0 #[.val (.int p1)] [])) t → Steps p.tables e below (s₁.setTop (entryFrame m #[(.int p1)] 1)) t := fun t k => castTop (ef_2 m p1) k
  have pre1 : ∀ t, Steps p.tables e below (s₁.setTop (mkF m 3 #[.val (.int p1)] [(.int (65 : Int32)), (.int p1)])) t → Steps p.tables e below (s₁.setTop (entryFrame m #[(.int p1)] 1)) t := fun t kt => by
    refine pre0 _ ?_
    show Steps p.tables e below (s₁.setTop (mkF m 0 #[.val (.int p1)] [])) _
    refine XS.iloadN X0.here hx rfl (hb hby d2_0) rfl ?_
    show Steps p.tables e below (s₁.setTop (mkF m 1 #[.val (.int p1)] [(.int p1)])) _
    refine XS.bipush X0.here hx rfl (hb hby d2_1) ?_
    exact kt
  by_cases hc2 : p1 < (65 : Int32)
  · have pre3 : ∀ t, Steps p.tables e below (s₁.setTop (mkF m 15 #[.val (.int p1)] [(.int (97 : Int32)), (.int p1)])) t → Steps p.tables e below (s₁.setTop (entryFrame m #[(.int p1)] 1)) t := fun t kt => by
      refine pre1 _ ?_
      show Steps p.tables e below (s₁.setTop (mkF m 3 #[.val (.int p1)] [(.int (65 : Int32)), (.int p1)])) _
      refine XS.icmpYes X0.here hx rfl (pc0 := 3) (pc' := 12) rfl (hb hby d2_3) rfl (tlt hc2).1 (by decide) (by decide) ?_
      show Steps p.tables e below (s₁.setTop (mkF m 12 #[.val (.int p1)] [])) _
      refine XS.iloadN X0.here hx rfl (hb hby d2_12) rfl ?_
      show Steps p.tables e below (s₁.setTop (mkF m 13 #[.val (.int p1)] [(.int p1)])) _
      refine XS.bipush X0.here hx rfl (hb hby d2_13) ?_
      exact kt
    by_cases hc4 : p1 < (97 : Int32)
    · have pre5 : ∀ t, Steps p.tables e below (s₁.setTop (mkF m 27 #[.val (.int p1)] [(.int (48 : Int32)), (.int p1)])) t → Steps p.tables e below (s₁.setTop (entryFrame m #[(.int p1)] 1)) t := fun t kt => by
        refine pre3 _ ?_
        show Steps p.tables e below (s₁.setTop (mkF m 15 #[.val (.int p1)] [(.int (97 : Int32)), (.int p1)])) _
        refine XS.icmpYes X0.here hx rfl (pc0 := 15) (pc' := 24) rfl (hb hby d2_15) rfl (tlt hc4).1 (by decide) (by decide) ?_
        show Steps p.tables e below (s₁.setTop (mkF m 24 #[.val (.int p1)] [])) _
        refine XS.iloadN X0.here hx rfl (hb hby d2_24) rfl ?_
        show Steps p.tables e below (s₁.setTop (mkF m 25 #[.val (.int p1)] [(.int p1)])) _
        refine XS.bipush X0.here hx rfl (hb hby d2_25) ?_
        exact kt
      by_cases hc6 : p1 < (48 : Int32)
      · have pre7 : ∀ t, Steps p.tables e below (s₁.setTop (mkF m 39 #[.val (.int p1)] [(.int (45 : Int32)), (.int p1)])) t → Steps p.tables e below (s₁.setTop (entryFrame m #[(.int p1)] 1)) t := fun t kt => by
          refine pre5 _ ?_
          show Steps p.tables e below (s₁.setTop (mkF m 27 #[.val (.int p1)] [(.int (48 : Int32)), (.int p1)])) _
          refine XS.icmpYes X0.here hx rfl (pc0 := 27) (pc' := 36) rfl (hb hby d2_27) rfl (tlt hc6).1 (by decide) (by decide) ?_
          show Steps p.tables e below (s₁.setTop (mkF m 36 #[.val (.int p1)] [])) _
          refine XS.iloadN X0.here hx rfl (hb hby d2_36) rfl ?_
          show Steps p.tables e below (s₁.setTop (mkF m 37 #[.val (.int p1)] [(.int p1)])) _
          refine XS.bipush X0.here hx rfl (hb hby d2_37) ?_
          exact kt
        by_cases hc8 : p1 = (45 : Int32)
        · obtain ⟨fs, hr, hrun, hended, hW, hsame⟩ := X0.leave (v := some (.int (1 : Int32))) (fun h => by rw [Bd.returns] at h; cases h)
          refine ⟨_, _, pre7 _ ?_, hrun, hended, _, _, rfl, ?_, ⟨_, rfl⟩, hW, hsame.mono (by decide) (by decide)⟩
          · show Steps p.tables e below (s₁.setTop (mkF m 39 #[.val (.int p1)] [(.int (45 : Int32)), (.int p1)])) _
            refine XS.icmpYes X0.here hx rfl (pc0 := 39) (pc' := 48) rfl (hb hby d2_39) rfl (teq hc8).1 (by decide) (by decide) ?_
            show Steps p.tables e below (s₁.setTop (mkF m 48 #[.val (.int p1)] [])) _
            refine XS.iconst X0.here hx rfl (hb hby d2_48) ?_
            show Steps p.tables e below (s₁.setTop (mkF m 49 #[.val (.int p1)] [(.int (1 : Int32))])) _
            refine XS.goto X0.here hx rfl (pc0 := 49) (pc' := 53) rfl (hb hby d2_49) (by decide) (by decide) ?_
            show Steps p.tables e below (s₁.setTop (mkF m 53 #[.val (.int p1)] [(.int (1 : Int32))])) _
            exact retN X0 hx (t := .boolean) Bd.returns (by simp) (hb hby d2_53) hr
          · show Q2 Z p1 h0 n0 _ s₁.heap _
            rw [e0]
            refine ⟨?_, N0, rfl⟩
            rw [f2, if_pos hc2, if_pos hc4, if_pos hc6, if_pos hc8]
        · have pre9 : ∀ t, Steps p.tables e below (s₁.setTop (mkF m 45 #[.val (.int p1)] [(.int (95 : Int32)), (.int p1)])) t → Steps p.tables e below (s₁.setTop (entryFrame m #[(.int p1)] 1)) t := fun t kt => by
            refine pre7 _ ?_
            show Steps p.tables e below (s₁.setTop (mkF m 39 #[.val (.int p1)] [(.int (45 : Int32)), (.int p1)])) _
            refine XS.icmpNo X0.here hx rfl (hb hby d2_39) rfl (feq hc8).1 ?_
            show Steps p.tables e below (s₁.setTop (mkF m 42 #[.val (.int p1)] [])) _
            refine XS.iloadN X0.here hx rfl (hb hby d2_42) rfl ?_
            show Steps p.tables e below (s₁.setTop (mkF m 43 #[.val (.int p1)] [(.int p1)])) _
            refine XS.bipush X0.here hx rfl (hb hby d2_43) ?_
            exact kt
          by_cases hc10 : p1 = (95 : Int32)
          · obtain ⟨fs, hr, hrun, hended, hW, hsame⟩ := X0.leave (v := some (.int (1 : Int32))) (fun h => by rw [Bd.returns] at h; cases h)
            refine ⟨_, _, pre9 _ ?_, hrun, hended, _, _, rfl, ?_, ⟨_, rfl⟩, hW, hsame.mono (by decide) (by decide)⟩
            · show Steps p.tables e below (s₁.setTop (mkF m 45 #[.val (.int p1)] [(.int (95 : Int32)), (.int p1)])) _
              refine XS.icmpNo X0.here hx rfl (hb hby d2_45) rfl (teq hc10).2 ?_
              show Steps p.tables e below (s₁.setTop (mkF m 48 #[.val (.int p1)] [])) _
              refine XS.iconst X0.here hx rfl (hb hby d2_48) ?_
              show Steps p.tables e below (s₁.setTop (mkF m 49 #[.val (.int p1)] [(.int (1 : Int32))])) _
              refine XS.goto X0.here hx rfl (pc0 := 49) (pc' := 53) rfl (hb hby d2_49) (by decide) (by decide) ?_
              show Steps p.tables e below (s₁.setTop (mkF m 53 #[.val (.int p1)] [(.int (1 : Int32))])) _
              exact retN X0 hx (t := .boolean) Bd.returns (by simp) (hb hby d2_53) hr
            · show Q2 Z p1 h0 n0 _ s₁.heap _
              rw [e0]
              refine ⟨?_, N0, rfl⟩
              rw [f2, if_pos hc2, if_pos hc4, if_pos hc6, if_neg hc8, if_pos hc10]
          · obtain ⟨fs, hr, hrun, hended, hW, hsame⟩ := X0.leave (v := some (.int (0 : Int32))) (fun h => by rw [Bd.returns] at h; cases h)
            refine ⟨_, _, pre9 _ ?_, hrun, hended, _, _, rfl, ?_, ⟨_, rfl⟩, hW, hsame.mono (by decide) (by decide)⟩
            · show Steps p.tables e below (s₁.setTop (mkF m 45 #[.val (.int p1)] [(.int (95 : Int32)), (.int p1)])) _
              refine XS.icmpYes X0.here hx rfl (pc0 := 45) (pc' := 52) rfl (hb hby d2_45) rfl (feq hc10).2 (by decide) (by decide) ?_
              show Steps p.tables e below (s₁.setTop (mkF m 52 #[.val (.int p1)] [])) _
              refine XS.iconst X0.here hx rfl (hb hby d2_52) ?_
              show Steps p.tables e below (s₁.setTop (mkF m 53 #[.val (.int p1)] [(.int (0 : Int32))])) _
              exact retN X0 hx (t := .boolean) Bd.returns (by simp) (hb hby d2_53) hr
            · show Q2 Z p1 h0 n0 _ s₁.heap _
              rw [e0]
              refine ⟨?_, N0, rfl⟩
              rw [f2, if_pos hc2, if_pos hc4, if_pos hc6, if_neg hc8, if_neg hc10]
      · have pre11 : ∀ t, Steps p.tables e below (s₁.setTop (mkF m 33 #[.val (.int p1)] [(.int (57 : Int32)), (.int p1)])) t → Steps p.tables e below (s₁.setTop (entryFrame m #[(.int p1)] 1)) t := fun t kt => by
          refine pre5 _ ?_
          show Steps p.tables e below (s₁.setTop (mkF m 27 #[.val (.int p1)] [(.int (48 : Int32)), (.int p1)])) _
          refine XS.icmpNo X0.here hx rfl (hb hby d2_27) rfl (flt hc6).1 ?_
          show Steps p.tables e below (s₁.setTop (mkF m 30 #[.val (.int p1)] [])) _
          refine XS.iloadN X0.here hx rfl (hb hby d2_30) rfl ?_
          show Steps p.tables e below (s₁.setTop (mkF m 31 #[.val (.int p1)] [(.int p1)])) _
          refine XS.bipush X0.here hx rfl (hb hby d2_31) ?_
          exact kt
        by_cases hc12 : (57 : Int32) < p1
        · have pre13 : ∀ t, Steps p.tables e below (s₁.setTop (mkF m 39 #[.val (.int p1)] [(.int (45 : Int32)), (.int p1)])) t → Steps p.tables e below (s₁.setTop (entryFrame m #[(.int p1)] 1)) t := fun t kt => by
            refine pre11 _ ?_
            show Steps p.tables e below (s₁.setTop (mkF m 33 #[.val (.int p1)] [(.int (57 : Int32)), (.int p1)])) _
            refine XS.icmpNo X0.here hx rfl (hb hby d2_33) rfl (tlt hc12).2.2.2 ?_
            show Steps p.tables e below (s₁.setTop (mkF m 36 #[.val (.int p1)] [])) _
            refine XS.iloadN X0.here hx rfl (hb hby d2_36) rfl ?_
            show Steps p.tables e below (s₁.setTop (mkF m 37 #[.val (.int p1)] [(.int p1)])) _
            refine XS.bipush X0.here hx rfl (hb hby d2_37) ?_
            exact kt
          by_cases hc14 : p1 = (45 : Int32)
          · obtain ⟨fs, hr, hrun, hended, hW, hsame⟩ := X0.leave (v := some (.int (1 : Int32))) (fun h => by rw [Bd.returns] at h; cases h)
            refine ⟨_, _, pre13 _ ?_, hrun, hended, _, _, rfl, ?_, ⟨_, rfl⟩, hW, hsame.mono (by decide) (by decide)⟩
            · show Steps p.tables e below (s₁.setTop (mkF m 39 #[.val (.int p1)] [(.int (45 : Int32)), (.int p1)])) _
              refine XS.icmpYes X0.here hx rfl (pc0 := 39) (pc' := 48) rfl (hb hby d2_39) rfl (teq hc14).1 (by decide) (by decide) ?_
              show Steps p.tables e below (s₁.setTop (mkF m 48 #[.val (.int p1)] [])) _
              refine XS.iconst X0.here hx rfl (hb hby d2_48) ?_
              show Steps p.tables e below (s₁.setTop (mkF m 49 #[.val (.int p1)] [(.int (1 : Int32))])) _
              refine XS.goto X0.here hx rfl (pc0 := 49) (pc' := 53) rfl (hb hby d2_49) (by decide) (by decide) ?_
              show Steps p.tables e below (s₁.setTop (mkF m 53 #[.val (.int p1)] [(.int (1 : Int32))])) _
              exact retN X0 hx (t := .boolean) Bd.returns (by simp) (hb hby d2_53) hr
            · show Q2 Z p1 h0 n0 _ s₁.heap _
              rw [e0]
              refine ⟨?_, N0, rfl⟩
              rw [f2, if_pos hc2, if_pos hc4, if_neg hc6, if_pos hc12, if_pos hc14]
          · have pre15 : ∀ t, Steps p.tables e below (s₁.setTop (mkF m 45 #[.val (.int p1)] [(.int (95 : Int32)), (.int p1)])) t → Steps p.tables e below (s₁.setTop (entryFrame m #[(.int p1)] 1)) t := fun t kt => by
              refine pre13 _ ?_
              show Steps p.tables e below (s₁.setTop (mkF m 39 #[.val (.int p1)] [(.int (45 : Int32)), (.int p1)])) _
              refine XS.icmpNo X0.here hx rfl (hb hby d2_39) rfl (feq hc14).1 ?_
              show Steps p.tables e below (s₁.setTop (mkF m 42 #[.val (.int p1)] [])) _
              refine XS.iloadN X0.here hx rfl (hb hby d2_42) rfl ?_
              show Steps p.tables e below (s₁.setTop (mkF m 43 #[.val (.int p1)] [(.int p1)])) _
              refine XS.bipush X0.here hx rfl (hb hby d2_43) ?_
              exact kt
            by_cases hc16 : p1 = (95 : Int32)
            · obtain ⟨fs, hr, hrun, hended, hW, hsame⟩ := X0.leave (v := some (.int (1 : Int32))) (fun h => by rw [Bd.returns] at h; cases h)
              refine ⟨_, _, pre15 _ ?_, hrun, hended, _, _, rfl, ?_, ⟨_, rfl⟩, hW, hsame.mono (by decide) (by decide)⟩
              · show Steps p.tables e below (s₁.setTop (mkF m 45 #[.val (.int p1)] [(.int (95 : Int32)), (.int p1)])) _
                refine XS.icmpNo X0.here hx rfl (hb hby d2_45) rfl (teq hc16).2 ?_
                show Steps p.tables e below (s₁.setTop (mkF m 48 #[.val (.int p1)] [])) _
                refine XS.iconst X0.here hx rfl (hb hby d2_48) ?_
                show Steps p.tables e below (s₁.setTop (mkF m 49 #[.val (.int p1)] [(.int (1 : Int32))])) _
                refine XS.goto X0.here hx rfl (pc0 := 49) (pc' := 53) rfl (hb hby d2_49) (by decide) (by decide) ?_
                show Steps p.tables e below (s₁.setTop (mkF m 53 #[.val (.int p1)] [(.int (1 : Int32))])) _
                exact retN X0 hx (t := .boolean) Bd.returns (by simp) (hb hby d2_53) hr
              · show Q2 Z p1 h0 n0 _ s₁.heap _
                rw [e0]
                refine ⟨?_, N0, rfl⟩
                rw [f2, if_pos hc2, if_pos hc4, if_neg hc6, if_pos hc12, if_neg hc14, if_pos hc16]
            · obtain ⟨fs, hr, hrun, hended, hW, hsame⟩ := X0.leave (v := some (.int (0 : Int32))) (fun h => by rw [Bd.returns] at h; cases h)
              refine ⟨_, _, pre15 _ ?_, hrun, hended, _, _, rfl, ?_, ⟨_, rfl⟩, hW, hsame.mono (by decide) (by decide)⟩
              · show Steps p.tables e below (s₁.setTop (mkF m 45 #[.val (.int p1)] [(.int (95 : Int32)), (.int p1)])) _
                refine XS.icmpYes X0.here hx rfl (pc0 := 45) (pc' := 52) rfl (hb hby d2_45) rfl (feq hc16).2 (by decide) (by decide) ?_
                show Steps p.tables e below (s₁.setTop (mkF m 52 #[.val (.int p1)] [])) _
                refine XS.iconst X0.here hx rfl (hb hby d2_52) ?_
                show Steps p.tables e below (s₁.setTop (mkF m 53 #[.val (.int p1)] [(.int (0 : Int32))])) _
                exact retN X0 hx (t := .boolean) Bd.returns (by simp) (hb hby d2_53) hr
              · show Q2 Z p1 h0 n0 _ s₁.heap _
                rw [e0]
                refine ⟨?_, N0, rfl⟩
                rw [f2, if_pos hc2, if_pos hc4, if_neg hc6, if_pos hc12, if_neg hc14, if_neg hc16]
        · obtain ⟨fs, hr, hrun, hended, hW, hsame⟩ := X0.leave (v := some (.int (1 : Int32))) (fun h => by rw [Bd.returns] at h; cases h)
          refine ⟨_, _, pre11 _ ?_, hrun, hended, _, _, rfl, ?_, ⟨_, rfl⟩, hW, hsame.mono (by decide) (by decide)⟩
          · show Steps p.tables e below (s₁.setTop (mkF m 33 #[.val (.int p1)] [(.int (57 : Int32)), (.int p1)])) _
            refine XS.icmpYes X0.here hx rfl (pc0 := 33) (pc' := 48) rfl (hb hby d2_33) rfl (flt hc12).2.2.2 (by decide) (by decide) ?_
            show Steps p.tables e below (s₁.setTop (mkF m 48 #[.val (.int p1)] [])) _
            refine XS.iconst X0.here hx rfl (hb hby d2_48) ?_
            show Steps p.tables e below (s₁.setTop (mkF m 49 #[.val (.int p1)] [(.int (1 : Int32))])) _
            refine XS.goto X0.here hx rfl (pc0 := 49) (pc' := 53) rfl (hb hby d2_49) (by decide) (by decide) ?_
            show Steps p.tables e below (s₁.setTop (mkF m 53 #[.val (.int p1)] [(.int (1 : Int32))])) _
            exact retN X0 hx (t := .boolean) Bd.returns (by simp) (hb hby d2_53) hr
          · show Q2 Z p1 h0 n0 _ s₁.heap _
            rw [e0]
            refine ⟨?_, N0, rfl⟩
            rw [f2, if_pos hc2, if_pos hc4, if_neg hc6, if_neg hc12]
    · have pre17 : ∀ t, Steps p.tables e below (s₁.setTop (mkF m 21 #[.val (.int p1)] [(.int (122 : Int32)), (.int p1)])) t → Steps p.tables e below (s₁.setTop (entryFrame m #[(.int p1)] 1)) t := fun t kt => by
        refine pre3 _ ?_
        show Steps p.tables e below (s₁.setTop (mkF m 15 #[.val (.int p1)] [(.int (97 : Int32)), (.int p1)])) _
        refine XS.icmpNo X0.here hx rfl (hb hby d2_15) rfl (flt hc4).1 ?_
        show Steps p.tables e below (s₁.setTop (mkF m 18 #[.val (.int p1)] [])) _
        refine XS.iloadN X0.here hx rfl (hb hby d2_18) rfl ?_
        show Steps p.tables e below (s₁.setTop (mkF m 19 #[.val (.int p1)] [(.int p1)])) _
        refine XS.bipush X0.here hx rfl (hb hby d2_19) ?_
        exact kt
      by_cases hc18 : (122 : Int32) < p1
      · have pre19 : ∀ t, Steps p.tables e below (s₁.setTop (mkF m 27 #[.val (.int p1)] [(.int (48 : Int32)), (.int p1)])) t → Steps p.tables e below (s₁.setTop (entryFrame m #[(.int p1)] 1)) t := fun t kt => by
          refine pre17 _ ?_
          show Steps p.tables e below (s₁.setTop (mkF m 21 #[.val (.int p1)] [(.int (122 : Int32)), (.int p1)])) _
          refine XS.icmpNo X0.here hx rfl (hb hby d2_21) rfl (tlt hc18).2.2.2 ?_
          show Steps p.tables e below (s₁.setTop (mkF m 24 #[.val (.int p1)] [])) _
          refine XS.iloadN X0.here hx rfl (hb hby d2_24) rfl ?_
          show Steps p.tables e below (s₁.setTop (mkF m 25 #[.val (.int p1)] [(.int p1)])) _
          refine XS.bipush X0.here hx rfl (hb hby d2_25) ?_
          exact kt
        by_cases hc20 : p1 < (48 : Int32)
        · have pre21 : ∀ t, Steps p.tables e below (s₁.setTop (mkF m 39 #[.val (.int p1)] [(.int (45 : Int32)), (.int p1)])) t → Steps p.tables e below (s₁.setTop (entryFrame m #[(.int p1)] 1)) t := fun t kt => by
            refine pre19 _ ?_
            show Steps p.tables e below (s₁.setTop (mkF m 27 #[.val (.int p1)] [(.int (48 : Int32)), (.int p1)])) _
            refine XS.icmpYes X0.here hx rfl (pc0 := 27) (pc' := 36) rfl (hb hby d2_27) rfl (tlt hc20).1 (by decide) (by decide) ?_
            show Steps p.tables e below (s₁.setTop (mkF m 36 #[.val (.int p1)] [])) _
            refine XS.iloadN X0.here hx rfl (hb hby d2_36) rfl ?_
            show Steps p.tables e below (s₁.setTop (mkF m 37 #[.val (.int p1)] [(.int p1)])) _
            refine XS.bipush X0.here hx rfl (hb hby d2_37) ?_
            exact kt
          by_cases hc22 : p1 = (45 : Int32)
          · obtain ⟨fs, hr, hrun, hended, hW, hsame⟩ := X0.leave (v := some (.int (1 : Int32))) (fun h => by rw [Bd.returns] at h; cases h)
            refine ⟨_, _, pre21 _ ?_, hrun, hended, _, _, rfl, ?_, ⟨_, rfl⟩, hW, hsame.mono (by decide) (by decide)⟩
            · show Steps p.tables e below (s₁.setTop (mkF m 39 #[.val (.int p1)] [(.int (45 : Int32)), (.int p1)])) _
              refine XS.icmpYes X0.here hx rfl (pc0 := 39) (pc' := 48) rfl (hb hby d2_39) rfl (teq hc22).1 (by decide) (by decide) ?_
              show Steps p.tables e below (s₁.setTop (mkF m 48 #[.val (.int p1)] [])) _
              refine XS.iconst X0.here hx rfl (hb hby d2_48) ?_
              show Steps p.tables e below (s₁.setTop (mkF m 49 #[.val (.int p1)] [(.int (1 : Int32))])) _
              refine XS.goto X0.here hx rfl (pc0 := 49) (pc' := 53) rfl (hb hby d2_49) (by decide) (by decide) ?_
              show Steps p.tables e below (s₁.setTop (mkF m 53 #[.val (.int p1)] [(.int (1 : Int32))])) _
              exact retN X0 hx (t := .boolean) Bd.returns (by simp) (hb hby d2_53) hr
            · show Q2 Z p1 h0 n0 _ s₁.heap _
              rw [e0]
              refine ⟨?_, N0, rfl⟩
              rw [f2, if_pos hc2, if_neg hc4, if_pos hc18, if_pos hc20, if_pos hc22]
          · have pre23 : ∀ t, Steps p.tables e below (s₁.setTop (mkF m 45 #[.val (.int p1)] [(.int (95 : Int32)), (.int p1)])) t → Steps p.tables e below (s₁.setTop (entryFrame m #[(.int p1)] 1)) t := fun t kt => by
              refine pre21 _ ?_
              show Steps p.tables e below (s₁.setTop (mkF m 39 #[.val (.int p1)] [(.int (45 : Int32)), (.int p1)])) _
              refine XS.icmpNo X0.here hx rfl (hb hby d2_39) rfl (feq hc22).1 ?_
              show Steps p.tables e below (s₁.setTop (mkF m 42 #[.val (.int p1)] [])) _
              refine XS.iloadN X0.here hx rfl (hb hby d2_42) rfl ?_
              show Steps p.tables e below (s₁.setTop (mkF m 43 #[.val (.int p1)] [(.int p1)])) _
              refine XS.bipush X0.here hx rfl (hb hby d2_43) ?_
              exact kt
            by_cases hc24 : p1 = (95 : Int32)
            · obtain ⟨fs, hr, hrun, hended, hW, hsame⟩ := X0.leave (v := some (.int (1 : Int32))) (fun h => by rw [Bd.returns] at h; cases h)
              refine ⟨_, _, pre23 _ ?_, hrun, hended, _, _, rfl, ?_, ⟨_, rfl⟩, hW, hsame.mono (by decide) (by decide)⟩
              · show Steps p.tables e below (s₁.setTop (mkF m 45 #[.val (.int p1)] [(.int (95 : Int32)), (.int p1)])) _
                refine XS.icmpNo X0.here hx rfl (hb hby d2_45) rfl (teq hc24).2 ?_
                show Steps p.tables e below (s₁.setTop (mkF m 48 #[.val (.int p1)] [])) _
                refine XS.iconst X0.here hx rfl (hb hby d2_48) ?_
                show Steps p.tables e below (s₁.setTop (mkF m 49 #[.val (.int p1)] [(.int (1 : Int32))])) _
                refine XS.goto X0.here hx rfl (pc0 := 49) (pc' := 53) rfl (hb hby d2_49) (by decide) (by decide) ?_
                show Steps p.tables e below (s₁.setTop (mkF m 53 #[.val (.int p1)] [(.int (1 : Int32))])) _
                exact retN X0 hx (t := .boolean) Bd.returns (by simp) (hb hby d2_53) hr
              · show Q2 Z p1 h0 n0 _ s₁.heap _
                rw [e0]
                refine ⟨?_, N0, rfl⟩
                rw [f2, if_pos hc2, if_neg hc4, if_pos hc18, if_pos hc20, if_neg hc22, if_pos hc24]
            · obtain ⟨fs, hr, hrun, hended, hW, hsame⟩ := X0.leave (v := some (.int (0 : Int32))) (fun h => by rw [Bd.returns] at h; cases h)
              refine ⟨_, _, pre23 _ ?_, hrun, hended, _, _, rfl, ?_, ⟨_, rfl⟩, hW, hsame.mono (by decide) (by decide)⟩
              · show Steps p.tables e below (s₁.setTop (mkF m 45 #[.val (.int p1)] [(.int (95 : Int32)), (.int p1)])) _
                refine XS.icmpYes X0.here hx rfl (pc0 := 45) (pc' := 52) rfl (hb hby d2_45) rfl (feq hc24).2 (by decide) (by decide) ?_
                show Steps p.tables e below (s₁.setTop (mkF m 52 #[.val (.int p1)] [])) _
                refine XS.iconst X0.here hx rfl (hb hby d2_52) ?_
                show Steps p.tables e below (s₁.setTop (mkF m 53 #[.val (.int p1)] [(.int (0 : Int32))])) _
                exact retN X0 hx (t := .boolean) Bd.returns (by simp) (hb hby d2_53) hr
              · show Q2 Z p1 h0 n0 _ s₁.heap _
                rw [e0]
                refine ⟨?_, N0, rfl⟩
                rw [f2, if_pos hc2, if_neg hc4, if_pos hc18, if_pos hc20, if_neg hc22, if_neg hc24]
        · have pre25 : ∀ t, Steps p.tables e below (s₁.setTop (mkF m 33 #[.val (.int p1)] [(.int (57 : Int32)), (.int p1)])) t → Steps p.tables e below (s₁.setTop (entryFrame m #[(.int p1)] 1)) t := fun t kt => by
            refine pre19 _ ?_
            show Steps p.tables e below (s₁.setTop (mkF m 27 #[.val (.int p1)] [(.int (48 : Int32)), (.int p1)])) _
            refine XS.icmpNo X0.here hx rfl (hb hby d2_27) rfl (flt hc20).1 ?_
            show Steps p.tables e below (s₁.setTop (mkF m 30 #[.val (.int p1)] [])) _
            refine XS.iloadN X0.here hx rfl (hb hby d2_30) rfl ?_
            show Steps p.tables e below (s₁.setTop (mkF m 31 #[.val (.int p1)] [(.int p1)])) _
            refine XS.bipush X0.here hx rfl (hb hby d2_31) ?_
            exact kt
          by_cases hc26 : (57 : Int32) < p1
          · have pre27 : ∀ t, Steps p.tables e below (s₁.setTop (mkF m 39 #[.val (.int p1)] [(.int (45 : Int32)), (.int p1)])) t → Steps p.tables e below (s₁.setTop (entryFrame m #[(.int p1)] 1)) t := fun t kt => by
              refine pre25 _ ?_
              show Steps p.tables e below (s₁.setTop (mkF m 33 #[.val (.int p1)] [(.int (57 : Int32)), (.int p1)])) _
              refine XS.icmpNo X0.here hx rfl (hb hby d2_33) rfl (tlt hc26).2.2.2 ?_
              show Steps p.tables e below (s₁.setTop (mkF m 36 #[.val (.int p1)] [])) _
              refine XS.iloadN X0.here hx rfl (hb hby d2_36) rfl ?_
              show Steps p.tables e below (s₁.setTop (mkF m 37 #[.val (.int p1)] [(.int p1)])) _
              refine XS.bipush X0.here hx rfl (hb hby d2_37) ?_
              exact kt
            by_cases hc28 : p1 = (45 : Int32)
            · obtain ⟨fs, hr, hrun, hended, hW, hsame⟩ := X0.leave (v := some (.int (1 : Int32))) (fun h => by rw [Bd.returns] at h; cases h)
              refine ⟨_, _, pre27 _ ?_, hrun, hended, _, _, rfl, ?_, ⟨_, rfl⟩, hW, hsame.mono (by decide) (by decide)⟩
              · show Steps p.tables e below (s₁.setTop (mkF m 39 #[.val (.int p1)] [(.int (45 : Int32)), (.int p1)])) _
                refine XS.icmpYes X0.here hx rfl (pc0 := 39) (pc' := 48) rfl (hb hby d2_39) rfl (teq hc28).1 (by decide) (by decide) ?_
                show Steps p.tables e below (s₁.setTop (mkF m 48 #[.val (.int p1)] [])) _
                refine XS.iconst X0.here hx rfl (hb hby d2_48) ?_
                show Steps p.tables e below (s₁.setTop (mkF m 49 #[.val (.int p1)] [(.int (1 : Int32))])) _
                refine XS.goto X0.here hx rfl (pc0 := 49) (pc' := 53) rfl (hb hby d2_49) (by decide) (by decide) ?_
                show Steps p.tables e below (s₁.setTop (mkF m 53 #[.val (.int p1)] [(.int (1 : Int32))])) _
                exact retN X0 hx (t := .boolean) Bd.returns (by simp) (hb hby d2_53) hr
              · show Q2 Z p1 h0 n0 _ s₁.heap _
                rw [e0]
                refine ⟨?_, N0, rfl⟩
                rw [f2, if_pos hc2, if_neg hc4, if_pos hc18, if_neg hc20, if_pos hc26, if_pos hc28]
            · have pre29 : ∀ t, Steps p.tables e below (s₁.setTop (mkF m 45 #[.val (.int p1)] [(.int (95 : Int32)), (.int p1)])) t → Steps p.tables e below (s₁.setTop (entryFrame m #[(.int p1)] 1)) t := fun t kt => by
                refine pre27 _ ?_
                show Steps p.tables e below (s₁.setTop (mkF m 39 #[.val (.int p1)] [(.int (45 : Int32)), (.int p1)])) _
                refine XS.icmpNo X0.here hx rfl (hb hby d2_39) rfl (feq hc28).1 ?_
                show Steps p.tables e below (s₁.setTop (mkF m 42 #[.val (.int p1)] [])) _
                refine XS.iloadN X0.here hx rfl (hb hby d2_42) rfl ?_
                show Steps p.tables e below (s₁.setTop (mkF m 43 #[.val (.int p1)] [(.int p1)])) _
                refine XS.bipush X0.here hx rfl (hb hby d2_43) ?_
                exact kt
              by_cases hc30 : p1 = (95 : Int32)
              · obtain ⟨fs, hr, hrun, hended, hW, hsame⟩ := X0.leave (v := some (.int (1 : Int32))) (fun h => by rw [Bd.returns] at h; cases h)
                refine ⟨_, _, pre29 _ ?_, hrun, hended, _, _, rfl, ?_, ⟨_, rfl⟩, hW, hsame.mono (by decide) (by decide)⟩
                · show Steps p.tables e below (s₁.setTop (mkF m 45 #[.val (.int p1)] [(.int (95 : Int32)), (.int p1)])) _
                  refine XS.icmpNo X0.here hx rfl (hb hby d2_45) rfl (teq hc30).2 ?_
                  show Steps p.tables e below (s₁.setTop (mkF m 48 #[.val (.int p1)] [])) _
                  refine XS.iconst X0.here hx rfl (hb hby d2_48) ?_
                  show Steps p.tables e below (s₁.setTop (mkF m 49 #[.val (.int p1)] [(.int (1 : Int32))])) _
                  refine XS.goto X0.here hx rfl (pc0 := 49) (pc' := 53) rfl (hb hby d2_49) (by decide) (by decide) ?_
                  show Steps p.tables e below (s₁.setTop (mkF m 53 #[.val (.int p1)] [(.int (1 : Int32))])) _
                  exact retN X0 hx (t := .boolean) Bd.returns (by simp) (hb hby d2_53) hr
                · show Q2 Z p1 h0 n0 _ s₁.heap _
                  rw [e0]
                  refine ⟨?_, N0, rfl⟩
                  rw [f2, if_pos hc2, if_neg hc4, if_pos hc18, if_neg hc20, if_pos hc26, if_neg hc28, if_pos hc30]
              · obtain ⟨fs, hr, hrun, hended, hW, hsame⟩ := X0.leave (v := some (.int (0 : Int32))) (fun h => by rw [Bd.returns] at h; cases h)
                refine ⟨_, _, pre29 _ ?_, hrun, hended, _, _, rfl, ?_, ⟨_, rfl⟩, hW, hsame.mono (by decide) (by decide)⟩
                · show Steps p.tables e below (s₁.setTop (mkF m 45 #[.val (.int p1)] [(.int (95 : Int32)), (.int p1)])) _
                  refine XS.icmpYes X0.here hx rfl (pc0 := 45) (pc' := 52) rfl (hb hby d2_45) rfl (feq hc30).2 (by decide) (by decide) ?_
                  show Steps p.tables e below (s₁.setTop (mkF m 52 #[.val (.int p1)] [])) _
                  refine XS.iconst X0.here hx rfl (hb hby d2_52) ?_
                  show Steps p.tables e below (s₁.setTop (mkF m 53 #[.val (.int p1)] [(.int (0 : Int32))])) _
                  exact retN X0 hx (t := .boolean) Bd.returns (by simp) (hb hby d2_53) hr
                · show Q2 Z p1 h0 n0 _ s₁.heap _
                  rw [e0]
                  refine ⟨?_, N0, rfl⟩
                  rw [f2, if_pos hc2, if_neg hc4, if_pos hc18, if_neg hc20, if_pos hc26, if_neg hc28, if_neg hc30]
          · obtain ⟨fs, hr, hrun, hended, hW, hsame⟩ := X0.leave (v := some (.int (1 : Int32))) (fun h => by rw [Bd.returns] at h; cases h)
            refine ⟨_, _, pre25 _ ?_, hrun, hended, _, _, rfl, ?_, ⟨_, rfl⟩, hW, hsame.mono (by decide) (by decide)⟩
            · show Steps p.tables e below (s₁.setTop (mkF m 33 #[.val (.int p1)] [(.int (57 : Int32)), (.int p1)])) _
              refine XS.icmpYes X0.here hx rfl (pc0 := 33) (pc' := 48) rfl (hb hby d2_33) rfl (flt hc26).2.2.2 (by decide) (by decide) ?_
              show Steps p.tables e below (s₁.setTop (mkF m 48 #[.val (.int p1)] [])) _
              refine XS.iconst X0.here hx rfl (hb hby d2_48) ?_
              show Steps p.tables e below (s₁.setTop (mkF m 49 #[.val (.int p1)] [(.int (1 : Int32))])) _
              refine XS.goto X0.here hx rfl (pc0 := 49) (pc' := 53) rfl (hb hby d2_49) (by decide) (by decide) ?_
              show Steps p.tables e below (s₁.setTop (mkF m 53 #[.val (.int p1)] [(.int (1 : Int32))])) _
              exact retN X0 hx (t := .boolean) Bd.returns (by simp) (hb hby d2_53) hr
            · show Q2 Z p1 h0 n0 _ s₁.heap _
              rw [e0]
              refine ⟨?_, N0, rfl⟩
              rw [f2, if_pos hc2, if_neg hc4, if_pos hc18, if_neg hc20, if_neg hc26]
      · obtain ⟨fs, hr, hrun, hended, hW, hsame⟩ := X0.leave (v := some (.int (1 : Int32))) (fun h => by rw [Bd.returns] at h; cases h)
        refine ⟨_, _, pre17 _ ?_, hrun, hended, _, _, rfl, ?_, ⟨_, rfl⟩, hW, hsame.mono (by decide) (by decide)⟩
        · show Steps p.tables e below (s₁.setTop (mkF m 21 #[.val (.int p1)] [(.int (122 : Int32)), (.int p1)])) _
          refine XS.icmpYes X0.here hx rfl (pc0 := 21) (pc' := 48) rfl (hb hby d2_21) rfl (flt hc18).2.2.2 (by decide) (by decide) ?_
          show Steps p.tables e below (s₁.setTop (mkF m 48 #[.val (.int p1)] [])) _
          refine XS.iconst X0.here hx rfl (hb hby d2_48) ?_
          show Steps p.tables e below (s₁.setTop (mkF m 49 #[.val (.int p1)] [(.int (1 : Int32))])) _
          refine XS.goto X0.here hx rfl (pc0 := 49) (pc' := 53) rfl (hb hby d2_49) (by decide) (by decide) ?_
          show Steps p.tables e below (s₁.setTop (mkF m 53 #[.val (.int p1)] [(.int (1 : Int32))])) _
          exact retN X0 hx (t := .boolean) Bd.returns (by simp) (hb hby d2_53) hr
        · show Q2 Z p1 h0 n0 _ s₁.heap _
          rw [e0]
          refine ⟨?_, N0, rfl⟩
          rw [f2, if_pos hc2, if_neg hc4, if_neg hc18]
  · have pre31 : ∀ t, Steps p.tables e below (s₁.setTop (mkF m 9 #[.val (.int p1)] [(.int (90 : Int32)), (.int p1)])) t → Steps p.tables e below (s₁.setTop (entryFrame m #[(.int p1)] 1)) t := fun t kt => by
      refine pre1 _ ?_
      show Steps p.tables e below (s₁.setTop (mkF m 3 #[.val (.int p1)] [(.int (65 : Int32)), (.int p1)])) _
      refine XS.icmpNo X0.here hx rfl (hb hby d2_3) rfl (flt hc2).1 ?_
      show Steps p.tables e below (s₁.setTop (mkF m 6 #[.val (.int p1)] [])) _
      refine XS.iloadN X0.here hx rfl (hb hby d2_6) rfl ?_
      show Steps p.tables e below (s₁.setTop (mkF m 7 #[.val (.int p1)] [(.int p1)])) _
      refine XS.bipush X0.here hx rfl (hb hby d2_7) ?_
      exact kt
    by_cases hc32 : (90 : Int32) < p1
    · have pre33 : ∀ t, Steps p.tables e below (s₁.setTop (mkF m 15 #[.val (.int p1)] [(.int (97 : Int32)), (.int p1)])) t → Steps p.tables e below (s₁.setTop (entryFrame m #[(.int p1)] 1)) t := fun t kt => by
        refine pre31 _ ?_
        show Steps p.tables e below (s₁.setTop (mkF m 9 #[.val (.int p1)] [(.int (90 : Int32)), (.int p1)])) _
        refine XS.icmpNo X0.here hx rfl (hb hby d2_9) rfl (tlt hc32).2.2.2 ?_
        show Steps p.tables e below (s₁.setTop (mkF m 12 #[.val (.int p1)] [])) _
        refine XS.iloadN X0.here hx rfl (hb hby d2_12) rfl ?_
        show Steps p.tables e below (s₁.setTop (mkF m 13 #[.val (.int p1)] [(.int p1)])) _
        refine XS.bipush X0.here hx rfl (hb hby d2_13) ?_
        exact kt
      by_cases hc34 : p1 < (97 : Int32)
      · have pre35 : ∀ t, Steps p.tables e below (s₁.setTop (mkF m 27 #[.val (.int p1)] [(.int (48 : Int32)), (.int p1)])) t → Steps p.tables e below (s₁.setTop (entryFrame m #[(.int p1)] 1)) t := fun t kt => by
          refine pre33 _ ?_
          show Steps p.tables e below (s₁.setTop (mkF m 15 #[.val (.int p1)] [(.int (97 : Int32)), (.int p1)])) _
          refine XS.icmpYes X0.here hx rfl (pc0 := 15) (pc' := 24) rfl (hb hby d2_15) rfl (tlt hc34).1 (by decide) (by decide) ?_
          show Steps p.tables e below (s₁.setTop (mkF m 24 #[.val (.int p1)] [])) _
          refine XS.iloadN X0.here hx rfl (hb hby d2_24) rfl ?_
          show Steps p.tables e below (s₁.setTop (mkF m 25 #[.val (.int p1)] [(.int p1)])) _
          refine XS.bipush X0.here hx rfl (hb hby d2_25) ?_
          exact kt
        by_cases hc36 : p1 < (48 : Int32)
        · have pre37 : ∀ t, Steps p.tables e below (s₁.setTop (mkF m 39 #[.val (.int p1)] [(.int (45 : Int32)), (.int p1)])) t → Steps p.tables e below (s₁.setTop (entryFrame m #[(.int p1)] 1)) t := fun t kt => by
            refine pre35 _ ?_
            show Steps p.tables e below (s₁.setTop (mkF m 27 #[.val (.int p1)] [(.int (48 : Int32)), (.int p1)])) _
            refine XS.icmpYes X0.here hx rfl (pc0 := 27) (pc' := 36) rfl (hb hby d2_27) rfl (tlt hc36).1 (by decide) (by decide) ?_
            show Steps p.tables e below (s₁.setTop (mkF m 36 #[.val (.int p1)] [])) _
            refine XS.iloadN X0.here hx rfl (hb hby d2_36) rfl ?_
            show Steps p.tables e below (s₁.setTop (mkF m 37 #[.val (.int p1)] [(.int p1)])) _
            refine XS.bipush X0.here hx rfl (hb hby d2_37) ?_
            exact kt
          by_cases hc38 : p1 = (45 : Int32)
          · obtain ⟨fs, hr, hrun, hended, hW, hsame⟩ := X0.leave (v := some (.int (1 : Int32))) (fun h => by rw [Bd.returns] at h; cases h)
            refine ⟨_, _, pre37 _ ?_, hrun, hended, _, _, rfl, ?_, ⟨_, rfl⟩, hW, hsame.mono (by decide) (by decide)⟩
            · show Steps p.tables e below (s₁.setTop (mkF m 39 #[.val (.int p1)] [(.int (45 : Int32)), (.int p1)])) _
              refine XS.icmpYes X0.here hx rfl (pc0 := 39) (pc' := 48) rfl (hb hby d2_39) rfl (teq hc38).1 (by decide) (by decide) ?_
              show Steps p.tables e below (s₁.setTop (mkF m 48 #[.val (.int p1)] [])) _
              refine XS.iconst X0.here hx rfl (hb hby d2_48) ?_
              show Steps p.tables e below (s₁.setTop (mkF m 49 #[.val (.int p1)] [(.int (1 : Int32))])) _
              refine XS.goto X0.here hx rfl (pc0 := 49) (pc' := 53) rfl (hb hby d2_49) (by decide) (by decide) ?_
              show Steps p.tables e below (s₁.setTop (mkF m 53 #[.val (.int p1)] [(.int (1 : Int32))])) _
              exact retN X0 hx (t := .boolean) Bd.returns (by simp) (hb hby d2_53) hr
            · show Q2 Z p1 h0 n0 _ s₁.heap _
              rw [e0]
              refine ⟨?_, N0, rfl⟩
              rw [f2, if_neg hc2, if_pos hc32, if_pos hc34, if_pos hc36, if_pos hc38]
          · have pre39 : ∀ t, Steps p.tables e below (s₁.setTop (mkF m 45 #[.val (.int p1)] [(.int (95 : Int32)), (.int p1)])) t → Steps p.tables e below (s₁.setTop (entryFrame m #[(.int p1)] 1)) t := fun t kt => by
              refine pre37 _ ?_
              show Steps p.tables e below (s₁.setTop (mkF m 39 #[.val (.int p1)] [(.int (45 : Int32)), (.int p1)])) _
              refine XS.icmpNo X0.here hx rfl (hb hby d2_39) rfl (feq hc38).1 ?_
              show Steps p.tables e below (s₁.setTop (mkF m 42 #[.val (.int p1)] [])) _
              refine XS.iloadN X0.here hx rfl (hb hby d2_42) rfl ?_
              show Steps p.tables e below (s₁.setTop (mkF m 43 #[.val (.int p1)] [(.int p1)])) _
              refine XS.bipush X0.here hx rfl (hb hby d2_43) ?_
              exact kt
            by_cases hc40 : p1 = (95 : Int32)
            · obtain ⟨fs, hr, hrun, hended, hW, hsame⟩ := X0.leave (v := some (.int (1 : Int32))) (fun h => by rw [Bd.returns] at h; cases h)
              refine ⟨_, _, pre39 _ ?_, hrun, hended, _, _, rfl, ?_, ⟨_, rfl⟩, hW, hsame.mono (by decide) (by decide)⟩
              · show Steps p.tables e below (s₁.setTop (mkF m 45 #[.val (.int p1)] [(.int (95 : Int32)), (.int p1)])) _
                refine XS.icmpNo X0.here hx rfl (hb hby d2_45) rfl (teq hc40).2 ?_
                show Steps p.tables e below (s₁.setTop (mkF m 48 #[.val (.int p1)] [])) _
                refine XS.iconst X0.here hx rfl (hb hby d2_48) ?_
                show Steps p.tables e below (s₁.setTop (mkF m 49 #[.val (.int p1)] [(.int (1 : Int32))])) _
                refine XS.goto X0.here hx rfl (pc0 := 49) (pc' := 53) rfl (hb hby d2_49) (by decide) (by decide) ?_
                show Steps p.tables e below (s₁.setTop (mkF m 53 #[.val (.int p1)] [(.int (1 : Int32))])) _
                exact retN X0 hx (t := .boolean) Bd.returns (by simp) (hb hby d2_53) hr
              · show Q2 Z p1 h0 n0 _ s₁.heap _
                rw [e0]
                refine ⟨?_, N0, rfl⟩
                rw [f2, if_neg hc2, if_pos hc32, if_pos hc34, if_pos hc36, if_neg hc38, if_pos hc40]
            · obtain ⟨fs, hr, hrun, hended, hW, hsame⟩ := X0.leave (v := some (.int (0 : Int32))) (fun h => by rw [Bd.returns] at h; cases h)
              refine ⟨_, _, pre39 _ ?_, hrun, hended, _, _, rfl, ?_, ⟨_, rfl⟩, hW, hsame.mono (by decide) (by decide)⟩
              · show Steps p.tables e below (s₁.setTop (mkF m 45 #[.val (.int p1)] [(.int (95 : Int32)), (.int p1)])) _
                refine XS.icmpYes X0.here hx rfl (pc0 := 45) (pc' := 52) rfl (hb hby d2_45) rfl (feq hc40).2 (by decide) (by decide) ?_
                show Steps p.tables e below (s₁.setTop (mkF m 52 #[.val (.int p1)] [])) _
                refine XS.iconst X0.here hx rfl (hb hby d2_52) ?_
                show Steps p.tables e below (s₁.setTop (mkF m 53 #[.val (.int p1)] [(.int (0 : Int32))])) _
                exact retN X0 hx (t := .boolean) Bd.returns (by simp) (hb hby d2_53) hr
              · show Q2 Z p1 h0 n0 _ s₁.heap _
                rw [e0]
                refine ⟨?_, N0, rfl⟩
                rw [f2, if_neg hc2, if_pos hc32, if_pos hc34, if_pos hc36, if_neg hc38, if_neg hc40]
        · have pre41 : ∀ t, Steps p.tables e below (s₁.setTop (mkF m 33 #[.val (.int p1)] [(.int (57 : Int32)), (.int p1)])) t → Steps p.tables e below (s₁.setTop (entryFrame m #[(.int p1)] 1)) t := fun t kt => by
            refine pre35 _ ?_
            show Steps p.tables e below (s₁.setTop (mkF m 27 #[.val (.int p1)] [(.int (48 : Int32)), (.int p1)])) _
            refine XS.icmpNo X0.here hx rfl (hb hby d2_27) rfl (flt hc36).1 ?_
            show Steps p.tables e below (s₁.setTop (mkF m 30 #[.val (.int p1)] [])) _
            refine XS.iloadN X0.here hx rfl (hb hby d2_30) rfl ?_
            show Steps p.tables e below (s₁.setTop (mkF m 31 #[.val (.int p1)] [(.int p1)])) _
            refine XS.bipush X0.here hx rfl (hb hby d2_31) ?_
            exact kt
          by_cases hc42 : (57 : Int32) < p1
          · have pre43 : ∀ t, Steps p.tables e below (s₁.setTop (mkF m 39 #[.val (.int p1)] [(.int (45 : Int32)), (.int p1)])) t → Steps p.tables e below (s₁.setTop (entryFrame m #[(.int p1)] 1)) t := fun t kt => by
              refine pre41 _ ?_
              show Steps p.tables e below (s₁.setTop (mkF m 33 #[.val (.int p1)] [(.int (57 : Int32)), (.int p1)])) _
              refine XS.icmpNo X0.here hx rfl (hb hby d2_33) rfl (tlt hc42).2.2.2 ?_
              show Steps p.tables e below (s₁.setTop (mkF m 36 #[.val (.int p1)] [])) _
              refine XS.iloadN X0.here hx rfl (hb hby d2_36) rfl ?_
              show Steps p.tables e below (s₁.setTop (mkF m 37 #[.val (.int p1)] [(.int p1)])) _
              refine XS.bipush X0.here hx rfl (hb hby d2_37) ?_
              exact kt
            by_cases hc44 : p1 = (45 : Int32)
            · obtain ⟨fs, hr, hrun, hended, hW, hsame⟩ := X0.leave (v := some (.int (1 : Int32))) (fun h => by rw [Bd.returns] at h; cases h)
              refine ⟨_, _, pre43 _ ?_, hrun, hended, _, _, rfl, ?_, ⟨_, rfl⟩, hW, hsame.mono (by decide) (by decide)⟩
              · show Steps p.tables e below (s₁.setTop (mkF m 39 #[.val (.int p1)] [(.int (45 : Int32)), (.int p1)])) _
                refine XS.icmpYes X0.here hx rfl (pc0 := 39) (pc' := 48) rfl (hb hby d2_39) rfl (teq hc44).1 (by decide) (by decide) ?_
                show Steps p.tables e below (s₁.setTop (mkF m 48 #[.val (.int p1)] [])) _
                refine XS.iconst X0.here hx rfl (hb hby d2_48) ?_
                show Steps p.tables e below (s₁.setTop (mkF m 49 #[.val (.int p1)] [(.int (1 : Int32))])) _
                refine XS.goto X0.here hx rfl (pc0 := 49) (pc' := 53) rfl (hb hby d2_49) (by decide) (by decide) ?_
                show Steps p.tables e below (s₁.setTop (mkF m 53 #[.val (.int p1)] [(.int (1 : Int32))])) _
                exact retN X0 hx (t := .boolean) Bd.returns (by simp) (hb hby d2_53) hr
              · show Q2 Z p1 h0 n0 _ s₁.heap _
                rw [e0]
                refine ⟨?_, N0, rfl⟩
                rw [f2, if_neg hc2, if_pos hc32, if_pos hc34, if_neg hc36, if_pos hc42, if_pos hc44]
            · have pre45 : ∀ t, Steps p.tables e below (s₁.setTop (mkF m 45 #[.val (.int p1)] [(.int (95 : Int32)), (.int p1)])) t → Steps p.tables e below (s₁.setTop (entryFrame m #[(.int p1)] 1)) t := fun t kt => by
                refine pre43 _ ?_
                show Steps p.tables e below (s₁.setTop (mkF m 39 #[.val (.int p1)] [(.int (45 : Int32)), (.int p1)])) _
                refine XS.icmpNo X0.here hx rfl (hb hby d2_39) rfl (feq hc44).1 ?_
                show Steps p.tables e below (s₁.setTop (mkF m 42 #[.val (.int p1)] [])) _
                refine XS.iloadN X0.here hx rfl (hb hby d2_42) rfl ?_
                show Steps p.tables e below (s₁.setTop (mkF m 43 #[.val (.int p1)] [(.int p1)])) _
                refine XS.bipush X0.here hx rfl (hb hby d2_43) ?_
                exact kt
              by_cases hc46 : p1 = (95 : Int32)
              · obtain ⟨fs, hr, hrun, hended, hW, hsame⟩ := X0.leave (v := some (.int (1 : Int32))) (fun h => by rw [Bd.returns] at h; cases h)
                refine ⟨_, _, pre45 _ ?_, hrun, hended, _, _, rfl, ?_, ⟨_, rfl⟩, hW, hsame.mono (by decide) (by decide)⟩
                · show Steps p.tables e below (s₁.setTop (mkF m 45 #[.val (.int p1)] [(.int (95 : Int32)), (.int p1)])) _
                  refine XS.icmpNo X0.here hx rfl (hb hby d2_45) rfl (teq hc46).2 ?_
                  show Steps p.tables e below (s₁.setTop (mkF m 48 #[.val (.int p1)] [])) _
                  refine XS.iconst X0.here hx rfl (hb hby d2_48) ?_
                  show Steps p.tables e below (s₁.setTop (mkF m 49 #[.val (.int p1)] [(.int (1 : Int32))])) _
                  refine XS.goto X0.here hx rfl (pc0 := 49) (pc' := 53) rfl (hb hby d2_49) (by decide) (by decide) ?_
                  show Steps p.tables e below (s₁.setTop (mkF m 53 #[.val (.int p1)] [(.int (1 : Int32))])) _
                  exact retN X0 hx (t := .boolean) Bd.returns (by simp) (hb hby d2_53) hr
                · show Q2 Z p1 h0 n0 _ s₁.heap _
                  rw [e0]
                  refine ⟨?_, N0, rfl⟩
                  rw [f2, if_neg hc2, if_pos hc32, if_pos hc34, if_neg hc36, if_pos hc42, if_neg hc44, if_pos hc46]
              · obtain ⟨fs, hr, hrun, hended, hW, hsame⟩ := X0.leave (v := some (.int (0 : Int32))) (fun h => by rw [Bd.returns] at h; cases h)
                refine ⟨_, _, pre45 _ ?_, hrun, hended, _, _, rfl, ?_, ⟨_, rfl⟩, hW, hsame.mono (by decide) (by decide)⟩
                · show Steps p.tables e below (s₁.setTop (mkF m 45 #[.val (.int p1)] [(.int (95 : Int32)), (.int p1)])) _
                  refine XS.icmpYes X0.here hx rfl (pc0 := 45) (pc' := 52) rfl (hb hby d2_45) rfl (feq hc46).2 (by decide) (by decide) ?_
                  show Steps p.tables e below (s₁.setTop (mkF m 52 #[.val (.int p1)] [])) _
                  refine XS.iconst X0.here hx rfl (hb hby d2_52) ?_
                  show Steps p.tables e below (s₁.setTop (mkF m 53 #[.val (.int p1)] [(.int (0 : Int32))])) _
                  exact retN X0 hx (t := .boolean) Bd.returns (by simp) (hb hby d2_53) hr
                · show Q2 Z p1 h0 n0 _ s₁.heap _
                  rw [e0]
                  refine ⟨?_, N0, rfl⟩
                  rw [f2, if_neg hc2, if_pos hc32, if_pos hc34, if_neg hc36, if_pos hc42, if_neg hc44, if_neg hc46]
          · obtain ⟨fs, hr, hrun, hended, hW, hsame⟩ := X0.leave (v := some (.int (1 : Int32))) (fun h => by rw [Bd.returns] at h; cases h)
            refine ⟨_, _, pre41 _ ?_, hrun, hended, _, _, rfl, ?_, ⟨_, rfl⟩, hW, hsame.mono (by decide) (by decide)⟩
            · show Steps p.tables e below (s₁.setTop (mkF m 33 #[.val (.int p1)] [(.int (57 : Int32)), (.int p1)])) _
              refine XS.icmpYes X0.here hx rfl (pc0 := 33) (pc' := 48) rfl (hb hby d2_33) rfl (flt hc42).2.2.2 (by decide) (by decide) ?_
              show Steps p.tables e below (s₁.setTop (mkF m 48 #[.val (.int p1)] [])) _
              refine XS.iconst X0.here hx rfl (hb hby d2_48) ?_
              show Steps p.tables e below (s₁.setTop (mkF m 49 #[.val (.int p1)] [(.int (1 : Int32))])) _
              refine XS.goto X0.here hx rfl (pc0 := 49) (pc' := 53) rfl (hb hby d2_49) (by decide) (by decide) ?_
              show Steps p.tables e below (s₁.setTop (mkF m 53 #[.val (.int p1)] [(.int (1 : Int32))])) _
              exact retN X0 hx (t := .boolean) Bd.returns (by simp) (hb hby d2_53) hr
            · show Q2 Z p1 h0 n0 _ s₁.heap _
              rw [e0]
              refine ⟨?_, N0, rfl⟩
              rw [f2, if_neg hc2, if_pos hc32, if_pos hc34, if_neg hc36, if_neg hc42]
      · have pre47 : ∀ t, Steps p.tables e below (s₁.setTop (mkF m 21 #[.val (.int p1)] [(.int (122 : Int32)), (.int p1)])) t → Steps p.tables e below (s₁.setTop (entryFrame m #[(.int p1)] 1)) t := fun t kt => by
          refine pre33 _ ?_
          show Steps p.tables e below (s₁.setTop (mkF m 15 #[.val (.int p1)] [(.int (97 : Int32)), (.int p1)])) _
          refine XS.icmpNo X0.here hx rfl (hb hby d2_15) rfl (flt hc34).1 ?_
          show Steps p.tables e below (s₁.setTop (mkF m 18 #[.val (.int p1)] [])) _
          refine XS.iloadN X0.here hx rfl (hb hby d2_18) rfl ?_
          show Steps p.tables e below (s₁.setTop (mkF m 19 #[.val (.int p1)] [(.int p1)])) _
          refine XS.bipush X0.here hx rfl (hb hby d2_19) ?_
          exact kt
        by_cases hc48 : (122 : Int32) < p1
        · have pre49 : ∀ t, Steps p.tables e below (s₁.setTop (mkF m 27 #[.val (.int p1)] [(.int (48 : Int32)), (.int p1)])) t → Steps p.tables e below (s₁.setTop (entryFrame m #[(.int p1)] 1)) t := fun t kt => by
            refine pre47 _ ?_
            show Steps p.tables e below (s₁.setTop (mkF m 21 #[.val (.int p1)] [(.int (122 : Int32)), (.int p1)])) _
            refine XS.icmpNo X0.here hx rfl (hb hby d2_21) rfl (tlt hc48).2.2.2 ?_
            show Steps p.tables e below (s₁.setTop (mkF m 24 #[.val (.int p1)] [])) _
            refine XS.iloadN X0.here hx rfl (hb hby d2_24) rfl ?_
            show Steps p.tables e below (s₁.setTop (mkF m 25 #[.val (.int p1)] [(.int p1)])) _
            refine XS.bipush X0.here hx rfl (hb hby d2_25) ?_
            exact kt
          by_cases hc50 : p1 < (48 : Int32)
          · have pre51 : ∀ t, Steps p.tables e below (s₁.setTop (mkF m 39 #[.val (.int p1)] [(.int (45 : Int32)), (.int p1)])) t → Steps p.tables e below (s₁.setTop (entryFrame m #[(.int p1)] 1)) t := fun t kt => by
              refine pre49 _ ?_
              show Steps p.tables e below (s₁.setTop (mkF m 27 #[.val (.int p1)] [(.int (48 : Int32)), (.int p1)])) _
              refine XS.icmpYes X0.here hx rfl (pc0 := 27) (pc' := 36) rfl (hb hby d2_27) rfl (tlt hc50).1 (by decide) (by decide) ?_
              show Steps p.tables e below (s₁.setTop (mkF m 36 #[.val (.int p1)] [])) _
              refine XS.iloadN X0.here hx rfl (hb hby d2_36) rfl ?_
              show Steps p.tables e below (s₁.setTop (mkF m 37 #[.val (.int p1)] [(.int p1)])) _
              refine XS.bipush X0.here hx rfl (hb hby d2_37) ?_
              exact kt
            by_cases hc52 : p1 = (45 : Int32)
            · obtain ⟨fs, hr, hrun, hended, hW, hsame⟩ := X0.leave (v := some (.int (1 : Int32))) (fun h => by rw [Bd.returns] at h; cases h)
              refine ⟨_, _, pre51 _ ?_, hrun, hended, _, _, rfl, ?_, ⟨_, rfl⟩, hW, hsame.mono (by decide) (by decide)⟩
              · show Steps p.tables e below (s₁.setTop (mkF m 39 #[.val (.int p1)] [(.int (45 : Int32)), (.int p1)])) _
                refine XS.icmpYes X0.here hx rfl (pc0 := 39) (pc' := 48) rfl (hb hby d2_39) rfl (teq hc52).1 (by decide) (by decide) ?_
                show Steps p.tables e below (s₁.setTop (mkF m 48 #[.val (.int p1)] [])) _
                refine XS.iconst X0.here hx rfl (hb hby d2_48) ?_
                show Steps p.tables e below (s₁.setTop (mkF m 49 #[.val (.int p1)] [(.int (1 : Int32))])) _
                refine XS.goto X0.here hx rfl (pc0 := 49) (pc' := 53) rfl (hb hby d2_49) (by decide) (by decide) ?_
                show Steps p.tables e below (s₁.setTop (mkF m 53 #[.val (.int p1)] [(.int (1 : Int32))])) _
                exact retN X0 hx (t := .boolean) Bd.returns (by simp) (hb hby d2_53) hr
              · show Q2 Z p1 h0 n0 _ s₁.heap _
                rw [e0]
                refine ⟨?_, N0, rfl⟩
                rw [f2, if_neg hc2, if_pos hc32, if_neg hc34, if_pos hc48, if_pos hc50, if_pos hc52]
            · have pre53 : ∀ t, Steps p.tables e below (s₁.setTop (mkF m 45 #[.val (.int p1)] [(.int (95 : Int32)), (.int p1)])) t → Steps p.tables e below (s₁.setTop (entryFrame m #[(.int p1)] 1)) t := fun t kt => by
                refine pre51 _ ?_
                show Steps p.tables e below (s₁.setTop (mkF m 39 #[.val (.int p1)] [(.int (45 : Int32)), (.int p1)])) _
                refine XS.icmpNo X0.here hx rfl (hb hby d2_39) rfl (feq hc52).1 ?_
                show Steps p.tables e below (s₁.setTop (mkF m 42 #[.val (.int p1)] [])) _
                refine XS.iloadN X0.here hx rfl (hb hby d2_42) rfl ?_
                show Steps p.tables e below (s₁.setTop (mkF m 43 #[.val (.int p1)] [(.int p1)])) _
                refine XS.bipush X0.here hx rfl (hb hby d2_43) ?_
                exact kt
              by_cases hc54 : p1 = (95 : Int32)
              · obtain ⟨fs, hr, hrun, hended, hW, hsame⟩ := X0.leave (v := some (.int (1 : Int32))) (fun h => by rw [Bd.returns] at h; cases h)
                refine ⟨_, _, pre53 _ ?_, hrun, hended, _, _, rfl, ?_, ⟨_, rfl⟩, hW, hsame.mono (by decide) (by decide)⟩
                · show Steps p.tables e below (s₁.setTop (mkF m 45 #[.val (.int p1)] [(.int (95 : Int32)), (.int p1)])) _
                  refine XS.icmpNo X0.here hx rfl (hb hby d2_45) rfl (teq hc54).2 ?_
                  show Steps p.tables e below (s₁.setTop (mkF m 48 #[.val (.int p1)] [])) _
                  refine XS.iconst X0.here hx rfl (hb hby d2_48) ?_
                  show Steps p.tables e below (s₁.setTop (mkF m 49 #[.val (.int p1)] [(.int (1 : Int32))])) _
                  refine XS.goto X0.here hx rfl (pc0 := 49) (pc' := 53) rfl (hb hby d2_49) (by decide) (by decide) ?_
                  show Steps p.tables e below (s₁.setTop (mkF m 53 #[.val (.int p1)] [(.int (1 : Int32))])) _
                  exact retN X0 hx (t := .boolean) Bd.returns (by simp) (hb hby d2_53) hr
                · show Q2 Z p1 h0 n0 _ s₁.heap _
                  rw [e0]
                  refine ⟨?_, N0, rfl⟩
                  rw [f2, if_neg hc2, if_pos hc32, if_neg hc34, if_pos hc48, if_pos hc50, if_neg hc52, if_pos hc54]
              · obtain ⟨fs, hr, hrun, hended, hW, hsame⟩ := X0.leave (v := some (.int (0 : Int32))) (fun h => by rw [Bd.returns] at h; cases h)
                refine ⟨_, _, pre53 _ ?_, hrun, hended, _, _, rfl, ?_, ⟨_, rfl⟩, hW, hsame.mono (by decide) (by decide)⟩
                · show Steps p.tables e below (s₁.setTop (mkF m 45 #[.val (.int p1)] [(.int (95 : Int32)), (.int p1)])) _
                  refine XS.icmpYes X0.here hx rfl (pc0 := 45) (pc' := 52) rfl (hb hby d2_45) rfl (feq hc54).2 (by decide) (by decide) ?_
                  show Steps p.tables e below (s₁.setTop (mkF m 52 #[.val (.int p1)] [])) _
                  refine XS.iconst X0.here hx rfl (hb hby d2_52) ?_
                  show Steps p.tables e below (s₁.setTop (mkF m 53 #[.val (.int p1)] [(.int (0 : Int32))])) _
                  exact retN X0 hx (t := .boolean) Bd.returns (by simp) (hb hby d2_53) hr
                · show Q2 Z p1 h0 n0 _ s₁.heap _
                  rw [e0]
                  refine ⟨?_, N0, rfl⟩
                  rw [f2, if_neg hc2, if_pos hc32, if_neg hc34, if_pos hc48, if_pos hc50, if_neg hc52, if_neg hc54]
          · have pre55 : ∀ t, Steps p.tables e below (s₁.setTop (mkF m 33 #[.val (.int p1)] [(.int (57 : Int32)), (.int p1)])) t → Steps p.tables e below (s₁.setTop (entryFrame m #[(.int p1)] 1)) t := fun t kt => by
              refine pre49 _ ?_
              show Steps p.tables e below (s₁.setTop (mkF m 27 #[.val (.int p1)] [(.int (48 : Int32)), (.int p1)])) _
              refine XS.icmpNo X0.here hx rfl (hb hby d2_27) rfl (flt hc50).1 ?_
              show Steps p.tables e below (s₁.setTop (mkF m 30 #[.val (.int p1)] [])) _
              refine XS.iloadN X0.here hx rfl (hb hby d2_30) rfl ?_
              show Steps p.tables e below (s₁.setTop (mkF m 31 #[.val (.int p1)] [(.int p1)])) _
              refine XS.bipush X0.here hx rfl (hb hby d2_31) ?_
              exact kt
            by_cases hc56 : (57 : Int32) < p1
            · have pre57 : ∀ t, Steps p.tables e below (s₁.setTop (mkF m 39 #[.val (.int p1)] [(.int (45 : Int32)), (.int p1)])) t → Steps p.tables e below (s₁.setTop (entryFrame m #[(.int p1)] 1)) t := fun t kt => by
                refine pre55 _ ?_
                show Steps p.tables e below (s₁.setTop (mkF m 33 #[.val (.int p1)] [(.int (57 : Int32)), (.int p1)])) _
                refine XS.icmpNo X0.here hx rfl (hb hby d2_33) rfl (tlt hc56).2.2.2 ?_
                show Steps p.tables e below (s₁.setTop (mkF m 36 #[.val (.int p1)] [])) _
                refine XS.iloadN X0.here hx rfl (hb hby d2_36) rfl ?_
                show Steps p.tables e below (s₁.setTop (mkF m 37 #[.val (.int p1)] [(.int p1)])) _
                refine XS.bipush X0.here hx rfl (hb hby d2_37) ?_
                exact kt
              by_cases hc58 : p1 = (45 : Int32)
              · obtain ⟨fs, hr, hrun, hended, hW, hsame⟩ := X0.leave (v := some (.int (1 : Int32))) (fun h => by rw [Bd.returns] at h; cases h)
                refine ⟨_, _, pre57 _ ?_, hrun, hended, _, _, rfl, ?_, ⟨_, rfl⟩, hW, hsame.mono (by decide) (by decide)⟩
                · show Steps p.tables e below (s₁.setTop (mkF m 39 #[.val (.int p1)] [(.int (45 : Int32)), (.int p1)])) _
                  refine XS.icmpYes X0.here hx rfl (pc0 := 39) (pc' := 48) rfl (hb hby d2_39) rfl (teq hc58).1 (by decide) (by decide) ?_
                  show Steps p.tables e below (s₁.setTop (mkF m 48 #[.val (.int p1)] [])) _
                  refine XS.iconst X0.here hx rfl (hb hby d2_48) ?_
                  show Steps p.tables e below (s₁.setTop (mkF m 49 #[.val (.int p1)] [(.int (1 : Int32))])) _
                  refine XS.goto X0.here hx rfl (pc0 := 49) (pc' := 53) rfl (hb hby d2_49) (by decide) (by decide) ?_
                  show Steps p.tables e below (s₁.setTop (mkF m 53 #[.val (.int p1)] [(.int (1 : Int32))])) _
                  exact retN X0 hx (t := .boolean) Bd.returns (by simp) (hb hby d2_53) hr
                · show Q2 Z p1 h0 n0 _ s₁.heap _
                  rw [e0]
                  refine ⟨?_, N0, rfl⟩
                  rw [f2, if_neg hc2, if_pos hc32, if_neg hc34, if_pos hc48, if_neg hc50, if_pos hc56, if_pos hc58]
              · have pre59 : ∀ t, Steps p.tables e below (s₁.setTop (mkF m 45 #[.val (.int p1)] [(.int (95 : Int32)), (.int p1)])) t → Steps p.tables e below (s₁.setTop (entryFrame m #[(.int p1)] 1)) t := fun t kt => by
                  refine pre57 _ ?_
                  show Steps p.tables e below (s₁.setTop (mkF m 39 #[.val (.int p1)] [(.int (45 : Int32)), (.int p1)])) _
                  refine XS.icmpNo X0.here hx rfl (hb hby d2_39) rfl (feq hc58).1 ?_
                  show Steps p.tables e below (s₁.setTop (mkF m 42 #[.val (.int p1)] [])) _
                  refine XS.iloadN X0.here hx rfl (hb hby d2_42) rfl ?_
                  show Steps p.tables e below (s₁.setTop (mkF m 43 #[.val (.int p1)] [(.int p1)])) _
                  refine XS.bipush X0.here hx rfl (hb hby d2_43) ?_
                  exact kt
                by_cases hc60 : p1 = (95 : Int32)
                · obtain ⟨fs, hr, hrun, hended, hW, hsame⟩ := X0.leave (v := some (.int (1 : Int32))) (fun h => by rw [Bd.returns] at h; cases h)
                  refine ⟨_, _, pre59 _ ?_, hrun, hended, _, _, rfl, ?_, ⟨_, rfl⟩, hW, hsame.mono (by decide) (by decide)⟩
                  · show Steps p.tables e below (s₁.setTop (mkF m 45 #[.val (.int p1)] [(.int (95 : Int32)), (.int p1)])) _
                    refine XS.icmpNo X0.here hx rfl (hb hby d2_45) rfl (teq hc60).2 ?_
                    show Steps p.tables e below (s₁.setTop (mkF m 48 #[.val (.int p1)] [])) _
                    refine XS.iconst X0.here hx rfl (hb hby d2_48) ?_
                    show Steps p.tables e below (s₁.setTop (mkF m 49 #[.val (.int p1)] [(.int (1 : Int32))])) _
                    refine XS.goto X0.here hx rfl (pc0 := 49) (pc' := 53) rfl (hb hby d2_49) (by decide) (by decide) ?_
                    show Steps p.tables e below (s₁.setTop (mkF m 53 #[.val (.int p1)] [(.int (1 : Int32))])) _
                    exact retN X0 hx (t := .boolean) Bd.returns (by simp) (hb hby d2_53) hr
                  · show Q2 Z p1 h0 n0 _ s₁.heap _
                    rw [e0]
                    refine ⟨?_, N0, rfl⟩
                    rw [f2, if_neg hc2, if_pos hc32, if_neg hc34, if_pos hc48, if_neg hc50, if_pos hc56, if_neg hc58, if_pos hc60]
                · obtain ⟨fs, hr, hrun, hended, hW, hsame⟩ := X0.leave (v := some (.int (0 : Int32))) (fun h => by rw [Bd.returns] at h; cases h)
                  refine ⟨_, _, pre59 _ ?_, hrun, hended, _, _, rfl, ?_, ⟨_, rfl⟩, hW, hsame.mono (by decide) (by decide)⟩
                  · show Steps p.tables e below (s₁.setTop (mkF m 45 #[.val (.int p1)] [(.int (95 : Int32)), (.int p1)])) _
                    refine XS.icmpYes X0.here hx rfl (pc0 := 45) (pc' := 52) rfl (hb hby d2_45) rfl (feq hc60).2 (by decide) (by decide) ?_
                    show Steps p.tables e below (s₁.setTop (mkF m 52 #[.val (.int p1)] [])) _
                    refine XS.iconst X0.here hx rfl (hb hby d2_52) ?_
                    show Steps p.tables e below (s₁.setTop (mkF m 53 #[.val (.int p1)] [(.int (0 : Int32))])) _
                    exact retN X0 hx (t := .boolean) Bd.returns (by simp) (hb hby d2_53) hr
                  · show Q2 Z p1 h0 n0 _ s₁.heap _
                    rw [e0]
                    refine ⟨?_, N0, rfl⟩
                    rw [f2, if_neg hc2, if_pos hc32, if_neg hc34, if_pos hc48, if_neg hc50, if_pos hc56, if_neg hc58, if_neg hc60]
            · obtain ⟨fs, hr, hrun, hended, hW, hsame⟩ := X0.leave (v := some (.int (1 : Int32))) (fun h => by rw [Bd.returns] at h; cases h)
              refine ⟨_, _, pre55 _ ?_, hrun, hended, _, _, rfl, ?_, ⟨_, rfl⟩, hW, hsame.mono (by decide) (by decide)⟩
              · show Steps p.tables e below (s₁.setTop (mkF m 33 #[.val (.int p1)] [(.int (57 : Int32)), (.int p1)])) _
                refine XS.icmpYes X0.here hx rfl (pc0 := 33) (pc' := 48) rfl (hb hby d2_33) rfl (flt hc56).2.2.2 (by decide) (by decide) ?_
                show Steps p.tables e below (s₁.setTop (mkF m 48 #[.val (.int p1)] [])) _
                refine XS.iconst X0.here hx rfl (hb hby d2_48) ?_
                show Steps p.tables e below (s₁.setTop (mkF m 49 #[.val (.int p1)] [(.int (1 : Int32))])) _
                refine XS.goto X0.here hx rfl (pc0 := 49) (pc' := 53) rfl (hb hby d2_49) (by decide) (by decide) ?_
                show Steps p.tables e below (s₁.setTop (mkF m 53 #[.val (.int p1)] [(.int (1 : Int32))])) _
                exact retN X0 hx (t := .boolean) Bd.returns (by simp) (hb hby d2_53) hr
              · show Q2 Z p1 h0 n0 _ s₁.heap _
                rw [e0]
                refine ⟨?_, N0, rfl⟩
                rw [f2, if_neg hc2, if_pos hc32, if_neg hc34, if_pos hc48, if_neg hc50, if_neg hc56]
        · obtain ⟨fs, hr, hrun, hended, hW, hsame⟩ := X0.leave (v := some (.int (1 : Int32))) (fun h => by rw [Bd.returns] at h; cases h)
          refine ⟨_, _, pre47 _ ?_, hrun, hended, _, _, rfl, ?_, ⟨_, rfl⟩, hW, hsame.mono (by decide) (by decide)⟩
          · show Steps p.tables e below (s₁.setTop (mkF m 21 #[.val (.int p1)] [(.int (122 : Int32)), (.int p1)])) _
            refine XS.icmpYes X0.here hx rfl (pc0 := 21) (pc' := 48) rfl (hb hby d2_21) rfl (flt hc48).2.2.2 (by decide) (by decide) ?_
            show Steps p.tables e below (s₁.setTop (mkF m 48 #[.val (.int p1)] [])) _
            refine XS.iconst X0.here hx rfl (hb hby d2_48) ?_
            show Steps p.tables e below (s₁.setTop (mkF m 49 #[.val (.int p1)] [(.int (1 : Int32))])) _
            refine XS.goto X0.here hx rfl (pc0 := 49) (pc' := 53) rfl (hb hby d2_49) (by decide) (by decide) ?_
            show Steps p.tables e below (s₁.setTop (mkF m 53 #[.val (.int p1)] [(.int (1 : Int32))])) _
            exact retN X0 hx (t := .boolean) Bd.returns (by simp) (hb hby d2_53) hr
          · show Q2 Z p1 h0 n0 _ s₁.heap _
            rw [e0]
            refine ⟨?_, N0, rfl⟩
            rw [f2, if_neg hc2, if_pos hc32, if_neg hc34, if_neg hc48]
    · obtain ⟨fs, hr, hrun, hended, hW, hsame⟩ := X0.leave (v := some (.int (1 : Int32))) (fun h => by rw [Bd.returns] at h; cases h)
      refine ⟨_, _, pre31 _ ?_, hrun, hended, _, _, rfl, ?_, ⟨_, rfl⟩, hW, hsame.mono (by decide) (by decide)⟩
      · show Steps p.tables e below (s₁.setTop (mkF m 9 #[.val (.int p1)] [(.int (90 : Int32)), (.int p1)])) _
        refine XS.icmpYes X0.here hx rfl (pc0 := 9) (pc' := 48) rfl (hb hby d2_9) rfl (flt hc32).2.2.2 (by decide) (by decide) ?_
        show Steps p.tables e below (s₁.setTop (mkF m 48 #[.val (.int p1)] [])) _
        refine XS.iconst X0.here hx rfl (hb hby d2_48) ?_
        show Steps p.tables e below (s₁.setTop (mkF m 49 #[.val (.int p1)] [(.int (1 : Int32))])) _
        refine XS.goto X0.here hx rfl (pc0 := 49) (pc' := 53) rfl (hb hby d2_49) (by decide) (by decide) ?_
        show Steps p.tables e below (s₁.setTop (mkF m 53 #[.val (.int p1)] [(.int (1 : Int32))])) _
        exact retN X0 hx (t := .boolean) Bd.returns (by simp) (hb hby d2_53) hr
      · show Q2 Z p1 h0 n0 _ s₁.heap _
        rw [e0]
        refine ⟨?_, N0, rfl⟩
        rw [f2, if_neg hc2, if_neg hc32]
theorem d3_0 : decode method_2_code 0 = .ok (.iload_n 0, 1) := by decide +kernel
theorem d3_1 : decode method_2_code 1 = .ok (.ifCond .lt 10, 3) := by decide +kernel
theorem d3_4 : decode method_2_code 4 = .ok (.iload_n 0, 1) := by decide +kernel
theorem d3_5 : decode method_2_code 5 = .ok (.sipush 128, 3) := by decide +kernel
theorem d3_8 : decode method_2_code 8 = .ok (.if_icmp .lt 5, 3) := by decide +kernel
theorem d3_11 : decode method_2_code 11 = .ok (.iconst 0, 1) := by decide +kernel
theorem d3_12 : decode method_2_code 12 = .ok (.ireturn, 1) := by decide +kernel
theorem d3_13 : decode method_2_code 13 = .ok (.iload_n 0, 1) := by decide +kernel
theorem d3_14 : decode method_2_code 14 = .ok (.bipush 64, 2) := by decide +kernel
theorem d3_16 : decode method_2_code 16 = .ok (.if_icmp .ge 9, 3) := by decide +kernel
theorem d3_19 : decode method_2_code 19 = .ok (.ldc2_w 9, 3) := by decide +kernel
theorem d3_22 : decode method_2_code 22 = .ok (.goto 6, 3) := by decide +kernel
theorem d3_25 : decode method_2_code 25 = .ok (.ldc2_w 11, 3) := by decide +kernel
theorem d3_28 : decode method_2_code 28 = .ok (.lstore_n 1, 1) := by decide +kernel
theorem d3_29 : decode method_2_code 29 = .ok (.lload_n 1, 1) := by decide +kernel
theorem d3_30 : decode method_2_code 30 = .ok (.iload_n 0, 1) := by decide +kernel
theorem d3_31 : decode method_2_code 31 = .ok (.bipush 63, 2) := by decide +kernel
theorem d3_33 : decode method_2_code 33 = .ok (.iand, 1) := by decide +kernel
theorem d3_34 : decode method_2_code 34 = .ok (.lushr, 1) := by decide +kernel
theorem d3_35 : decode method_2_code 35 = .ok (.lconst 1, 1) := by decide +kernel
theorem d3_36 : decode method_2_code 36 = .ok (.land, 1) := by decide +kernel
theorem d3_37 : decode method_2_code 37 = .ok (.lconst 0, 1) := by decide +kernel
theorem d3_38 : decode method_2_code 38 = .ok (.lcmp, 1) := by decide +kernel
theorem d3_39 : decode method_2_code 39 = .ok (.ifCond .eq 7, 3) := by decide +kernel
theorem d3_42 : decode method_2_code 42 = .ok (.iconst 1, 1) := by decide +kernel
theorem d3_43 : decode method_2_code 43 = .ok (.goto 4, 3) := by decide +kernel
theorem d3_46 : decode method_2_code 46 = .ok (.iconst 0, 1) := by decide +kernel
theorem d3_47 : decode method_2_code 47 = .ok (.ireturn, 1) := by decide +kernel
theorem pn_3 : plainName "com/example/lokey/lokey/toml/TomlCursorIsBareKeyCharacterPinLaw" = true := by first | (simp [plainName, overriddenIn]; done) | decide +kernel
theorem ef_3 (m : MethodId) (x0 : Int32) : entryFrame m #[(.int x0)] 3 = mkF m 0 #[.val (.int x0), .unset, .unset] [] := by first | (simp [entryFrame, mkF, argsToLocals, Value.category]; done) | rfl
def f3 (p1 : Int32) : Int32 := (if p1 < (0 : Int32) then (0 : Int32) else (if p1 < (128 : Int32) then (if p1 < (64 : Int32) then (if ((((287984085547089920 : Int64).toUInt64 >>> ((p1 &&& (63 : Int32)) &&& 0x3f).toInt64.toUInt64).toInt64) &&& (1 : Int64)) = (0 : Int64) then (0 : Int32) else (1 : Int32)) else (if ((((576460745995190270 : Int64).toUInt64 >>> ((p1 &&& (63 : Int32)) &&& 0x3f).toInt64.toUInt64).toInt64) &&& (1 : Int64)) = (0 : Int64) then (0 : Int32) else (1 : Int32))) else (0 : Int32)))
def Q3 (Z : State) (p1 : Int32) (h0 : Heap) (n0 : Nat) (v : Option Value) (h : Heap) (L : List Loc) : Prop := v = some (.int (f3 p1)) ∧ Fr n0 L ∧ h = h0
set_option maxRecDepth 65536 in
set_option maxHeartbeats 40000000 in
theorem rm3 (l : Launch) (Z : State) (a0 : Array Value) (hw : ∀ d ∈ tables_1, d.before a0 Z = true) (ws : List Jvm.Cond) (p1 : Int32) (h0 : Heap) (n0 : Nat) (Z0 : n0 ≤ h0.size) :
    MetFree l (⟨"com/example/lokey/lokey/toml/TomlCursorIsBareKeyCharacterPinLaw", "reference", "(I)Z"⟩ : MethodName) (head1 (Jvm.Cond.code (⟨"com/example/lokey/lokey/toml/TomlCursorIsBareKeyCharacterPinLaw", "reference", "(I)Z"⟩ : MethodName) method_2_code 3 (some .boolean) :: ws) ({ frames := 0, cells := 0, slots := 0, locals := 0 } : Room)) (fun a U => a = #[(.int p1)] ∧ Z.Warmed39 U.vm ∧ U.heap = h0) (fun _ _ _ _ _ => True) (fun _ U o U' => ∃ v L, o = .returned v ∧ Q3 Z p1 h0 n0 v U'.heap L ∧ FrameEnd U o U' L ({ frames := 0, cells := 0, slots := 0, locals := 0 } : Room).cells ({ frames := 0, cells := 0, slots := 0, locals := 0 } : Room).slots) := by
  refine MetFree.of_bodySF (plainFor_of_name pn_3) hisR ?_
  intro p e s m args below meth c s₁ Bd hml0 hP hK
  obtain ⟨rfl, hZ, hh⟩ := hP
  have hx := Bd.exec
  have hby := Bd.bytes
  have hml : c.maxLocals = 3 := hml0
  have hown : s.vm.findClass "com/example/lokey/lokey/toml/TomlCursorIsBareKeyCharacterPinLaw" = some m.cls := findClass_of_methodNamed Bd.named
  have hnm := (name_of_methodNamed Bd.named Bd.method).1
  have X0 : Stand p l e ({ frames := 0, cells := 0, slots := 0, locals := 0 } : Room) s m #[(.int p1)] below meth c s₁ [] 0 0 := Stand.of_body Bd
  have e0 : s₁.heap = h0 := by rw [← hh, Bd.state]; rfl
  have N0 := Fr.nil n0
  have pre0 : ∀ t, Steps p.tables e below (s₁.setTop (mkF m 0 #[.val (.int p1), .unset, .unset] [])) t → Steps p.tables e below (s₁.setTop (entryFrame m #[(.int p1)] 3)) t := fun t k => castTop (ef_3 m p1) k
  have pre1 : ∀ t, Steps p.tables e below (s₁.setTop (mkF m 1 #[.val (.int p1), .unset, .unset] [(.int p1)])) t → Steps p.tables e below (s₁.setTop (entryFrame m #[(.int p1)] 3)) t := fun t kt => by
    refine pre0 _ ?_
    show Steps p.tables e below (s₁.setTop (mkF m 0 #[.val (.int p1), .unset, .unset] [])) _
    refine XS.iloadN X0.here hx rfl (hb hby d3_0) rfl ?_
    exact kt
  by_cases hc2 : p1 < (0 : Int32)
  · obtain ⟨fs, hr, hrun, hended, hW, hsame⟩ := X0.leave (v := some (.int (0 : Int32))) (fun h => by rw [Bd.returns] at h; cases h)
    refine ⟨_, _, pre1 _ ?_, hrun, hended, _, _, rfl, ?_, ⟨_, rfl⟩, hW, hsame.mono (by decide) (by decide)⟩
    · show Steps p.tables e below (s₁.setTop (mkF m 1 #[.val (.int p1), .unset, .unset] [(.int p1)])) _
      refine XS.ifYes X0.here hx rfl (pc0 := 1) (pc' := 11) rfl (hb hby d3_1) rfl ((if0 _ _).trans (tlt hc2).1) (by decide) (by decide) ?_
      show Steps p.tables e below (s₁.setTop (mkF m 11 #[.val (.int p1), .unset, .unset] [])) _
      refine XS.iconst X0.here hx rfl (hb hby d3_11) ?_
      show Steps p.tables e below (s₁.setTop (mkF m 12 #[.val (.int p1), .unset, .unset] [(.int (0 : Int32))])) _
      exact retN X0 hx (t := .boolean) Bd.returns (by simp) (hb hby d3_12) hr
    · show Q3 Z p1 h0 n0 _ s₁.heap _
      rw [e0]
      refine ⟨?_, N0, rfl⟩
      rw [f3, if_pos hc2]
  · have pre3 : ∀ t, Steps p.tables e below (s₁.setTop (mkF m 8 #[.val (.int p1), .unset, .unset] [(.int (128 : Int32)), (.int p1)])) t → Steps p.tables e below (s₁.setTop (entryFrame m #[(.int p1)] 3)) t := fun t kt => by
      refine pre1 _ ?_
      show Steps p.tables e below (s₁.setTop (mkF m 1 #[.val (.int p1), .unset, .unset] [(.int p1)])) _
      refine XS.ifNo X0.here hx rfl (hb hby d3_1) rfl ((if0 _ _).trans (flt hc2).1) ?_
      show Steps p.tables e below (s₁.setTop (mkF m 4 #[.val (.int p1), .unset, .unset] [])) _
      refine XS.iloadN X0.here hx rfl (hb hby d3_4) rfl ?_
      show Steps p.tables e below (s₁.setTop (mkF m 5 #[.val (.int p1), .unset, .unset] [(.int p1)])) _
      refine XS.sipush X0.here hx rfl (hb hby d3_5) ?_
      exact kt
    by_cases hc4 : p1 < (128 : Int32)
    · have pre5 : ∀ t, Steps p.tables e below (s₁.setTop (mkF m 16 #[.val (.int p1), .unset, .unset] [(.int (64 : Int32)), (.int p1)])) t → Steps p.tables e below (s₁.setTop (entryFrame m #[(.int p1)] 3)) t := fun t kt => by
        refine pre3 _ ?_
        show Steps p.tables e below (s₁.setTop (mkF m 8 #[.val (.int p1), .unset, .unset] [(.int (128 : Int32)), (.int p1)])) _
        refine XS.icmpYes X0.here hx rfl (pc0 := 8) (pc' := 13) rfl (hb hby d3_8) rfl (tlt hc4).1 (by decide) (by decide) ?_
        show Steps p.tables e below (s₁.setTop (mkF m 13 #[.val (.int p1), .unset, .unset] [])) _
        refine XS.iloadN X0.here hx rfl (hb hby d3_13) rfl ?_
        show Steps p.tables e below (s₁.setTop (mkF m 14 #[.val (.int p1), .unset, .unset] [(.int p1)])) _
        refine XS.bipush X0.here hx rfl (hb hby d3_14) ?_
        exact kt
      by_cases hc6 : p1 < (64 : Int32)
      · have pre7 : ∀ t, Steps p.tables e below (s₁.setTop (mkF m 39 #[.val (.int p1), .val (.long (287984085547089920 : Int64)), .second] [(.int (lcmpW ((((287984085547089920 : Int64).toUInt64 >>> ((p1 &&& (63 : Int32)) &&& 0x3f).toInt64.toUInt64).toInt64) &&& (1 : Int64)) (0 : Int64)))])) t → Steps p.tables e below (s₁.setTop (entryFrame m #[(.int p1)] 3)) t := fun t kt => by
          refine pre5 _ ?_
          show Steps p.tables e below (s₁.setTop (mkF m 16 #[.val (.int p1), .unset, .unset] [(.int (64 : Int32)), (.int p1)])) _
          refine XS.icmpNo X0.here hx rfl (hb hby d3_16) rfl (tlt hc6).2.1 ?_
          show Steps p.tables e below (s₁.setTop (mkF m 19 #[.val (.int p1), .unset, .unset] [])) _
          refine X0.ldc2Long hx hown (mvT hZ (hw _ (List.mem_of_getElem? (i := 11) rfl))) (g := (mkF m 19 #[.val (.int p1), .unset, .unset] [])) rfl (hb hby d3_19) _ ?_
          show Steps p.tables e below (s₁.setTop (mkF m 22 #[.val (.int p1), .unset, .unset] [(.long (287984085547089920 : Int64))])) _
          refine XS.goto X0.here hx rfl (pc0 := 22) (pc' := 28) rfl (hb hby d3_22) (by decide) (by decide) ?_
          show Steps p.tables e below (s₁.setTop (mkF m 28 #[.val (.int p1), .unset, .unset] [(.long (287984085547089920 : Int64))])) _
          refine XS.lstoreN X0.here hx rfl (hb hby d3_28) rfl (l' := #[.val (.int p1), .val (.long (287984085547089920 : Int64)), .second]) rfl ?_
          show Steps p.tables e below (s₁.setTop (mkF m 29 #[.val (.int p1), .val (.long (287984085547089920 : Int64)), .second] [])) _
          refine XS.lloadN X0.here hx rfl (hb hby d3_29) rfl ?_
          show Steps p.tables e below (s₁.setTop (mkF m 30 #[.val (.int p1), .val (.long (287984085547089920 : Int64)), .second] [(.long (287984085547089920 : Int64))])) _
          refine XS.iloadN X0.here hx rfl (hb hby d3_30) rfl ?_
          show Steps p.tables e below (s₁.setTop (mkF m 31 #[.val (.int p1), .val (.long (287984085547089920 : Int64)), .second] [(.int p1), (.long (287984085547089920 : Int64))])) _
          refine XS.bipush X0.here hx rfl (hb hby d3_31) ?_
          show Steps p.tables e below (s₁.setTop (mkF m 33 #[.val (.int p1), .val (.long (287984085547089920 : Int64)), .second] [(.int (63 : Int32)), (.int p1), (.long (287984085547089920 : Int64))])) _
          refine XS.iand X0.here hx rfl (hb hby d3_33) rfl ?_
          show Steps p.tables e below (s₁.setTop (mkF m 34 #[.val (.int p1), .val (.long (287984085547089920 : Int64)), .second] [(.int (p1 &&& (63 : Int32))), (.long (287984085547089920 : Int64))])) _
          refine XS.lushr X0.here hx rfl (hb hby d3_34) rfl ?_
          show Steps p.tables e below (s₁.setTop (mkF m 35 #[.val (.int p1), .val (.long (287984085547089920 : Int64)), .second] [(.long (((287984085547089920 : Int64).toUInt64 >>> ((p1 &&& (63 : Int32)) &&& 0x3f).toInt64.toUInt64).toInt64))])) _
          refine XS.lconst X0.here hx rfl (hb hby d3_35) ?_
          show Steps p.tables e below (s₁.setTop (mkF m 36 #[.val (.int p1), .val (.long (287984085547089920 : Int64)), .second] [(.long (1 : Int64)), (.long (((287984085547089920 : Int64).toUInt64 >>> ((p1 &&& (63 : Int32)) &&& 0x3f).toInt64.toUInt64).toInt64))])) _
          refine XS.land X0.here hx rfl (hb hby d3_36) rfl ?_
          show Steps p.tables e below (s₁.setTop (mkF m 37 #[.val (.int p1), .val (.long (287984085547089920 : Int64)), .second] [(.long ((((287984085547089920 : Int64).toUInt64 >>> ((p1 &&& (63 : Int32)) &&& 0x3f).toInt64.toUInt64).toInt64) &&& (1 : Int64)))])) _
          refine XS.lconst X0.here hx rfl (hb hby d3_37) ?_
          show Steps p.tables e below (s₁.setTop (mkF m 38 #[.val (.int p1), .val (.long (287984085547089920 : Int64)), .second] [(.long (0 : Int64)), (.long ((((287984085547089920 : Int64).toUInt64 >>> ((p1 &&& (63 : Int32)) &&& 0x3f).toInt64.toUInt64).toInt64) &&& (1 : Int64)))])) _
          refine XS.lcmp X0.here hx rfl (hb hby d3_38) rfl ?_
          exact kt
        by_cases hc8 : ((((287984085547089920 : Int64).toUInt64 >>> ((p1 &&& (63 : Int32)) &&& 0x3f).toInt64.toUInt64).toInt64) &&& (1 : Int64)) = (0 : Int64)
        · obtain ⟨fs, hr, hrun, hended, hW, hsame⟩ := X0.leave (v := some (.int (0 : Int32))) (fun h => by rw [Bd.returns] at h; cases h)
          refine ⟨_, _, pre7 _ ?_, hrun, hended, _, _, rfl, ?_, ⟨_, rfl⟩, hW, hsame.mono (by decide) (by decide)⟩
          · show Steps p.tables e below (s₁.setTop (mkF m 39 #[.val (.int p1), .val (.long (287984085547089920 : Int64)), .second] [(.int (lcmpW ((((287984085547089920 : Int64).toUInt64 >>> ((p1 &&& (63 : Int32)) &&& 0x3f).toInt64.toUInt64).toInt64) &&& (1 : Int64)) (0 : Int64)))])) _
            refine XS.ifYes X0.here hx rfl (pc0 := 39) (pc' := 46) rfl (hb hby d3_39) rfl ((if0 _ _).trans (teq ((lw_eq ((((287984085547089920 : Int64).toUInt64 >>> ((p1 &&& (63 : Int32)) &&& 0x3f).toInt64.toUInt64).toInt64) &&& (1 : Int64)) (0 : Int64)).mpr hc8)).1) (by decide) (by decide) ?_
            show Steps p.tables e below (s₁.setTop (mkF m 46 #[.val (.int p1), .val (.long (287984085547089920 : Int64)), .second] [])) _
            refine XS.iconst X0.here hx rfl (hb hby d3_46) ?_
            show Steps p.tables e below (s₁.setTop (mkF m 47 #[.val (.int p1), .val (.long (287984085547089920 : Int64)), .second] [(.int (0 : Int32))])) _
            exact retN X0 hx (t := .boolean) Bd.returns (by simp) (hb hby d3_47) hr
          · show Q3 Z p1 h0 n0 _ s₁.heap _
            rw [e0]
            refine ⟨?_, N0, rfl⟩
            rw [f3, if_neg hc2, if_pos hc4, if_pos hc6, if_pos hc8]
        · obtain ⟨fs, hr, hrun, hended, hW, hsame⟩ := X0.leave (v := some (.int (1 : Int32))) (fun h => by rw [Bd.returns] at h; cases h)
          refine ⟨_, _, pre7 _ ?_, hrun, hended, _, _, rfl, ?_, ⟨_, rfl⟩, hW, hsame.mono (by decide) (by decide)⟩
          · show Steps p.tables e below (s₁.setTop (mkF m 39 #[.val (.int p1), .val (.long (287984085547089920 : Int64)), .second] [(.int (lcmpW ((((287984085547089920 : Int64).toUInt64 >>> ((p1 &&& (63 : Int32)) &&& 0x3f).toInt64.toUInt64).toInt64) &&& (1 : Int64)) (0 : Int64)))])) _
            refine XS.ifNo X0.here hx rfl (hb hby d3_39) rfl ((if0 _ _).trans (feq (mt (lw_eq ((((287984085547089920 : Int64).toUInt64 >>> ((p1 &&& (63 : Int32)) &&& 0x3f).toInt64.toUInt64).toInt64) &&& (1 : Int64)) (0 : Int64)).mp hc8)).1) ?_
            show Steps p.tables e below (s₁.setTop (mkF m 42 #[.val (.int p1), .val (.long (287984085547089920 : Int64)), .second] [])) _
            refine XS.iconst X0.here hx rfl (hb hby d3_42) ?_
            show Steps p.tables e below (s₁.setTop (mkF m 43 #[.val (.int p1), .val (.long (287984085547089920 : Int64)), .second] [(.int (1 : Int32))])) _
            refine XS.goto X0.here hx rfl (pc0 := 43) (pc' := 47) rfl (hb hby d3_43) (by decide) (by decide) ?_
            show Steps p.tables e below (s₁.setTop (mkF m 47 #[.val (.int p1), .val (.long (287984085547089920 : Int64)), .second] [(.int (1 : Int32))])) _
            exact retN X0 hx (t := .boolean) Bd.returns (by simp) (hb hby d3_47) hr
          · show Q3 Z p1 h0 n0 _ s₁.heap _
            rw [e0]
            refine ⟨?_, N0, rfl⟩
            rw [f3, if_neg hc2, if_pos hc4, if_pos hc6, if_neg hc8]
      · have pre9 : ∀ t, Steps p.tables e below (s₁.setTop (mkF m 39 #[.val (.int p1), .val (.long (576460745995190270 : Int64)), .second] [(.int (lcmpW ((((576460745995190270 : Int64).toUInt64 >>> ((p1 &&& (63 : Int32)) &&& 0x3f).toInt64.toUInt64).toInt64) &&& (1 : Int64)) (0 : Int64)))])) t → Steps p.tables e below (s₁.setTop (entryFrame m #[(.int p1)] 3)) t := fun t kt => by
          refine pre5 _ ?_
          show Steps p.tables e below (s₁.setTop (mkF m 16 #[.val (.int p1), .unset, .unset] [(.int (64 : Int32)), (.int p1)])) _
          refine XS.icmpYes X0.here hx rfl (pc0 := 16) (pc' := 25) rfl (hb hby d3_16) rfl (flt hc6).2.1 (by decide) (by decide) ?_
          show Steps p.tables e below (s₁.setTop (mkF m 25 #[.val (.int p1), .unset, .unset] [])) _
          refine X0.ldc2Long hx hown (mvT hZ (hw _ (List.mem_of_getElem? (i := 12) rfl))) (g := (mkF m 25 #[.val (.int p1), .unset, .unset] [])) rfl (hb hby d3_25) _ ?_
          show Steps p.tables e below (s₁.setTop (mkF m 28 #[.val (.int p1), .unset, .unset] [(.long (576460745995190270 : Int64))])) _
          refine XS.lstoreN X0.here hx rfl (hb hby d3_28) rfl (l' := #[.val (.int p1), .val (.long (576460745995190270 : Int64)), .second]) rfl ?_
          show Steps p.tables e below (s₁.setTop (mkF m 29 #[.val (.int p1), .val (.long (576460745995190270 : Int64)), .second] [])) _
          refine XS.lloadN X0.here hx rfl (hb hby d3_29) rfl ?_
          show Steps p.tables e below (s₁.setTop (mkF m 30 #[.val (.int p1), .val (.long (576460745995190270 : Int64)), .second] [(.long (576460745995190270 : Int64))])) _
          refine XS.iloadN X0.here hx rfl (hb hby d3_30) rfl ?_
          show Steps p.tables e below (s₁.setTop (mkF m 31 #[.val (.int p1), .val (.long (576460745995190270 : Int64)), .second] [(.int p1), (.long (576460745995190270 : Int64))])) _
          refine XS.bipush X0.here hx rfl (hb hby d3_31) ?_
          show Steps p.tables e below (s₁.setTop (mkF m 33 #[.val (.int p1), .val (.long (576460745995190270 : Int64)), .second] [(.int (63 : Int32)), (.int p1), (.long (576460745995190270 : Int64))])) _
          refine XS.iand X0.here hx rfl (hb hby d3_33) rfl ?_
          show Steps p.tables e below (s₁.setTop (mkF m 34 #[.val (.int p1), .val (.long (576460745995190270 : Int64)), .second] [(.int (p1 &&& (63 : Int32))), (.long (576460745995190270 : Int64))])) _
          refine XS.lushr X0.here hx rfl (hb hby d3_34) rfl ?_
          show Steps p.tables e below (s₁.setTop (mkF m 35 #[.val (.int p1), .val (.long (576460745995190270 : Int64)), .second] [(.long (((576460745995190270 : Int64).toUInt64 >>> ((p1 &&& (63 : Int32)) &&& 0x3f).toInt64.toUInt64).toInt64))])) _
          refine XS.lconst X0.here hx rfl (hb hby d3_35) ?_
          show Steps p.tables e below (s₁.setTop (mkF m 36 #[.val (.int p1), .val (.long (576460745995190270 : Int64)), .second] [(.long (1 : Int64)), (.long (((576460745995190270 : Int64).toUInt64 >>> ((p1 &&& (63 : Int32)) &&& 0x3f).toInt64.toUInt64).toInt64))])) _
          refine XS.land X0.here hx rfl (hb hby d3_36) rfl ?_
          show Steps p.tables e below (s₁.setTop (mkF m 37 #[.val (.int p1), .val (.long (576460745995190270 : Int64)), .second] [(.long ((((576460745995190270 : Int64).toUInt64 >>> ((p1 &&& (63 : Int32)) &&& 0x3f).toInt64.toUInt64).toInt64) &&& (1 : Int64)))])) _
          refine XS.lconst X0.here hx rfl (hb hby d3_37) ?_
          show Steps p.tables e below (s₁.setTop (mkF m 38 #[.val (.int p1), .val (.long (576460745995190270 : Int64)), .second] [(.long (0 : Int64)), (.long ((((576460745995190270 : Int64).toUInt64 >>> ((p1 &&& (63 : Int32)) &&& 0x3f).toInt64.toUInt64).toInt64) &&& (1 : Int64)))])) _
          refine XS.lcmp X0.here hx rfl (hb hby d3_38) rfl ?_
          exact kt
        by_cases hc10 : ((((576460745995190270 : Int64).toUInt64 >>> ((p1 &&& (63 : Int32)) &&& 0x3f).toInt64.toUInt64).toInt64) &&& (1 : Int64)) = (0 : Int64)
        · obtain ⟨fs, hr, hrun, hended, hW, hsame⟩ := X0.leave (v := some (.int (0 : Int32))) (fun h => by rw [Bd.returns] at h; cases h)
          refine ⟨_, _, pre9 _ ?_, hrun, hended, _, _, rfl, ?_, ⟨_, rfl⟩, hW, hsame.mono (by decide) (by decide)⟩
          · show Steps p.tables e below (s₁.setTop (mkF m 39 #[.val (.int p1), .val (.long (576460745995190270 : Int64)), .second] [(.int (lcmpW ((((576460745995190270 : Int64).toUInt64 >>> ((p1 &&& (63 : Int32)) &&& 0x3f).toInt64.toUInt64).toInt64) &&& (1 : Int64)) (0 : Int64)))])) _
            refine XS.ifYes X0.here hx rfl (pc0 := 39) (pc' := 46) rfl (hb hby d3_39) rfl ((if0 _ _).trans (teq ((lw_eq ((((576460745995190270 : Int64).toUInt64 >>> ((p1 &&& (63 : Int32)) &&& 0x3f).toInt64.toUInt64).toInt64) &&& (1 : Int64)) (0 : Int64)).mpr hc10)).1) (by decide) (by decide) ?_
            show Steps p.tables e below (s₁.setTop (mkF m 46 #[.val (.int p1), .val (.long (576460745995190270 : Int64)), .second] [])) _
            refine XS.iconst X0.here hx rfl (hb hby d3_46) ?_
            show Steps p.tables e below (s₁.setTop (mkF m 47 #[.val (.int p1), .val (.long (576460745995190270 : Int64)), .second] [(.int (0 : Int32))])) _
            exact retN X0 hx (t := .boolean) Bd.returns (by simp) (hb hby d3_47) hr
          · show Q3 Z p1 h0 n0 _ s₁.heap _
            rw [e0]
            refine ⟨?_, N0, rfl⟩
            rw [f3, if_neg hc2, if_pos hc4, if_neg hc6, if_pos hc10]
        · obtain ⟨fs, hr, hrun, hended, hW, hsame⟩ := X0.leave (v := some (.int (1 : Int32))) (fun h => by rw [Bd.returns] at h; cases h)
          refine ⟨_, _, pre9 _ ?_, hrun, hended, _, _, rfl, ?_, ⟨_, rfl⟩, hW, hsame.mono (by decide) (by decide)⟩
          · show Steps p.tables e below (s₁.setTop (mkF m 39 #[.val (.int p1), .val (.long (576460745995190270 : Int64)), .second] [(.int (lcmpW ((((576460745995190270 : Int64).toUInt64 >>> ((p1 &&& (63 : Int32)) &&& 0x3f).toInt64.toUInt64).toInt64) &&& (1 : Int64)) (0 : Int64)))])) _
            refine XS.ifNo X0.here hx rfl (hb hby d3_39) rfl ((if0 _ _).trans (feq (mt (lw_eq ((((576460745995190270 : Int64).toUInt64 >>> ((p1 &&& (63 : Int32)) &&& 0x3f).toInt64.toUInt64).toInt64) &&& (1 : Int64)) (0 : Int64)).mp hc10)).1) ?_
            show Steps p.tables e below (s₁.setTop (mkF m 42 #[.val (.int p1), .val (.long (576460745995190270 : Int64)), .second] [])) _
            refine XS.iconst X0.here hx rfl (hb hby d3_42) ?_
            show Steps p.tables e below (s₁.setTop (mkF m 43 #[.val (.int p1), .val (.long (576460745995190270 : Int64)), .second] [(.int (1 : Int32))])) _
            refine XS.goto X0.here hx rfl (pc0 := 43) (pc' := 47) rfl (hb hby d3_43) (by decide) (by decide) ?_
            show Steps p.tables e below (s₁.setTop (mkF m 47 #[.val (.int p1), .val (.long (576460745995190270 : Int64)), .second] [(.int (1 : Int32))])) _
            exact retN X0 hx (t := .boolean) Bd.returns (by simp) (hb hby d3_47) hr
          · show Q3 Z p1 h0 n0 _ s₁.heap _
            rw [e0]
            refine ⟨?_, N0, rfl⟩
            rw [f3, if_neg hc2, if_pos hc4, if_neg hc6, if_neg hc10]
    · obtain ⟨fs, hr, hrun, hended, hW, hsame⟩ := X0.leave (v := some (.int (0 : Int32))) (fun h => by rw [Bd.returns] at h; cases h)
      refine ⟨_, _, pre3 _ ?_, hrun, hended, _, _, rfl, ?_, ⟨_, rfl⟩, hW, hsame.mono (by decide) (by decide)⟩
      · show Steps p.tables e below (s₁.setTop (mkF m 8 #[.val (.int p1), .unset, .unset] [(.int (128 : Int32)), (.int p1)])) _
        refine XS.icmpNo X0.here hx rfl (hb hby d3_8) rfl (flt hc4).1 ?_
        show Steps p.tables e below (s₁.setTop (mkF m 11 #[.val (.int p1), .unset, .unset] [])) _
        refine XS.iconst X0.here hx rfl (hb hby d3_11) ?_
        show Steps p.tables e below (s₁.setTop (mkF m 12 #[.val (.int p1), .unset, .unset] [(.int (0 : Int32))])) _
        exact retN X0 hx (t := .boolean) Bd.returns (by simp) (hb hby d3_12) hr
      · show Q3 Z p1 h0 n0 _ s₁.heap _
        rw [e0]
        refine ⟨?_, N0, rfl⟩
        rw [f3, if_neg hc2, if_neg hc4]
theorem own_small {n : Nat} (P : Int32 → Prop) (h : ∀ i : Fin n, P (Int32.ofNat i.1)) {x : Int32} (h0 : ¬ x < 0) (h1 : x.toInt < n) : P x := by
  have e0 : (0 : Int32).toInt = 0 := by decide
  have hx : Int32.ofNat x.toNatClampNeg = x := (back32 h0).1
  have hp : 0 ≤ x.toInt := by rw [Int32.lt_iff_toInt_lt] at h0; omega
  have hlt : x.toNatClampNeg < n := by
    show x.toInt.toNat < n
    omega
  have q := h ⟨x.toNatClampNeg, hlt⟩
  rw [← hx]; exact q
theorem own_far (x : Int32) (h : x < 0 ∨ ¬ x < 128) : f2 x = 0 := by
  have l0 : (0 : Int32).toInt = 0 := by decide
  have l45 : (45 : Int32).toInt = 45 := by decide
  have l48 : (48 : Int32).toInt = 48 := by decide
  have l57 : (57 : Int32).toInt = 57 := by decide
  have l65 : (65 : Int32).toInt = 65 := by decide
  have l90 : (90 : Int32).toInt = 90 := by decide
  have l95 : (95 : Int32).toInt = 95 := by decide
  have l97 : (97 : Int32).toInt = 97 := by decide
  have l122 : (122 : Int32).toInt = 122 := by decide
  have l128 : (128 : Int32).toInt = 128 := by decide
  unfold f2
  repeat' split
  all_goals first | rfl | (exfalso; simp only [Int32.lt_iff_toInt_lt, Int32.le_iff_toInt_le, ← Int32.toInt_inj, l0, l45, l48, l57, l65, l90, l95, l97, l122, l128] at *; omega)
theorem own_eq (x : Int32) : f2 x = f3 x := by
  by_cases h : x < 0
  · rw [own_far x (Or.inl h), f3, if_pos h]
  · by_cases h' : x < 128
    · refine own_small (n := 128) (fun x => f2 x = f3 x) (by decide +kernel) h ?_
      have l128 : (128 : Int32).toInt = 128 := by decide
      rw [Int32.lt_iff_toInt_lt] at h'; omega
    · rw [own_far x (Or.inr h'), f3, if_neg h, if_neg h']
theorem d1_0 : decode method_3_code 0 = .ok (.iload_n 0, 1) := by decide +kernel
theorem d1_1 : decode method_3_code 1 = .ok (.invokestatic 13, 3) := by decide +kernel
theorem d1_4 : decode method_3_code 4 = .ok (.iload_n 0, 1) := by decide +kernel
theorem d1_5 : decode method_3_code 5 = .ok (.invokestatic 19, 3) := by decide +kernel
theorem d1_8 : decode method_3_code 8 = .ok (.if_icmp .ne 7, 3) := by decide +kernel
theorem d1_11 : decode method_3_code 11 = .ok (.iconst 1, 1) := by decide +kernel
theorem d1_12 : decode method_3_code 12 = .ok (.goto 4, 3) := by decide +kernel
theorem d1_16 : decode method_3_code 16 = .ok (.ireturn, 1) := by decide +kernel
theorem pn_1 : plainName "com/example/lokey/lokey/toml/TomlCursorIsBareKeyCharacterPinLaw" = true := by first | (simp [plainName, overriddenIn]; done) | decide +kernel
theorem pd_1_0 : parseMethodDescriptor "(I)Z" = some ⟨[.int], some .boolean⟩ := by decide +kernel
theorem ef_1 (m : MethodId) (x0 : Int32) : entryFrame m #[(.int x0)] 1 = mkF m 0 #[.val (.int x0)] [] := by first | (simp [entryFrame, mkF, argsToLocals, Value.category]; done) | rfl
def f1 (p1 : Int32) : Int32 := (1 : Int32)
def Q1 (Z : State) (p1 : Int32) (h0 : Heap) (n0 : Nat) (v : Option Value) (h : Heap) (L : List Loc) : Prop := v = some (.int (f1 p1)) ∧ Fr n0 L ∧ h = h0
set_option maxRecDepth 65536 in
set_option maxHeartbeats 40000000 in
theorem rm1 (l : Launch) (Z : State) (a0 : Array Value) (hw : ∀ d ∈ tables_1, d.before a0 Z = true) (ws : List Jvm.Cond) (p1 : Int32) (h0 : Heap) (n0 : Nat) (Z0 : n0 ≤ h0.size) :
    MetFree l (⟨"com/example/lokey/lokey/toml/TomlCursorIsBareKeyCharacterPinLaw", "agrees", "(I)Z"⟩ : MethodName) (head1 (Jvm.Cond.code (⟨"com/example/lokey/lokey/toml/TomlCursorIsBareKeyCharacterPinLaw", "agrees", "(I)Z"⟩ : MethodName) method_3_code 1 (some .boolean) :: ws) ({ frames := 1, cells := 0, slots := 0, locals := 15 } : Room)) (fun a U => a = #[(.int p1)] ∧ Z.Warmed39 U.vm ∧ U.heap = h0) (fun _ _ _ _ _ => True) (fun _ U o U' => ∃ v L, o = .returned v ∧ Q1 Z p1 h0 n0 v U'.heap L ∧ FrameEnd U o U' L ({ frames := 1, cells := 0, slots := 0, locals := 15 } : Room).cells ({ frames := 1, cells := 0, slots := 0, locals := 15 } : Room).slots) := by
  refine MetFree.of_bodySF (plainFor_of_name pn_1) hisR ?_
  intro p e s m args below meth c s₁ Bd hml0 hP hK
  obtain ⟨rfl, hZ, hh⟩ := hP
  have hx := Bd.exec
  have hby := Bd.bytes
  have hml : c.maxLocals = 1 := hml0
  have hown : s.vm.findClass "com/example/lokey/lokey/toml/TomlCursorIsBareKeyCharacterPinLaw" = some m.cls := findClass_of_methodNamed Bd.named
  have hnm := (name_of_methodNamed Bd.named Bd.method).1
  have X0 : Stand p l e ({ frames := 1, cells := 0, slots := 0, locals := 15 } : Room) s m #[(.int p1)] below meth c s₁ [] 0 0 := Stand.of_body Bd
  have e0 : s₁.heap = h0 := by rw [← hh, Bd.state]; rfl
  have N0 := Fr.nil n0
  have pre0 : ∀ t, Steps p.tables e below (s₁.setTop (mkF m 0 #[.val (.int p1)] [])) t → Steps p.tables e below (s₁.setTop (entryFrame m #[(.int p1)] 1)) t := fun t k => castTop (ef_1 m p1) k
  obtain ⟨_, _, ⟨T1, L1, k1, n1⟩, -, X1, ⟨Lc1, hQ1, l1, y1, z1⟩, st1⟩ := Jvm.LawKit.callS X0 hx (y := (⟨"com/example/lokey/lokey/toml/TomlCursor", "isBareKeyCharacter", "(I)Z"⟩ : MethodName)) hown (mvT hZ (hw _ (List.mem_of_getElem? (i := 4) rfl))) (mvT hZ (hw _ (List.mem_of_getElem? (i := 5) rfl))) (mvT hZ (hw _ (List.mem_of_getElem? (i := 6) rfl))) (mvT hZ (hw _ (List.mem_of_getElem? (i := 7) rfl))) (by decide) (backOf (W := 0) (rm2 l Z a0 hw [] p1  h0 n0 Z0 ) hZ (hw _ (List.mem_of_getElem? (i := 7) rfl)) (hw _ (List.mem_of_getElem? (i := 6) rfl)) (by decide) (by decide)) (g := (mkF m 1 #[.val (.int p1)] [(.int p1)])) rfl (by rw [hml]; rfl) (argsL := [(.int p1)]) (rest := []) (lenOf pd_1_0 rfl) rfl (by show 2 * 0 + _ ≤ _; exact Nat.le_of_eq rfl) (hb hby d1_1) (fun _ _ => ⟨rfl, e0, (by decide : 0 + 0 ≤ _), (by decide : 0 + 0 ≤ _)⟩)
  dsimp only [Pt.U, Pt.locs, Pt.cells, Pt.slots] at X1 l1 y1 z1 st1 hQ1
  subst l1 y1 z1
  obtain ⟨rfl, N1q, e1⟩ := hQ1
  have N1 := Fr.app N0 N1q
  obtain ⟨_, _, ⟨T2, L2, k2, n2⟩, -, X2, ⟨Lc2, hQ2, l2, y2, z2⟩, st2⟩ := Jvm.LawKit.callS X1 hx (y := (⟨"com/example/lokey/lokey/toml/TomlCursorIsBareKeyCharacterPinLaw", "reference", "(I)Z"⟩ : MethodName)) hown (mvT hZ (hw _ (List.mem_of_getElem? (i := 8) rfl))) (mvT hZ (hw _ (List.mem_of_getElem? (i := 9) rfl))) (mvT hZ (hw _ (List.mem_of_getElem? (i := 2) rfl))) (mvT hZ (hw _ (List.mem_of_getElem? (i := 10) rfl))) (by decide) (backOf (W := 1) (rm3 l Z a0 hw [] p1  h0 n0 Z0 ) hZ (hw _ (List.mem_of_getElem? (i := 10) rfl)) (hw _ (List.mem_of_getElem? (i := 2) rfl)) (by decide) (by decide)) (g := (mkF m 5 #[.val (.int p1)] [(.int p1), (.int (f2 p1))])) rfl (by rw [hml]; rfl) (argsL := [(.int p1)]) (rest := [(.int (f2 p1))]) (lenOf pd_1_0 rfl) rfl (by show 2 * 0 + _ ≤ _; exact Nat.le_of_eq rfl) (hb hby d1_5) (fun _ _ => ⟨rfl, e1, (by decide : 0 + 0 ≤ _), (by decide : 0 + 0 ≤ _)⟩)
  dsimp only [Pt.U, Pt.locs, Pt.cells, Pt.slots] at X2 l2 y2 z2 st2 hQ2
  subst l2 y2 z2
  obtain ⟨rfl, N2q, e2⟩ := hQ2
  have N2 := Fr.app N1 N2q
  obtain ⟨fs, hr, hrun, hended, hW, hsame⟩ := X2.leave (v := some (.int (1 : Int32))) (fun h => by rw [Bd.returns] at h; cases h)
  refine ⟨_, _, pre0 _ ?_, hrun, hended, _, _, rfl, ?_, ⟨_, rfl⟩, hW, hsame.mono (by decide) (by decide)⟩
  · show Steps p.tables e below (s₁.setTop (mkF m 0 #[.val (.int p1)] [])) _
    refine XS.iloadN X0.here hx rfl (hb hby d1_0) rfl ?_
    show Steps p.tables e below (s₁.setTop (mkF m 1 #[.val (.int p1)] [(.int p1)])) _
    refine st1 _ ?_
    show Steps p.tables e below (T1.setTop (mkF m 4 #[.val (.int p1)] [(.int (f2 p1))])) _
    refine XS.iloadN X1.here hx rfl (hb hby d1_4) rfl ?_
    show Steps p.tables e below (T1.setTop (mkF m 5 #[.val (.int p1)] [(.int p1), (.int (f2 p1))])) _
    refine st2 _ ?_
    show Steps p.tables e below (T2.setTop (mkF m 8 #[.val (.int p1)] [(.int (f3 p1)), (.int (f2 p1))])) _
    refine XS.icmpNo X2.here hx rfl (hb hby d1_8) rfl (teq (own_eq p1)).2 ?_
    show Steps p.tables e below (T2.setTop (mkF m 11 #[.val (.int p1)] [])) _
    refine XS.iconst X2.here hx rfl (hb hby d1_11) ?_
    show Steps p.tables e below (T2.setTop (mkF m 12 #[.val (.int p1)] [(.int (1 : Int32))])) _
    refine XS.goto X2.here hx rfl (pc0 := 12) (pc' := 16) rfl (hb hby d1_12) (by decide) (by decide) ?_
    show Steps p.tables e below (T2.setTop (mkF m 16 #[.val (.int p1)] [(.int (1 : Int32))])) _
    exact retN X2 hx (t := .boolean) Bd.returns (by simp) (hb hby d1_16) hr
  · show Q1 Z p1 h0 n0 _ T2.heap _
    rw [e2]
    refine ⟨?_, N2, rfl⟩
    rw [f1]
theorem own_ag (x : Int32) : ¬ (f1 x = (0 : Int32)) := by rw [f1]; decide
theorem pn_0 : plainName "com/example/lokey/lokey/toml/TomlCursorIsBareKeyCharacterPinLaw" = true := by first | (simp [plainName, overriddenIn]; done) | decide +kernel
theorem pd_0_0 : parseMethodDescriptor "(I)Z" = some ⟨[.int], some .boolean⟩ := by decide +kernel
theorem ef_0 (m : MethodId) (x0 : Int32) (x1 : Int32) : entryFrame m #[(.int x0), (.int x1)] maxLocals = mkF m 0 #[.val (.int x0), .val (.int x1), .unset, .unset, .unset] [] := by first | (simp [entryFrame, mkF, argsToLocals, Value.category, maxLocals]; done) | rfl
def f0 (p1 : Int32) (p2 : Int32) : Int32 := (1 : Int32)
def Q0 (Z : State) (p1 : Int32) (p2 : Int32) (h0 : Heap) (n0 : Nat) (v : Option Value) (h : Heap) (L : List Loc) : Prop := v = some (.int (f0 p1 p2)) ∧ Fr n0 L ∧ h = h0
set_option maxRecDepth 65536 in
set_option maxHeartbeats 40000000 in
theorem rm0 (l : Launch) (Z : State) (a0 : Array Value) (hw : ∀ d ∈ tables_1, d.before a0 Z = true) (ws : List Jvm.Cond) (p1 : Int32) (p2 : Int32) (h0 : Heap) (n0 : Nat) (Z0 : n0 ≤ h0.size) :
    MetFree l x (head1 (Jvm.Cond.code x code maxLocals ret :: ws) room_1) (fun a U => a = #[(.int p1), (.int p2)] ∧ Z.Warmed39 U.vm ∧ U.heap = h0) (fun _ _ _ _ _ => True) (fun _ U o U' => ∃ v L, o = .returned v ∧ Q0 Z p1 p2 h0 n0 v U'.heap L ∧ FrameEnd U o U' L room_1.cells room_1.slots) := by
  refine MetFree.of_bodySF (plainFor_of_name pn_0) hisR ?_
  intro p e s m args below meth c s₁ Bd hml0 hP hK
  obtain ⟨rfl, hZ, hh⟩ := hP
  have hx := Bd.exec
  have hby := Bd.bytes
  have hml : c.maxLocals = 5 := hml0
  have hown : s.vm.findClass "com/example/lokey/lokey/toml/TomlCursorIsBareKeyCharacterPinLaw" = some m.cls := findClass_of_methodNamed Bd.named
  have hnm := (name_of_methodNamed Bd.named Bd.method).1
  have X0 : Stand p l e room_1 s m #[(.int p1), (.int p2)] below meth c s₁ [] 0 0 := Stand.of_body Bd
  have e0 : s₁.heap = h0 := by rw [← hh, Bd.state]; rfl
  have N0 := Fr.nil n0
  have pre0 : ∀ t, Steps p.tables e below (s₁.setTop (mkF m 0 #[.val (.int p1), .val (.int p2), .unset, .unset, .unset] [])) t → Steps p.tables e below (s₁.setTop (entryFrame m #[(.int p1), (.int p2)] maxLocals)) t := fun t k => castTop (ef_0 m p1 p2) k
  obtain ⟨_, _, ⟨T1, L1, k1, n1⟩, -, X1, ⟨Lc1, hQ1, l1, y1, z1⟩, st1⟩ := Jvm.LawKit.callS X0 hx (y := (⟨"com/example/lokey/lokey/toml/TomlCursorIsBareKeyCharacterPinLaw", "agrees", "(I)Z"⟩ : MethodName)) hown (mvT hZ (hw _ (List.mem_of_getElem? (i := 0) rfl))) (mvT hZ (hw _ (List.mem_of_getElem? (i := 1) rfl))) (mvT hZ (hw _ (List.mem_of_getElem? (i := 2) rfl))) (mvT hZ (hw _ (List.mem_of_getElem? (i := 3) rfl))) (by decide) (backOf (W := 0) (rm1 l Z a0 hw [] p1  h0 n0 Z0 ) hZ (hw _ (List.mem_of_getElem? (i := 3) rfl)) (hw _ (List.mem_of_getElem? (i := 2) rfl)) (by decide) (by decide)) (g := (mkF m 21 #[.val (.int p1), .val (.int p2), .val (.int p1), .val (.int (p2 &&& (255 : Int32))), .val (.int ((p2 &&& (127 : Int32)) ||| (p1 &&& (-256 : Int32))))] [(.int p1)])) rfl (by rw [hml]; rfl) (argsL := [(.int p1)]) (rest := []) (lenOf pd_0_0 rfl) rfl (by show 2 * 0 + _ ≤ _; exact Nat.le_of_eq rfl) (hb hby at_21) (fun _ _ => ⟨rfl, e0, (by decide : 0 + 0 ≤ _), (by decide : 0 + 0 ≤ _)⟩)
  dsimp only [Pt.U, Pt.locs, Pt.cells, Pt.slots] at X1 l1 y1 z1 st1 hQ1
  subst l1 y1 z1
  obtain ⟨rfl, N1q, e1⟩ := hQ1
  have N1 := Fr.app N0 N1q
  obtain ⟨_, _, ⟨T2, L2, k2, n2⟩, -, X2, ⟨Lc2, hQ2, l2, y2, z2⟩, st2⟩ := Jvm.LawKit.callS X1 hx (y := (⟨"com/example/lokey/lokey/toml/TomlCursorIsBareKeyCharacterPinLaw", "agrees", "(I)Z"⟩ : MethodName)) hown (mvT hZ (hw _ (List.mem_of_getElem? (i := 0) rfl))) (mvT hZ (hw _ (List.mem_of_getElem? (i := 1) rfl))) (mvT hZ (hw _ (List.mem_of_getElem? (i := 2) rfl))) (mvT hZ (hw _ (List.mem_of_getElem? (i := 3) rfl))) (by decide) (backOf (W := 0) (rm1 l Z a0 hw [] (p2 &&& (255 : Int32))  h0 n0 Z0 ) hZ (hw _ (List.mem_of_getElem? (i := 3) rfl)) (hw _ (List.mem_of_getElem? (i := 2) rfl)) (by decide) (by decide)) (g := (mkF m 28 #[.val (.int p1), .val (.int p2), .val (.int p1), .val (.int (p2 &&& (255 : Int32))), .val (.int ((p2 &&& (127 : Int32)) ||| (p1 &&& (-256 : Int32))))] [(.int (p2 &&& (255 : Int32)))])) rfl (by rw [hml]; rfl) (argsL := [(.int (p2 &&& (255 : Int32)))]) (rest := []) (lenOf pd_0_0 rfl) rfl (by show 2 * 0 + _ ≤ _; exact Nat.le_of_eq rfl) (hb hby at_28) (fun _ _ => ⟨rfl, e1, (by decide : 0 + 0 ≤ _), (by decide : 0 + 0 ≤ _)⟩)
  dsimp only [Pt.U, Pt.locs, Pt.cells, Pt.slots] at X2 l2 y2 z2 st2 hQ2
  subst l2 y2 z2
  obtain ⟨rfl, N2q, e2⟩ := hQ2
  have N2 := Fr.app N1 N2q
  obtain ⟨_, _, ⟨T3, L3, k3, n3⟩, -, X3, ⟨Lc3, hQ3, l3, y3, z3⟩, st3⟩ := Jvm.LawKit.callS X2 hx (y := (⟨"com/example/lokey/lokey/toml/TomlCursorIsBareKeyCharacterPinLaw", "agrees", "(I)Z"⟩ : MethodName)) hown (mvT hZ (hw _ (List.mem_of_getElem? (i := 0) rfl))) (mvT hZ (hw _ (List.mem_of_getElem? (i := 1) rfl))) (mvT hZ (hw _ (List.mem_of_getElem? (i := 2) rfl))) (mvT hZ (hw _ (List.mem_of_getElem? (i := 3) rfl))) (by decide) (backOf (W := 0) (rm1 l Z a0 hw [] ((p2 &&& (127 : Int32)) ||| (p1 &&& (-256 : Int32)))  h0 n0 Z0 ) hZ (hw _ (List.mem_of_getElem? (i := 3) rfl)) (hw _ (List.mem_of_getElem? (i := 2) rfl)) (by decide) (by decide)) (g := (mkF m 36 #[.val (.int p1), .val (.int p2), .val (.int p1), .val (.int (p2 &&& (255 : Int32))), .val (.int ((p2 &&& (127 : Int32)) ||| (p1 &&& (-256 : Int32))))] [(.int ((p2 &&& (127 : Int32)) ||| (p1 &&& (-256 : Int32))))])) rfl (by rw [hml]; rfl) (argsL := [(.int ((p2 &&& (127 : Int32)) ||| (p1 &&& (-256 : Int32))))]) (rest := []) (lenOf pd_0_0 rfl) rfl (by show 2 * 0 + _ ≤ _; exact Nat.le_of_eq rfl) (hb hby at_36) (fun _ _ => ⟨rfl, e2, (by decide : 0 + 0 ≤ _), (by decide : 0 + 0 ≤ _)⟩)
  dsimp only [Pt.U, Pt.locs, Pt.cells, Pt.slots] at X3 l3 y3 z3 st3 hQ3
  subst l3 y3 z3
  obtain ⟨rfl, N3q, e3⟩ := hQ3
  have N3 := Fr.app N2 N3q
  obtain ⟨fs, hr, hrun, hended, hW, hsame⟩ := X3.leave (v := some (.int (1 : Int32))) (fun h => by rw [Bd.returns] at h; cases h)
  refine ⟨_, _, pre0 _ ?_, hrun, hended, _, _, rfl, ?_, ⟨_, rfl⟩, hW, hsame.mono (by decide) (by decide)⟩
  · show Steps p.tables e below (s₁.setTop (mkF m 0 #[.val (.int p1), .val (.int p2), .unset, .unset, .unset] [])) _
    refine XS.iloadN X0.here hx rfl (hb hby at_0) rfl ?_
    show Steps p.tables e below (s₁.setTop (mkF m 1 #[.val (.int p1), .val (.int p2), .unset, .unset, .unset] [(.int p1)])) _
    refine XS.istoreN X0.here hx rfl (hb hby at_1) rfl (l' := #[.val (.int p1), .val (.int p2), .val (.int p1), .unset, .unset]) rfl ?_
    show Steps p.tables e below (s₁.setTop (mkF m 2 #[.val (.int p1), .val (.int p2), .val (.int p1), .unset, .unset] [])) _
    refine XS.iloadN X0.here hx rfl (hb hby at_2) rfl ?_
    show Steps p.tables e below (s₁.setTop (mkF m 3 #[.val (.int p1), .val (.int p2), .val (.int p1), .unset, .unset] [(.int p2)])) _
    refine XS.sipush X0.here hx rfl (hb hby at_3) ?_
    show Steps p.tables e below (s₁.setTop (mkF m 6 #[.val (.int p1), .val (.int p2), .val (.int p1), .unset, .unset] [(.int (255 : Int32)), (.int p2)])) _
    refine XS.iand X0.here hx rfl (hb hby at_6) rfl ?_
    show Steps p.tables e below (s₁.setTop (mkF m 7 #[.val (.int p1), .val (.int p2), .val (.int p1), .unset, .unset] [(.int (p2 &&& (255 : Int32)))])) _
    refine XS.istoreN X0.here hx rfl (hb hby at_7) rfl (l' := #[.val (.int p1), .val (.int p2), .val (.int p1), .val (.int (p2 &&& (255 : Int32))), .unset]) rfl ?_
    show Steps p.tables e below (s₁.setTop (mkF m 8 #[.val (.int p1), .val (.int p2), .val (.int p1), .val (.int (p2 &&& (255 : Int32))), .unset] [])) _
    refine XS.iloadN X0.here hx rfl (hb hby at_8) rfl ?_
    show Steps p.tables e below (s₁.setTop (mkF m 9 #[.val (.int p1), .val (.int p2), .val (.int p1), .val (.int (p2 &&& (255 : Int32))), .unset] [(.int p2)])) _
    refine XS.bipush X0.here hx rfl (hb hby at_9) ?_
    show Steps p.tables e below (s₁.setTop (mkF m 11 #[.val (.int p1), .val (.int p2), .val (.int p1), .val (.int (p2 &&& (255 : Int32))), .unset] [(.int (127 : Int32)), (.int p2)])) _
    refine XS.iand X0.here hx rfl (hb hby at_11) rfl ?_
    show Steps p.tables e below (s₁.setTop (mkF m 12 #[.val (.int p1), .val (.int p2), .val (.int p1), .val (.int (p2 &&& (255 : Int32))), .unset] [(.int (p2 &&& (127 : Int32)))])) _
    refine XS.iloadN X0.here hx rfl (hb hby at_12) rfl ?_
    show Steps p.tables e below (s₁.setTop (mkF m 13 #[.val (.int p1), .val (.int p2), .val (.int p1), .val (.int (p2 &&& (255 : Int32))), .unset] [(.int p1), (.int (p2 &&& (127 : Int32)))])) _
    refine XS.sipush X0.here hx rfl (hb hby at_13) ?_
    show Steps p.tables e below (s₁.setTop (mkF m 16 #[.val (.int p1), .val (.int p2), .val (.int p1), .val (.int (p2 &&& (255 : Int32))), .unset] [(.int (-256 : Int32)), (.int p1), (.int (p2 &&& (127 : Int32)))])) _
    refine XS.iand X0.here hx rfl (hb hby at_16) rfl ?_
    show Steps p.tables e below (s₁.setTop (mkF m 17 #[.val (.int p1), .val (.int p2), .val (.int p1), .val (.int (p2 &&& (255 : Int32))), .unset] [(.int (p1 &&& (-256 : Int32))), (.int (p2 &&& (127 : Int32)))])) _
    refine XS.ior X0.here hx rfl (hb hby at_17) rfl ?_
    show Steps p.tables e below (s₁.setTop (mkF m 18 #[.val (.int p1), .val (.int p2), .val (.int p1), .val (.int (p2 &&& (255 : Int32))), .unset] [(.int ((p2 &&& (127 : Int32)) ||| (p1 &&& (-256 : Int32))))])) _
    refine XS.istore X0.here hx rfl (hb hby at_18) rfl (l' := #[.val (.int p1), .val (.int p2), .val (.int p1), .val (.int (p2 &&& (255 : Int32))), .val (.int ((p2 &&& (127 : Int32)) ||| (p1 &&& (-256 : Int32))))]) rfl ?_
    show Steps p.tables e below (s₁.setTop (mkF m 20 #[.val (.int p1), .val (.int p2), .val (.int p1), .val (.int (p2 &&& (255 : Int32))), .val (.int ((p2 &&& (127 : Int32)) ||| (p1 &&& (-256 : Int32))))] [])) _
    refine XS.iloadN X0.here hx rfl (hb hby at_20) rfl ?_
    show Steps p.tables e below (s₁.setTop (mkF m 21 #[.val (.int p1), .val (.int p2), .val (.int p1), .val (.int (p2 &&& (255 : Int32))), .val (.int ((p2 &&& (127 : Int32)) ||| (p1 &&& (-256 : Int32))))] [(.int p1)])) _
    refine st1 _ ?_
    show Steps p.tables e below (T1.setTop (mkF m 24 #[.val (.int p1), .val (.int p2), .val (.int p1), .val (.int (p2 &&& (255 : Int32))), .val (.int ((p2 &&& (127 : Int32)) ||| (p1 &&& (-256 : Int32))))] [(.int (f1 p1))])) _
    refine XS.ifNo X1.here hx rfl (hb hby at_24) rfl ((if0 _ _).trans (feq (own_ag p1)).1) ?_
    show Steps p.tables e below (T1.setTop (mkF m 27 #[.val (.int p1), .val (.int p2), .val (.int p1), .val (.int (p2 &&& (255 : Int32))), .val (.int ((p2 &&& (127 : Int32)) ||| (p1 &&& (-256 : Int32))))] [])) _
    refine XS.iloadN X1.here hx rfl (hb hby at_27) rfl ?_
    show Steps p.tables e below (T1.setTop (mkF m 28 #[.val (.int p1), .val (.int p2), .val (.int p1), .val (.int (p2 &&& (255 : Int32))), .val (.int ((p2 &&& (127 : Int32)) ||| (p1 &&& (-256 : Int32))))] [(.int (p2 &&& (255 : Int32)))])) _
    refine st2 _ ?_
    show Steps p.tables e below (T2.setTop (mkF m 31 #[.val (.int p1), .val (.int p2), .val (.int p1), .val (.int (p2 &&& (255 : Int32))), .val (.int ((p2 &&& (127 : Int32)) ||| (p1 &&& (-256 : Int32))))] [(.int (f1 (p2 &&& (255 : Int32))))])) _
    refine XS.ifNo X2.here hx rfl (hb hby at_31) rfl ((if0 _ _).trans (feq (own_ag (p2 &&& (255 : Int32)))).1) ?_
    show Steps p.tables e below (T2.setTop (mkF m 34 #[.val (.int p1), .val (.int p2), .val (.int p1), .val (.int (p2 &&& (255 : Int32))), .val (.int ((p2 &&& (127 : Int32)) ||| (p1 &&& (-256 : Int32))))] [])) _
    refine XS.iload X2.here hx rfl (hb hby at_34) rfl ?_
    show Steps p.tables e below (T2.setTop (mkF m 36 #[.val (.int p1), .val (.int p2), .val (.int p1), .val (.int (p2 &&& (255 : Int32))), .val (.int ((p2 &&& (127 : Int32)) ||| (p1 &&& (-256 : Int32))))] [(.int ((p2 &&& (127 : Int32)) ||| (p1 &&& (-256 : Int32))))])) _
    refine st3 _ ?_
    show Steps p.tables e below (T3.setTop (mkF m 39 #[.val (.int p1), .val (.int p2), .val (.int p1), .val (.int (p2 &&& (255 : Int32))), .val (.int ((p2 &&& (127 : Int32)) ||| (p1 &&& (-256 : Int32))))] [(.int (f1 ((p2 &&& (127 : Int32)) ||| (p1 &&& (-256 : Int32)))))])) _
    refine XS.ifNo X3.here hx rfl (hb hby at_39) rfl ((if0 _ _).trans (feq (own_ag ((p2 &&& (127 : Int32)) ||| (p1 &&& (-256 : Int32))))).1) ?_
    show Steps p.tables e below (T3.setTop (mkF m 42 #[.val (.int p1), .val (.int p2), .val (.int p1), .val (.int (p2 &&& (255 : Int32))), .val (.int ((p2 &&& (127 : Int32)) ||| (p1 &&& (-256 : Int32))))] [])) _
    refine XS.iconst X3.here hx rfl (hb hby at_42) ?_
    show Steps p.tables e below (T3.setTop (mkF m 43 #[.val (.int p1), .val (.int p2), .val (.int p1), .val (.int (p2 &&& (255 : Int32))), .val (.int ((p2 &&& (127 : Int32)) ||| (p1 &&& (-256 : Int32))))] [(.int (1 : Int32))])) _
    refine XS.goto X3.here hx rfl (pc0 := 43) (pc' := 47) rfl (hb hby at_43) (by decide) (by decide) ?_
    show Steps p.tables e below (T3.setTop (mkF m 47 #[.val (.int p1), .val (.int p2), .val (.int p1), .val (.int (p2 &&& (255 : Int32))), .val (.int ((p2 &&& (127 : Int32)) ||| (p1 &&& (-256 : Int32))))] [(.int (1 : Int32))])) _
    exact retN X3 hx (t := .boolean) Bd.returns (by simp) (hb hby at_47) hr
  · show Q0 Z p1 p2 h0 n0 _ T3.heap _
    rw [e3]
    refine ⟨?_, N3, rfl⟩
    rw [f0]
set_option maxRecDepth 65536 in
set_option maxHeartbeats 40000000 in
theorem comes_1 {Post : Tables → Env → Array Value → State → Outcome → State → Prop} (hpost : ∀ tb e args s v u, (limb_1_1.after args s (.returned v) u = true ∧ limb_1_2.after args s (.returned v) u = true ∧ True) → FrameEnd s (.returned v) u (Jvm.fieldLocs frame_1_writes args s ++ Jvm.arrayLocs frame_1_arrays args s ++ Jvm.staticLocs frame_1_statics s) 0 0 → Post tb e args s (.returned v) u) :
    ArmFor flags0 classFile x code maxLocals ret World_1 tables_1 room_1 Calls_1 rest_1 Pre_1 Post := by
  intro l hfl _ _ p e ha hc hk s m args below hf hA hF happ hP
  obtain ⟨hcalls, hrest, hpre⟩ := hP
  obtain ⟨-, -, -, hnamed, -, -, -, hat⟩ := (Spec.applies_iff hf).mp happ
  obtain ⟨hg, hn⟩ := and_e (Cond.before_iff.mp (show (Jvm.Cond.and given_1 narrow_1).before args s = true from hpre))
  obtain ⟨g1, g2⟩ := and_e hg
  obtain ⟨g3, g4⟩ := and_e g2
  obtain ⟨w0, w1, rfl⟩ : ∃ w0 w1 : Value, args = #[w0, w1] := by
    have hs : args.size = 2 := by simpa [Cond.value, given_1] using g1
    obtain ⟨L⟩ := args
    match L, hs with
    | [w0, w1], _ => exact ⟨w0, w1, rfl⟩
  have hw := fun d (hd : d ∈ tables_1) => atoms_spec (ws := Jvm.Cond.code x code maxLocals ret :: tables_1) hat d (List.mem_cons_of_mem _ hd)
  have hfit : Fit s := fun {y c} hc i hi => by
    obtain ⟨ha, rfl⟩ := Array.getElem?_eq_some_iff.mp hc
    have q := List.all_eq_true.mp ((Array.all_eq_true_iff_forall_mem.mp hF) _ (Array.getElem_mem ha)) i (List.mem_range.mpr hi)
    simpa [Array.getElem?_eq_getElem hi] using q
  obtain ⟨i0, ei0⟩ := is_v g3
  obtain rfl : w0 = (.int i0) := Option.some.inj ei0
  obtain ⟨i1, ei1⟩ := is_v g4
  obtain rfl : w1 = (.int i1) := Option.some.inj ei1
  obtain ⟨n, o, h1, h2, h3, v, L, rfl, hQ, hq⟩ := rm0 l s _ hw tables_1 i0 i1  s.heap s.heap.size (Nat.le_refl _)  p e ha hc hk s m _ below hf ((Spec.applies_iff_loose hf).mp happ).1 ⟨rfl, State.Warmed39.refl s, rfl⟩ trivial
  obtain ⟨hv, N, -⟩ := hQ
  rw [f0] at hv
  subst hv
  refine ⟨n, _, h1, h2, h3, hpost _ _ _ _ _ _ ⟨Cond.after_iff.mpr rfl, Cond.after_iff.mpr (eq_i res_at (Term.int_eval (1)) rfl), trivial⟩ ⟨hq.1, hq.2.1, (hq.2.2.sift fun y hy => Or.inr (N y hy)).mono (by decide) (by decide)⟩⟩
theorem main_1_1 : Claimed_1_1 := comes_1 fun _ _ _ _ _ _ h hF => ⟨h.1, hF⟩
theorem main_1_2 : Claimed_1_2 := comes_1 fun _ _ _ _ _ _ h hF => ⟨h.2.1, hF⟩
end Jvm.Pilot.@@N@@
namespace Jvm.Pilot.@@N@@
open Jvm Jvm.ClassFile Sem Op Lib Jvm.Free Jvm.Stand Jvm.Pilot.@@N@@.Jvm.D
/-! MADE BY PROGRAM (witnessworld.py) out of the Statement's table words and the real class files: 9 classes; the members and pool entries that the words name. The judged class is class 1, her method 3. -/
namespace start1
open Jvm.ClassFile
def u (s : String) : CpInfo := .utf8 (stringToUtf16 s)
/-- a pool by its gaps: so many unusable entries, then the entry; so many at the end -/
def gap : Nat → List CpInfo → List CpInfo
  | 0, r => r
  | n + 1, r => .unusable :: gap n r
def poolList (es : List (Nat × CpInfo)) (last : Nat) : List CpInfo := es.foldr (fun e r => gap e.1 (e.2 :: r)) (gap last [])
def pool (es : List (Nat × CpInfo)) (last : Nat) : Array CpInfo := ⟨poolList es last⟩
def fileOf (pool : Array CpInfo) (this : Nat) (attrs : Array Attribute := #[]) (ms : Array MethodInfo := #[]) (fl : Nat := 33) (sup : Nat := 0) (ifs : Array Nat := #[]) (fds : Array FieldInfo := #[]) : ClassFile where
  minorVersion := 0
  majorVersion := 65
  constantPool := pool
  accessFlags := fl
  thisClass := this
  superClass := sup
  interfaces := ifs
  fields := fds
  methods := ms
  attributes := attrs
def plain (name : String) (sup : Option ClassId) : Class where
  name := name
  kind := .ordinary
  loader := none
  accessFlags := 33
  super := sup
  interfaces := #[]
  cf := none
  fields := #[]
  methods := #[]
  instanceTypes := #[]
  staticTypes := #[]
  resolved := #[]
  callSites := []
  init := .initialized
  statics := none
  mirror := none

def pool0 : Array CpInfo := pool [(5, u "<init>"), (0, u "()V"), (1, .class_ 10), (1, u "java/lang/Object")] 113

def k0m0 : Method := { name := "<init>", desc := "()V", sig := { parameters := [], returnType := none }, accessFlags := 1, code := none }
/-- java/lang/Object -/
def k0 : Class := { plain "java/lang/Object" none with
  accessFlags := 33
  interfaces := #[]
  cf := some (fileOf pool0 8 #[] #[{ accessFlags := 1, nameIndex := 5, descriptorIndex := 6, attributes := #[] }] 33 0 #[] #[])
  fields := #[]
  methods := #[k0m0]
  instanceTypes := #[]
  staticTypes := #[]
  resolved := Array.replicate 124 none
  statics := none }

def pool1 : Array CpInfo := pool [(2, .class_ 4), (1, u "java/lang/Object"), (0, u "<init>"), (0, u "()V"), (0, .class_ 8), (0, u "com/example/lokey/lokey/toml/TomlCursorIsBareKeyCharacterPinLaw"), (0, .long 287984085547089920), (1, .long 576460745995190270), (1, .methodref 14 15), (0, .class_ 16), (0, .nameAndType 17 18), (0, u "com/example/lokey/lokey/toml/TomlCursor"), (0, u "isBareKeyCharacter"), (0, u "(I)Z"), (0, .methodref 7 20), (0, .nameAndType 21 18), (0, u "reference"), (0, .methodref 7 23), (0, .nameAndType 24 18), (0, u "agrees"), (0, u "LOW"), (0, u "J"), (1, u "HIGH"), (3, u "law"), (0, u "(II)Z")] 2

def k1m0 : Method := { name := "<init>", desc := "()V", sig := { parameters := [], returnType := none }, accessFlags := 2, code := none }
def k1c1 : Code := { maxStack := 4, maxLocals := 3, code := method_2_code, exceptionTable := #[], attributes := #[] }
def k1m1 : Method := { name := "reference", desc := "(I)Z", sig := { parameters := [.int], returnType := some .boolean }, accessFlags := 10, code := some k1c1 }
def k1c2 : Code := { maxStack := 2, maxLocals := 1, code := method_3_code, exceptionTable := #[], attributes := #[] }
def k1m2 : Method := { name := "agrees", desc := "(I)Z", sig := { parameters := [.int], returnType := some .boolean }, accessFlags := 10, code := some k1c2 }
def k1c3 : Code := { maxStack := 3, maxLocals := 5, code := code, exceptionTable := #[], attributes := #[] }
def k1m3 : Method := { name := "law", desc := "(II)Z", sig := { parameters := [.int, .int], returnType := some .boolean }, accessFlags := 9, code := some k1c3 }
/-- com/example/lokey/lokey/toml/TomlCursorIsBareKeyCharacterPinLaw -/
def k1 : Class := { plain "com/example/lokey/lokey/toml/TomlCursorIsBareKeyCharacterPinLaw" (some 0) with
  accessFlags := 49
  interfaces := #[]
  cf := some (fileOf pool1 7 #[] #[{ accessFlags := 2, nameIndex := 5, descriptorIndex := 6, attributes := #[] }, { accessFlags := 10, nameIndex := 21, descriptorIndex := 18, attributes := #[] }, { accessFlags := 10, nameIndex := 24, descriptorIndex := 18, attributes := #[] }, { accessFlags := 9, nameIndex := 32, descriptorIndex := 33, attributes := #[] }] 49 2 #[] #[{ accessFlags := 26, nameIndex := 25, descriptorIndex := 26, attributes := #[] }, { accessFlags := 26, nameIndex := 28, descriptorIndex := 26, attributes := #[] }])
  fields := #[{ name := "LOW", type := .long, accessFlags := 26, slot := 0, constantValue := 0 }, { name := "HIGH", type := .long, accessFlags := 26, slot := 1, constantValue := 0 }]
  methods := #[k1m0, k1m1, k1m2, k1m3]
  instanceTypes := #[]
  staticTypes := #[.long, .long]
  resolved := Array.replicate 36 none
  statics := none }

def pool2 : Array CpInfo := pool [(4, .class_ 6), (1, u "java/lang/Object"), (5, .class_ 14), (1, u "com/example/lokey/lokey/toml/TomlCursor"), (0, u "chars"), (0, u "Ljava/lang/String;"), (2, u "line"), (0, u "I"), (2, u "text"), (0, u "Lcom/example/lokey/lokey/input/InputText;"), (6, u "charsFrom"), (2, u "charsLimit"), (31, u "charsLength"), (6, u "charsToEnd"), (0, u "Z"), (5, u "pos"), (4, u "(I)Z"), (76, u "END"), (2, u "LOOKAHEAD"), (10, u "isBareKeyCharacter")] 25

def k2c0 : Code := { maxStack := 2, maxLocals := 1, code := prog_83_method_18_code, exceptionTable := #[], attributes := #[] }
def k2m0 : Method := { name := "isBareKeyCharacter", desc := "(I)Z", sig := { parameters := [.int], returnType := some .boolean }, accessFlags := 8, code := some k2c0 }
/-- com/example/lokey/lokey/toml/TomlCursor -/
def k2 : Class := { plain "com/example/lokey/lokey/toml/TomlCursor" (some 0) with
  accessFlags := 48
  interfaces := #[]
  cf := some (fileOf pool2 12 #[] #[{ accessFlags := 8, nameIndex := 176, descriptorIndex := 85, attributes := #[] }] 48 4 #[] #[{ accessFlags := 24, nameIndex := 162, descriptorIndex := 20, attributes := #[] }, { accessFlags := 26, nameIndex := 165, descriptorIndex := 20, attributes := #[] }, { accessFlags := 16, nameIndex := 23, descriptorIndex := 24, attributes := #[] }, { accessFlags := 0, nameIndex := 80, descriptorIndex := 20, attributes := #[] }, { accessFlags := 2, nameIndex := 15, descriptorIndex := 16, attributes := #[] }, { accessFlags := 2, nameIndex := 31, descriptorIndex := 20, attributes := #[] }, { accessFlags := 2, nameIndex := 66, descriptorIndex := 20, attributes := #[] }, { accessFlags := 2, nameIndex := 73, descriptorIndex := 74, attributes := #[] }, { accessFlags := 2, nameIndex := 34, descriptorIndex := 20, attributes := #[] }, { accessFlags := 2, nameIndex := 19, descriptorIndex := 20, attributes := #[] }])
  fields := #[{ name := "END", type := .int, accessFlags := 24, slot := 0, constantValue := 0 }, { name := "LOOKAHEAD", type := .int, accessFlags := 26, slot := 1, constantValue := 0 }, { name := "text", type := (.object "com/example/lokey/lokey/input/InputText"), accessFlags := 16, slot := 0, constantValue := 0 }, { name := "pos", type := .int, accessFlags := 0, slot := 1, constantValue := 0 }, { name := "chars", type := (.object "java/lang/String"), accessFlags := 2, slot := 2, constantValue := 0 }, { name := "charsFrom", type := .int, accessFlags := 2, slot := 3, constantValue := 0 }, { name := "charsLength", type := .int, accessFlags := 2, slot := 4, constantValue := 0 }, { name := "charsToEnd", type := .boolean, accessFlags := 2, slot := 5, constantValue := 0 }, { name := "charsLimit", type := .int, accessFlags := 2, slot := 6, constantValue := 0 }, { name := "line", type := .int, accessFlags := 2, slot := 7, constantValue := 0 }]
  methods := #[k2m0]
  instanceTypes := #[(.object "com/example/lokey/lokey/input/InputText"), .int, (.object "java/lang/String"), .int, .int, .boolean, .int, .int]
  staticTypes := #[.int, .int]
  resolved := Array.replicate 202 none
  statics := none }

def pool3 : Array CpInfo := pool [(1, u "java/lang/Cloneable"), (0, .class_ 1), (0, u "java/lang/Object"), (0, .class_ 3)] 3

/-- java/lang/Cloneable -/
def k3 : Class := { plain "java/lang/Cloneable" (some 0) with
  accessFlags := 1537
  interfaces := #[]
  cf := some (fileOf pool3 2 #[] #[] 1537 4 #[] #[])
  fields := #[]
  methods := #[]
  instanceTypes := #[]
  staticTypes := #[]
  resolved := Array.replicate 8 none
  statics := none }

def pool4 : Array CpInfo := pool [(1, u "java/io/Serializable"), (0, .class_ 1), (0, u "java/lang/Object"), (0, .class_ 3)] 3

/-- java/io/Serializable -/
def k4 : Class := { plain "java/io/Serializable" (some 0) with
  accessFlags := 1537
  interfaces := #[]
  cf := some (fileOf pool4 2 #[] #[] 1537 4 #[] #[])
  fields := #[]
  methods := #[]
  instanceTypes := #[]
  staticTypes := #[]
  resolved := Array.replicate 8 none
  statics := none }

/-- the primitive byte -/
def k5 : Class := { plain "byte" none with kind := .primitive 'B', accessFlags := 0x411 }
/-- [B -/
def k6 : Class := { plain "[B" (some 0) with kind := .array 5 .byte, interfaces := #[3, 4], accessFlags := 1041 }

/-- the primitive int -/
def k7 : Class := { plain "int" none with kind := .primitive 'I', accessFlags := 0x411 }
/-- [I -/
def k8 : Class := { plain "[I" (some 0) with kind := .array 7 .int, interfaces := #[3, 4], accessFlags := 1041 }

def heap : Heap := #[]
def classes : Array Class := #[k0, k1, k2, k3, k4, k5, k6, k7, k8]
def interned : List (Array UInt16 × Addr) := []
def slotsUsed : Nat := 0
def theMethod : MethodId := ⟨1, 3⟩
def args0 : Array Value := #[.int 65, .int 48]
def aboutOver (below : List Frame) : State where
  vm := { classes := classes, interned := interned.toArray }
  heap := heap
  slotsUsed := slotsUsed
  threads := #[{ frames := .invoking theMethod args0 :: below }]
def below0 : List Frame := [.native { method := ⟨0, 0⟩, args := #[] }]
def about1 : State := aboutOver below0
def p0 : Program := .bare "" "" ""
def e0 : Env := launch0.env 0 0 0
theorem w_frames : about1.frames = Frame.invoking theMethod args0 :: below0 := rfl
set_option maxRecDepth 65536 in
theorem w_args : argsFit about1.vm theMethod args0 = true := by decide +kernel
set_option maxRecDepth 65536 in
theorem w_heap : heapFits about1 = true := by decide +kernel
set_option maxRecDepth 65536 in
theorem w_runnable : about1.curStatus? = some .runnable := by decide +kernel
set_option maxRecDepth 65536 in
theorem w_alone : about1.alone = true := by decide +kernel
set_option maxRecDepth 65536 in
theorem w_named : about1.methodNamed? x = some theMethod := by decide +kernel
set_option maxRecDepth 65536 in
theorem w_hears : about1.hears theMethod below0 = true := by decide +kernel
set_option maxRecDepth 65536 in
theorem w_ripe : about1.ripe theMethod args0 below0 = true := by decide +kernel
theorem w_running : about1.status = .running := rfl
set_option maxRecDepth 65536 in
theorem w_room : about1.hasRoom e0.platform room_1 = true :=
  launch0.hasRoom_least _ room_1 (by decide +kernel) (by decide +kernel) (by decide +kernel) (by decide +kernel) (by decide +kernel) (by decide +kernel)
theorem allAtoms_all (ts : List Jvm.Cond) (a : Array Jvm.Value) (st : Jvm.State) : (allAtoms ts).before a st = ts.all (fun c => c.before a st) := by
  induction ts with
  | nil => rfl
  | cons c t ih =>
    show (Jvm.Cond.and c (allAtoms t)).before a st = _
    rw [Jvm.Cond.before_and, ih, List.all_cons]
def words1 : List Jvm.Cond := Jvm.Cond.code x code maxLocals ret :: tables_1
/-- a 'code' word, met by the world's own term for the bytes: nothing is compared byte by byte -/
theorem code_word {y : MethodName} {bytes : ByteArray} {mx : Nat} {rt : Option FieldType} {a : Array Value} {s : State} {m : MethodId} {meth : Method} {c : Code} (h1 : s.methodNamed? y = some m) (h2 : s.vm.method? m = some meth) (h3 : meth.code = some c) (h4 : c.code = bytes)
    (h5 : (c.maxLocals == mx && c.exceptionTable.isEmpty && decide (c.maxStack ≤ mostOperands) && decide (meth.sig.returnType = rt) && !meth.locks && decide (parseMethodDescriptor y.desc = some meth.sig)) = true) : (Jvm.Cond.code y bytes mx rt).before a s = true := by
  simp only [Bool.and_eq_true, beq_iff_eq, Bool.not_eq_true', decide_eq_true_eq] at h5
  obtain ⟨⟨⟨⟨⟨g1, g2⟩, g3⟩, g4⟩, g5⟩, g6⟩ := h5
  simp [Cond.before, Cond.holds, Cond.value, h1, h2, h3, h4, g1, g2, g3, g4, g5, g6]
def isCode : Jvm.Cond → Bool
  | .code _ _ _ _ => true
  | _ => false
theorem all_split {L : List Jvm.Cond} {P : Jvm.Cond → Bool} (h1 : L.all (fun c => isCode c || P c) = true) (h2 : ∀ c ∈ L.filter isCode, P c = true) : L.all P = true := by
  refine List.all_eq_true.mpr fun c hc => ?_
  have h := List.all_eq_true.mp h1 c hc
  rcases Bool.eq_false_or_eq_true (isCode c) with hi | hi
  · exact h2 c (List.mem_filter.mpr ⟨hc, hi⟩)
  · simpa [hi] using h
set_option maxRecDepth 65536 in
theorem w_c0 : (Jvm.Cond.code x code maxLocals ret).before args0 about1 = true := code_word (m := ⟨1, 3⟩) (meth := k1m3) (c := k1c3) (by decide +kernel) rfl rfl rfl (by decide +kernel)
set_option maxRecDepth 65536 in
theorem w_c1 : (Jvm.Cond.code ({ cls := "com/example/lokey/lokey/toml/TomlCursorIsBareKeyCharacterPinLaw", name := "agrees", desc := "(I)Z" } : Jvm.MethodName) method_3_code (1 : Nat) (Option.some Jvm.ClassFile.FieldType.boolean)).before args0 about1 = true := code_word (m := ⟨1, 2⟩) (meth := k1m2) (c := k1c2) (by decide +kernel) rfl rfl rfl (by decide +kernel)
set_option maxRecDepth 65536 in
theorem w_c2 : (Jvm.Cond.code ({ cls := "com/example/lokey/lokey/toml/TomlCursor", name := "isBareKeyCharacter", desc := "(I)Z" } : Jvm.MethodName) prog_83_method_18_code (1 : Nat) (Option.some Jvm.ClassFile.FieldType.boolean)).before args0 about1 = true := code_word (m := ⟨2, 0⟩) (meth := k2m0) (c := k2c0) (by decide +kernel) rfl rfl rfl (by decide +kernel)
set_option maxRecDepth 65536 in
theorem w_c3 : (Jvm.Cond.code ({ cls := "com/example/lokey/lokey/toml/TomlCursorIsBareKeyCharacterPinLaw", name := "reference", desc := "(I)Z" } : Jvm.MethodName) method_2_code (3 : Nat) (Option.some Jvm.ClassFile.FieldType.boolean)).before args0 about1 = true := code_word (m := ⟨1, 1⟩) (meth := k1m1) (c := k1c1) (by decide +kernel) rfl rfl rfl (by decide +kernel)
def codes1 : List Jvm.Cond := [Jvm.Cond.code x code maxLocals ret, Jvm.Cond.code ({ cls := "com/example/lokey/lokey/toml/TomlCursorIsBareKeyCharacterPinLaw", name := "agrees", desc := "(I)Z" } : Jvm.MethodName) method_3_code (1 : Nat) (Option.some Jvm.ClassFile.FieldType.boolean), Jvm.Cond.code ({ cls := "com/example/lokey/lokey/toml/TomlCursor", name := "isBareKeyCharacter", desc := "(I)Z" } : Jvm.MethodName) prog_83_method_18_code (1 : Nat) (Option.some Jvm.ClassFile.FieldType.boolean), Jvm.Cond.code ({ cls := "com/example/lokey/lokey/toml/TomlCursorIsBareKeyCharacterPinLaw", name := "reference", desc := "(I)Z" } : Jvm.MethodName) method_2_code (3 : Nat) (Option.some Jvm.ClassFile.FieldType.boolean)]
set_option maxRecDepth 65536 in
theorem codes_eq : words1.filter isCode = codes1 := rfl
theorem w_codes : ∀ c ∈ words1.filter isCode, c.before args0 about1 = true := by
  rw [codes_eq]
  intro c hc
  simp only [codes1, List.mem_cons, List.not_mem_nil, or_false] at hc
  rcases hc with rfl | rfl | rfl | rfl
  · exact w_c0
  · exact w_c1
  · exact w_c2
  · exact w_c3
set_option maxRecDepth 65536 in
theorem w_t1 : words1.all (fun c => isCode c || c.before args0 about1) = true := by decide +kernel
theorem w_tables : (allAtoms (Jvm.Cond.code x code maxLocals ret :: tables_1)).before args0 about1 = true := by
  rw [allAtoms_all]
  show words1.all (fun c => c.before args0 about1) = true
  refine all_split ?_ w_codes
  rw [w_t1]
set_option maxRecDepth 65536 in
theorem w_case : (Jvm.Cond.and given_1 narrow_1).before args0 about1 = true := by decide +kernel
theorem w_applies : (headSpec (Jvm.Cond.code x code maxLocals ret :: tables_1) room_1).applies x e0.platform about1 = true :=
  (Spec.applies_iff w_frames).mpr ⟨w_running, w_runnable, w_alone, w_named, w_hears, w_ripe, w_room, w_tables⟩
theorem atStart : AtStart classFile x code maxLocals ret World_1 tables_1 room_1 Calls_1 rest_1 Pre_1 launch0 p0 e0 about1 theMethod args0 below0 :=
  ⟨lists_1, trivial, launch0.admits_env _ _ _, launch0.least_env, fairChoices_fair.cas, fairChoices_fair.clock, w_frames, w_args, w_heap, w_applies, trivial, trivial, w_case⟩
end start1
theorem witness_1 : WitnessClaimed_1 := ⟨start1.p0, start1.e0, start1.about1, start1.theMethod, start1.args0, start1.below0, start1.atStart⟩
end Jvm.Pilot.@@N@@
