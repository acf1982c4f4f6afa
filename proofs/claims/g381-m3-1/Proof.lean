import JvmDerived
import JvmDerived.Pilot.@@N@@Statement
import JvmDerived.Pilot.@@N@@Code
set_option linter.unusedVariables false
set_option linter.unusedSimpArgs false
namespace Jvm.RoadKit
open Sem ClassFile Op Lib Jvm.Stand Jvm.Free Jvm.LawKit
section New
variable {p : Program} {l : Launch} {e : Env} {R : Room} {s : State} {m : MethodId} {args : Array Value} {below : List Frame} {meth : Method} {c : Code} {T : State} {locs : List Loc} {cells slots : Nat}
theorem retI (X : Stand p l e R s m args below meth c T locs cells slots) (hx : p.tables.exec = Jvm.exec) {pc : Nat} {Ls : Array Slot} {z : Int32} {rest : List Value} (hret : meth.sig.returnType = some .int) (hd : decode c.code pc = .ok (.ireturn, 1)) {fs : List Frame}
    (hl : ∀ (f : JFrame) (acts : List Action), f.method = m → f.locked = none → f.entered = [] → (doReturn e (T.setTop f) acts (some (.int z))).1 = T.setFrames fs) : Steps p.tables e below (T.setTop (mkF m pc Ls (.int z :: rest))) (T.setFrames fs) := by
  have hm' : T.vm.method? m = some meth := X.method'
  have hn : narrow .int (.int z) = .int z := rfl
  show Steps p.tables e below (T.setTop { method := m, pc := pc, locals := Ls, stack := _ :: rest, locked := none }) _
  jvm_step X.here [X.here.top, hx, hd, hm', hret, hn]
  first | (intro acts; rw [hl _ acts rfl rfl rfl]) | rw [hl _ _ rfl rfl rfl]
  exact Steps.refl _
end New
end Jvm.RoadKit
namespace Jvm.Pilot.@@N@@
open Jvm Jvm.ClassFile Sem Op Lib Jvm.Free Jvm.Stand Jvm.LawKit Jvm.RoadKit Bundle Jvm.Pilot.@@N@@.Jvm.D
theorem d5_0 : decode jdk_29_method_66_code 0 = .ok (.lload_n 0, 1) := by decide +kernel
theorem d5_1 : decode jdk_29_method_66_code 1 = .ok (.lload_n 2, 1) := by decide +kernel
theorem d5_2 : decode jdk_29_method_66_code 2 = .ok (.lcmp, 1) := by decide +kernel
theorem d5_3 : decode jdk_29_method_66_code 3 = .ok (.ifCond .lt 7, 3) := by decide +kernel
theorem d5_6 : decode jdk_29_method_66_code 6 = .ok (.lload_n 0, 1) := by decide +kernel
theorem d5_7 : decode jdk_29_method_66_code 7 = .ok (.goto 4, 3) := by decide +kernel
theorem d5_10 : decode jdk_29_method_66_code 10 = .ok (.lload_n 2, 1) := by decide +kernel
theorem d5_11 : decode jdk_29_method_66_code 11 = .ok (.lreturn, 1) := by decide +kernel
theorem ef_5 (m : MethodId) (x0 : Int64) (x1 : Int64) : entryFrame m #[(.long x0), (.long x1)] 4 = mkF m 0 #[.val (.long x0), .second, .val (.long x1), .second] [] := by first | (simp [entryFrame, mkF, argsToLocals, Value.category]; done) | rfl

def f5 (q1 : Int64) (q2 : Int64) : Int64 := (if q1 < q2 then q2 else q1)
def Q5 (Z : State) (q1 : Int64) (q2 : Int64) (h0 : Heap) (n0 : Nat) (v : Option Value) (h : Heap) (L : List Loc) : Prop := v = some (.long (f5 q1 q2)) ∧ Fr n0 L ∧ h = h0
set_option maxRecDepth 65536 in
set_option maxHeartbeats 40000000 in
theorem rm5 (l : Launch) (Z : State) (a0 : Array Value) (hw : ∀ d ∈ tables_1, d.before a0 Z = true) (ws : List Jvm.Cond) (q1 : Int64) (q2 : Int64) (h0 : Heap) (n0 : Nat) (Z0 : n0 ≤ h0.size) :
    MetFree l (⟨"java/lang/Math", "max", "(JJ)J"⟩ : MethodName) (head1 (Jvm.Cond.code (⟨"java/lang/Math", "max", "(JJ)J"⟩ : MethodName) jdk_29_method_66_code 4 (some .long) :: ws) ({ frames := 0, cells := 0, slots := 0, locals := 0 } : Room)) (fun a U => a = #[(.long q1), (.long q2)] ∧ Z.Warmed39 U.vm ∧ U.heap = h0) (fun _ _ _ _ _ => True) (fun _ U o U' => ∃ v L, o = .returned v ∧ Q5 Z q1 q2 h0 n0 v U'.heap L ∧ FrameEnd U o U' L ({ frames := 0, cells := 0, slots := 0, locals := 0 } : Room).cells ({ frames := 0, cells := 0, slots := 0, locals := 0 } : Room).slots) := by
  refine MetFree.of_bodySF (Jvm.Free.JP.mathPlain rfl (by decide +kernel)) hisR ?_
  intro p e s m args below meth c s₁ Bd hml0 hP hK
  obtain ⟨rfl, hZ, hh⟩ := hP
  have hx := Bd.exec
  have hby := Bd.bytes
  have hml : c.maxLocals = 4 := hml0
  have hown : s.vm.findClass "java/lang/Math" = some m.cls := findClass_of_methodNamed Bd.named
  have hnm := (name_of_methodNamed Bd.named Bd.method).1
  have X0 : Stand p l e ({ frames := 0, cells := 0, slots := 0, locals := 0 } : Room) s m #[(.long q1), (.long q2)] below meth c s₁ [] 0 0 := Stand.of_body Bd
  have e0 : s₁.heap = h0 := by rw [← hh, Bd.state]; rfl
  have N0 := Fr.nil n0
  have pre0 : ∀ t, Steps p.tables e below (s₁.setTop (mkF m 0 #[.val (.long q1), .second, .val (.long q2), .second] [])) t → Steps p.tables e below (s₁.setTop (entryFrame m #[(.long q1), (.long q2)] 4)) t := fun t k => castTop (ef_5 m q1 q2) k
  have pre1 : ∀ t, Steps p.tables e below (s₁.setTop (mkF m 3 #[.val (.long q1), .second, .val (.long q2), .second] [(.int (lcmpW q1 q2))])) t → Steps p.tables e below (s₁.setTop (entryFrame m #[(.long q1), (.long q2)] 4)) t := fun t kt => by
    refine pre0 _ ?_
    show Steps p.tables e below (s₁.setTop (mkF m 0 #[.val (.long q1), .second, .val (.long q2), .second] [])) _
    refine XS.lloadN X0.here hx rfl (hb hby d5_0) rfl ?_
    show Steps p.tables e below (s₁.setTop (mkF m 1 #[.val (.long q1), .second, .val (.long q2), .second] [(.long q1)])) _
    refine XS.lloadN X0.here hx rfl (hb hby d5_1) rfl ?_
    show Steps p.tables e below (s₁.setTop (mkF m 2 #[.val (.long q1), .second, .val (.long q2), .second] [(.long q2), (.long q1)])) _
    refine XS.lcmp X0.here hx rfl (hb hby d5_2) rfl ?_
    exact kt
  by_cases hc2 : q1 < q2
  · obtain ⟨fs, hr, hrun, hended, hW, hsame⟩ := X0.leave (v := some (.long q2)) (fun h => by rw [Bd.returns] at h; cases h)
    refine ⟨_, _, pre1 _ ?_, hrun, hended, _, _, rfl, ?_, ⟨_, rfl⟩, hW, hsame.mono (by decide) (by decide)⟩
    · show Steps p.tables e below (s₁.setTop (mkF m 3 #[.val (.long q1), .second, .val (.long q2), .second] [(.int (lcmpW q1 q2))])) _
      refine XS.ifYes X0.here hx rfl (pc0 := 3) (pc' := 10) rfl (hb hby d5_3) rfl ((if0 _ _).trans (tlt ((lw_lt q1 q2).mpr hc2)).1) (by decide) (by decide) ?_
      show Steps p.tables e below (s₁.setTop (mkF m 10 #[.val (.long q1), .second, .val (.long q2), .second] [])) _
      refine XS.lloadN X0.here hx rfl (hb hby d5_10) rfl ?_
      show Steps p.tables e below (s₁.setTop (mkF m 11 #[.val (.long q1), .second, .val (.long q2), .second] [(.long q2)])) _
      exact X0.lreturnOut hx Bd.returns (hb hby d5_11) hr
    · show Q5 Z q1 q2 h0 n0 _ s₁.heap _
      rw [e0]
      exact ⟨by rw [f5, if_pos hc2], N0, rfl⟩
  · obtain ⟨fs, hr, hrun, hended, hW, hsame⟩ := X0.leave (v := some (.long q1)) (fun h => by rw [Bd.returns] at h; cases h)
    refine ⟨_, _, pre1 _ ?_, hrun, hended, _, _, rfl, ?_, ⟨_, rfl⟩, hW, hsame.mono (by decide) (by decide)⟩
    · show Steps p.tables e below (s₁.setTop (mkF m 3 #[.val (.long q1), .second, .val (.long q2), .second] [(.int (lcmpW q1 q2))])) _
      refine XS.ifNo X0.here hx rfl (hb hby d5_3) rfl ((if0 _ _).trans (flt (mt (lw_lt q1 q2).mp hc2)).1) ?_
      show Steps p.tables e below (s₁.setTop (mkF m 6 #[.val (.long q1), .second, .val (.long q2), .second] [])) _
      refine XS.lloadN X0.here hx rfl (hb hby d5_6) rfl ?_
      show Steps p.tables e below (s₁.setTop (mkF m 7 #[.val (.long q1), .second, .val (.long q2), .second] [(.long q1)])) _
      refine XS.goto X0.here hx rfl (pc0 := 7) (pc' := 11) rfl (hb hby d5_7) (by decide) (by decide) ?_
      show Steps p.tables e below (s₁.setTop (mkF m 11 #[.val (.long q1), .second, .val (.long q2), .second] [(.long q1)])) _
      exact X0.lreturnOut hx Bd.returns (hb hby d5_11) hr
    · show Q5 Z q1 q2 h0 n0 _ s₁.heap _
      rw [e0]
      exact ⟨by rw [f5, if_neg hc2], N0, rfl⟩
theorem d7_0 : decode jdk_29_method_70_code 0 = .ok (.lload_n 0, 1) := by decide +kernel
theorem d7_1 : decode jdk_29_method_70_code 1 = .ok (.lload_n 2, 1) := by decide +kernel
theorem d7_2 : decode jdk_29_method_70_code 2 = .ok (.lcmp, 1) := by decide +kernel
theorem d7_3 : decode jdk_29_method_70_code 3 = .ok (.ifCond .gt 7, 3) := by decide +kernel
theorem d7_6 : decode jdk_29_method_70_code 6 = .ok (.lload_n 0, 1) := by decide +kernel
theorem d7_7 : decode jdk_29_method_70_code 7 = .ok (.goto 4, 3) := by decide +kernel
theorem d7_10 : decode jdk_29_method_70_code 10 = .ok (.lload_n 2, 1) := by decide +kernel
theorem d7_11 : decode jdk_29_method_70_code 11 = .ok (.lreturn, 1) := by decide +kernel
theorem ef_7 (m : MethodId) (x0 : Int64) (x1 : Int64) : entryFrame m #[(.long x0), (.long x1)] 4 = mkF m 0 #[.val (.long x0), .second, .val (.long x1), .second] [] := by first | (simp [entryFrame, mkF, argsToLocals, Value.category]; done) | rfl

def f7 (q1 : Int64) (q2 : Int64) : Int64 := (if q2 < q1 then q2 else q1)
def Q7 (Z : State) (q1 : Int64) (q2 : Int64) (h0 : Heap) (n0 : Nat) (v : Option Value) (h : Heap) (L : List Loc) : Prop := v = some (.long (f7 q1 q2)) ∧ Fr n0 L ∧ h = h0
set_option maxRecDepth 65536 in
set_option maxHeartbeats 40000000 in
theorem rm7 (l : Launch) (Z : State) (a0 : Array Value) (hw : ∀ d ∈ tables_1, d.before a0 Z = true) (ws : List Jvm.Cond) (q1 : Int64) (q2 : Int64) (h0 : Heap) (n0 : Nat) (Z0 : n0 ≤ h0.size) :
    MetFree l (⟨"java/lang/Math", "min", "(JJ)J"⟩ : MethodName) (head1 (Jvm.Cond.code (⟨"java/lang/Math", "min", "(JJ)J"⟩ : MethodName) jdk_29_method_70_code 4 (some .long) :: ws) ({ frames := 0, cells := 0, slots := 0, locals := 0 } : Room)) (fun a U => a = #[(.long q1), (.long q2)] ∧ Z.Warmed39 U.vm ∧ U.heap = h0) (fun _ _ _ _ _ => True) (fun _ U o U' => ∃ v L, o = .returned v ∧ Q7 Z q1 q2 h0 n0 v U'.heap L ∧ FrameEnd U o U' L ({ frames := 0, cells := 0, slots := 0, locals := 0 } : Room).cells ({ frames := 0, cells := 0, slots := 0, locals := 0 } : Room).slots) := by
  refine MetFree.of_bodySF (Jvm.Free.JP.mathPlain rfl (by decide +kernel)) hisR ?_
  intro p e s m args below meth c s₁ Bd hml0 hP hK
  obtain ⟨rfl, hZ, hh⟩ := hP
  have hx := Bd.exec
  have hby := Bd.bytes
  have hml : c.maxLocals = 4 := hml0
  have hown : s.vm.findClass "java/lang/Math" = some m.cls := findClass_of_methodNamed Bd.named
  have hnm := (name_of_methodNamed Bd.named Bd.method).1
  have X0 : Stand p l e ({ frames := 0, cells := 0, slots := 0, locals := 0 } : Room) s m #[(.long q1), (.long q2)] below meth c s₁ [] 0 0 := Stand.of_body Bd
  have e0 : s₁.heap = h0 := by rw [← hh, Bd.state]; rfl
  have N0 := Fr.nil n0
  have pre0 : ∀ t, Steps p.tables e below (s₁.setTop (mkF m 0 #[.val (.long q1), .second, .val (.long q2), .second] [])) t → Steps p.tables e below (s₁.setTop (entryFrame m #[(.long q1), (.long q2)] 4)) t := fun t k => castTop (ef_7 m q1 q2) k
  have pre1 : ∀ t, Steps p.tables e below (s₁.setTop (mkF m 3 #[.val (.long q1), .second, .val (.long q2), .second] [(.int (lcmpW q1 q2))])) t → Steps p.tables e below (s₁.setTop (entryFrame m #[(.long q1), (.long q2)] 4)) t := fun t kt => by
    refine pre0 _ ?_
    show Steps p.tables e below (s₁.setTop (mkF m 0 #[.val (.long q1), .second, .val (.long q2), .second] [])) _
    refine XS.lloadN X0.here hx rfl (hb hby d7_0) rfl ?_
    show Steps p.tables e below (s₁.setTop (mkF m 1 #[.val (.long q1), .second, .val (.long q2), .second] [(.long q1)])) _
    refine XS.lloadN X0.here hx rfl (hb hby d7_1) rfl ?_
    show Steps p.tables e below (s₁.setTop (mkF m 2 #[.val (.long q1), .second, .val (.long q2), .second] [(.long q2), (.long q1)])) _
    refine XS.lcmp X0.here hx rfl (hb hby d7_2) rfl ?_
    exact kt
  by_cases hc2 : q2 < q1
  · obtain ⟨fs, hr, hrun, hended, hW, hsame⟩ := X0.leave (v := some (.long q2)) (fun h => by rw [Bd.returns] at h; cases h)
    refine ⟨_, _, pre1 _ ?_, hrun, hended, _, _, rfl, ?_, ⟨_, rfl⟩, hW, hsame.mono (by decide) (by decide)⟩
    · show Steps p.tables e below (s₁.setTop (mkF m 3 #[.val (.long q1), .second, .val (.long q2), .second] [(.int (lcmpW q1 q2))])) _
      refine XS.ifYes X0.here hx rfl (pc0 := 3) (pc' := 10) rfl (hb hby d7_3) rfl ((if0 _ _).trans (tlt ((lw_gt q1 q2).mpr hc2)).2.2.1) (by decide) (by decide) ?_
      show Steps p.tables e below (s₁.setTop (mkF m 10 #[.val (.long q1), .second, .val (.long q2), .second] [])) _
      refine XS.lloadN X0.here hx rfl (hb hby d7_10) rfl ?_
      show Steps p.tables e below (s₁.setTop (mkF m 11 #[.val (.long q1), .second, .val (.long q2), .second] [(.long q2)])) _
      exact X0.lreturnOut hx Bd.returns (hb hby d7_11) hr
    · show Q7 Z q1 q2 h0 n0 _ s₁.heap _
      rw [e0]
      exact ⟨by rw [f7, if_pos hc2], N0, rfl⟩
  · obtain ⟨fs, hr, hrun, hended, hW, hsame⟩ := X0.leave (v := some (.long q1)) (fun h => by rw [Bd.returns] at h; cases h)
    refine ⟨_, _, pre1 _ ?_, hrun, hended, _, _, rfl, ?_, ⟨_, rfl⟩, hW, hsame.mono (by decide) (by decide)⟩
    · show Steps p.tables e below (s₁.setTop (mkF m 3 #[.val (.long q1), .second, .val (.long q2), .second] [(.int (lcmpW q1 q2))])) _
      refine XS.ifNo X0.here hx rfl (hb hby d7_3) rfl ((if0 _ _).trans (flt (mt (lw_gt q1 q2).mp hc2)).2.2.1) ?_
      show Steps p.tables e below (s₁.setTop (mkF m 6 #[.val (.long q1), .second, .val (.long q2), .second] [])) _
      refine XS.lloadN X0.here hx rfl (hb hby d7_6) rfl ?_
      show Steps p.tables e below (s₁.setTop (mkF m 7 #[.val (.long q1), .second, .val (.long q2), .second] [(.long q1)])) _
      refine XS.goto X0.here hx rfl (pc0 := 7) (pc' := 11) rfl (hb hby d7_7) (by decide) (by decide) ?_
      show Steps p.tables e below (s₁.setTop (mkF m 11 #[.val (.long q1), .second, .val (.long q2), .second] [(.long q1)])) _
      exact X0.lreturnOut hx Bd.returns (hb hby d7_11) hr
    · show Q7 Z q1 q2 h0 n0 _ s₁.heap _
      rw [e0]
      exact ⟨by rw [f7, if_neg hc2], N0, rfl⟩
theorem d1_0 : decode prog_44_method_1_code 0 = .ok (.aload_n 0, 1) := by decide +kernel
theorem d1_1 : decode prog_44_method_1_code 1 = .ok (.invokespecial 1, 3) := by decide +kernel
theorem d1_4 : decode prog_44_method_1_code 4 = .ok (.return_, 1) := by decide +kernel
theorem pn_1 : plainName "com/example/placecard/placecard/TableValues" = true := by first | (simp [plainName, overriddenIn]; done) | decide +kernel
theorem ef_1 (m : MethodId) (x0 : Addr) : entryFrame m #[(.ref x0)] 1 = mkF m 0 #[.val (.ref x0)] [] := by first | (simp [entryFrame, mkF, argsToLocals, Value.category]; done) | rfl

def Q1 (Z : State) (a1 : Addr) (h0 : Heap) (n0 : Nat) (v : Option Value) (h : Heap) (L : List Loc) : Prop := v = none ∧ Fr n0 L ∧ h = h0
set_option maxRecDepth 65536 in
set_option maxHeartbeats 40000000 in
theorem rm1 (l : Launch) (Z : State) (a0 : Array Value) (hw : ∀ d ∈ tables_1, d.before a0 Z = true) (ws : List Jvm.Cond) (a1 : Addr) (h0 : Heap) (n0 : Nat) (Z0 : n0 ≤ h0.size) :
    MetFree l (⟨"com/example/placecard/placecard/TableValues", "<init>", "()V"⟩ : MethodName) (head1 (Jvm.Cond.code (⟨"com/example/placecard/placecard/TableValues", "<init>", "()V"⟩ : MethodName) prog_44_method_1_code 1 none :: ws) ({ frames := 1, cells := 0, slots := 0, locals := 12 } : Room)) (fun a U => a = #[(.ref a1)] ∧ Z.Warmed39 U.vm ∧ U.heap = h0) (fun _ _ _ _ _ => True) (fun _ U o U' => ∃ v L, o = .returned v ∧ Q1 Z a1 h0 n0 v U'.heap L ∧ FrameEnd U o U' L ({ frames := 1, cells := 0, slots := 0, locals := 12 } : Room).cells ({ frames := 1, cells := 0, slots := 0, locals := 12 } : Room).slots) := by
  refine MetFree.of_bodySF (plainFor_of_name pn_1) hisR ?_
  intro p e s m args below meth c s₁ Bd hml0 hP hK
  obtain ⟨rfl, hZ, hh⟩ := hP
  have hx := Bd.exec
  have hby := Bd.bytes
  have hml : c.maxLocals = 1 := hml0
  have hown : s.vm.findClass "com/example/placecard/placecard/TableValues" = some m.cls := findClass_of_methodNamed Bd.named
  have hnm := (name_of_methodNamed Bd.named Bd.method).1
  have X0 : Stand p l e ({ frames := 1, cells := 0, slots := 0, locals := 12 } : Room) s m #[(.ref a1)] below meth c s₁ [] 0 0 := Stand.of_body Bd
  have e0 : s₁.heap = h0 := by rw [← hh, Bd.state]; rfl
  have N0 := Fr.nil n0
  have pre0 : ∀ t, Steps p.tables e below (s₁.setTop (mkF m 0 #[.val (.ref a1)] [])) t → Steps p.tables e below (s₁.setTop (entryFrame m #[(.ref a1)] 1)) t := fun t k => castTop (ef_1 m a1) k
  obtain ⟨T1, X1, e1, st1⟩ := initO X0 hx hZ hown (hw _ (List.mem_of_getElem? (i := 7) rfl)) (hw _ (List.mem_of_getElem? (i := 8) rfl)) (hw _ (List.mem_of_getElem? (i := 9) rfl)) e0 (g := (mkF m 1 #[.val (.ref a1)] [(.ref a1)])) rfl (by rw [hml]; rfl) rfl (hb hby d1_1) (by decide) (W := 0) (by show 2 * 0 + _ ≤ _; exact Nat.le_of_eq rfl) (by decide)
  obtain ⟨fs, hr, hrun, hended, hW, hsame⟩ := X1.leave (v := none) (fun _ => rfl)
  refine ⟨_, _, pre0 _ ?_, hrun, hended, _, _, rfl, ?_, ⟨_, rfl⟩, hW, hsame.mono (by decide) (by decide)⟩
  · show Steps p.tables e below (s₁.setTop (mkF m 0 #[.val (.ref a1)] [])) _
    refine XS.aloadN X0.here hx rfl (hb hby d1_0) rfl rfl ?_
    show Steps p.tables e below (s₁.setTop (mkF m 1 #[.val (.ref a1)] [(.ref a1)])) _
    refine st1 _ ?_
    show Steps p.tables e below (T1.setTop (mkF m 4 #[.val (.ref a1)] [])) _
    exact X1.returnOut hx Bd.returns (hb hby d1_4) hr
  · show Q1 Z a1 h0 n0 _ T1.heap _
    rw [e1]
    exact ⟨rfl, N0, rfl⟩
theorem d3_0 : decode prog_44_method_2_code 0 = .ok (.aload_n 0, 1) := by decide +kernel
theorem d3_1 : decode prog_44_method_2_code 1 = .ok (.iconst 0, 1) := by decide +kernel
theorem d3_2 : decode prog_44_method_2_code 2 = .ok (.putfield 7, 3) := by decide +kernel
theorem d3_5 : decode prog_44_method_2_code 5 = .ok (.aload_n 0, 1) := by decide +kernel
theorem d3_6 : decode prog_44_method_2_code 6 = .ok (.lconst 0, 1) := by decide +kernel
theorem d3_7 : decode prog_44_method_2_code 7 = .ok (.putfield 13, 3) := by decide +kernel
theorem d3_10 : decode prog_44_method_2_code 10 = .ok (.aload_n 0, 1) := by decide +kernel
theorem d3_11 : decode prog_44_method_2_code 11 = .ok (.lconst 0, 1) := by decide +kernel
theorem d3_12 : decode prog_44_method_2_code 12 = .ok (.putfield 17, 3) := by decide +kernel
theorem d3_15 : decode prog_44_method_2_code 15 = .ok (.aload_n 0, 1) := by decide +kernel
theorem d3_16 : decode prog_44_method_2_code 16 = .ok (.iconst 0, 1) := by decide +kernel
theorem d3_17 : decode prog_44_method_2_code 17 = .ok (.putfield 20, 3) := by decide +kernel
theorem d3_20 : decode prog_44_method_2_code 20 = .ok (.aload_n 0, 1) := by decide +kernel
theorem d3_21 : decode prog_44_method_2_code 21 = .ok (.ldc2_w 25, 3) := by decide +kernel
theorem d3_24 : decode prog_44_method_2_code 24 = .ok (.putfield 27, 3) := by decide +kernel
theorem d3_27 : decode prog_44_method_2_code 27 = .ok (.aload_n 0, 1) := by decide +kernel
theorem d3_28 : decode prog_44_method_2_code 28 = .ok (.lconst 0, 1) := by decide +kernel
theorem d3_29 : decode prog_44_method_2_code 29 = .ok (.putfield 30, 3) := by decide +kernel
theorem d3_32 : decode prog_44_method_2_code 32 = .ok (.aload_n 0, 1) := by decide +kernel
theorem d3_33 : decode prog_44_method_2_code 33 = .ok (.iconst 0, 1) := by decide +kernel
theorem d3_34 : decode prog_44_method_2_code 34 = .ok (.putfield 33, 3) := by decide +kernel
theorem d3_37 : decode prog_44_method_2_code 37 = .ok (.aload_n 0, 1) := by decide +kernel
theorem d3_38 : decode prog_44_method_2_code 38 = .ok (.ldc2_w 36, 3) := by decide +kernel
theorem d3_41 : decode prog_44_method_2_code 41 = .ok (.putfield 38, 3) := by decide +kernel
theorem d3_44 : decode prog_44_method_2_code 44 = .ok (.return_, 1) := by decide +kernel
theorem pn_3 : plainName "com/example/placecard/placecard/TableValues" = true := by first | (simp [plainName, overriddenIn]; done) | decide +kernel
theorem ef_3 (m : MethodId) (x0 : Addr) : entryFrame m #[(.ref x0)] 1 = mkF m 0 #[.val (.ref x0)] [] := by first | (simp [entryFrame, mkF, argsToLocals, Value.category]; done) | rfl

def Q3 (Z : State) (a1 : Addr) (v_count : Int32) (v_sum : Int64) (v_max : Int64) (v_maxc : Int32) (v_below : Int64) (v_min : Int64) (v_minc : Int32) (v_above : Int64) (h0 : Heap) (n0 : Nat) (v : Option Value) (h : Heap) (L : List Loc) : Prop := v = none ∧ Fr n0 L ∧ Keep h0 h [a1] ∧ Exa Z h a1 "com/example/placecard/placecard/TableValues" ∧ Fld Z h a1 "com/example/placecard/placecard/TableValues" "count" "I" (.int (0 : Int32)) ∧ Fld Z h a1 "com/example/placecard/placecard/TableValues" "sum" "J" (.long (0 : Int64)) ∧ Fld Z h a1 "com/example/placecard/placecard/TableValues" "max" "J" (.long (0 : Int64)) ∧ Fld Z h a1 "com/example/placecard/placecard/TableValues" "maxCount" "I" (.int (0 : Int32)) ∧ Fld Z h a1 "com/example/placecard/placecard/TableValues" "belowMax" "J" (.long (-9223372036854775808 : Int64)) ∧ Fld Z h a1 "com/example/placecard/placecard/TableValues" "min" "J" (.long (0 : Int64)) ∧ Fld Z h a1 "com/example/placecard/placecard/TableValues" "minCount" "I" (.int (0 : Int32)) ∧ Fld Z h a1 "com/example/placecard/placecard/TableValues" "aboveMin" "J" (.long (9223372036854775807 : Int64))
set_option maxRecDepth 65536 in
set_option maxHeartbeats 40000000 in
theorem rm3 (l : Launch) (Z : State) (a0 : Array Value) (hw : ∀ d ∈ tables_1, d.before a0 Z = true) (ws : List Jvm.Cond) (a1 : Addr) (v_count : Int32) (v_sum : Int64) (v_max : Int64) (v_maxc : Int32) (v_below : Int64) (v_min : Int64) (v_minc : Int32) (v_above : Int64) (h0 : Heap) (n0 : Nat) (Z0 : n0 ≤ h0.size) (E_a1 : Exa Z h0 a1 "com/example/placecard/placecard/TableValues") (F_a1_count : Fld Z h0 a1 "com/example/placecard/placecard/TableValues" "count" "I" (.int v_count)) (F_a1_sum : Fld Z h0 a1 "com/example/placecard/placecard/TableValues" "sum" "J" (.long v_sum)) (F_a1_max : Fld Z h0 a1 "com/example/placecard/placecard/TableValues" "max" "J" (.long v_max)) (F_a1_maxCount : Fld Z h0 a1 "com/example/placecard/placecard/TableValues" "maxCount" "I" (.int v_maxc)) (F_a1_belowMax : Fld Z h0 a1 "com/example/placecard/placecard/TableValues" "belowMax" "J" (.long v_below)) (F_a1_min : Fld Z h0 a1 "com/example/placecard/placecard/TableValues" "min" "J" (.long v_min)) (F_a1_minCount : Fld Z h0 a1 "com/example/placecard/placecard/TableValues" "minCount" "I" (.int v_minc)) (F_a1_aboveMin : Fld Z h0 a1 "com/example/placecard/placecard/TableValues" "aboveMin" "J" (.long v_above)) (g_a1 : n0 ≤ a1) :
    MetFree l (⟨"com/example/placecard/placecard/TableValues", "reset", "()V"⟩ : MethodName) (head1 (Jvm.Cond.code (⟨"com/example/placecard/placecard/TableValues", "reset", "()V"⟩ : MethodName) prog_44_method_2_code 1 none :: ws) ({ frames := 0, cells := 0, slots := 0, locals := 0 } : Room)) (fun a U => a = #[(.ref a1)] ∧ Z.Warmed39 U.vm ∧ U.heap = h0) (fun _ _ _ _ _ => True) (fun _ U o U' => ∃ v L, o = .returned v ∧ Q3 Z a1 v_count v_sum v_max v_maxc v_below v_min v_minc v_above h0 n0 v U'.heap L ∧ FrameEnd U o U' L ({ frames := 0, cells := 0, slots := 0, locals := 0 } : Room).cells ({ frames := 0, cells := 0, slots := 0, locals := 0 } : Room).slots) := by
  refine MetFree.of_bodySF (plainFor_of_name pn_3) hisR ?_
  intro p e s m args below meth c s₁ Bd hml0 hP hK
  obtain ⟨rfl, hZ, hh⟩ := hP
  have hx := Bd.exec
  have hby := Bd.bytes
  have hml : c.maxLocals = 1 := hml0
  have hown : s.vm.findClass "com/example/placecard/placecard/TableValues" = some m.cls := findClass_of_methodNamed Bd.named
  have hnm := (name_of_methodNamed Bd.named Bd.method).1
  have X0 : Stand p l e ({ frames := 0, cells := 0, slots := 0, locals := 0 } : Room) s m #[(.ref a1)] below meth c s₁ [] 0 0 := Stand.of_body Bd
  have e0 : s₁.heap = h0 := by rw [← hh, Bd.state]; rfl
  have N0 := Fr.nil n0
  have pre0 : ∀ t, Steps p.tables e below (s₁.setTop (mkF m 0 #[.val (.ref a1)] [])) t → Steps p.tables e below (s₁.setTop (entryFrame m #[(.ref a1)] 1)) t := fun t k => castTop (ef_3 m a1) k
  obtain ⟨T1, h1, X1, e1, W1, st1⟩ := putF X0 hx hZ hown (host := "") (Or.inl (hw _ (List.mem_of_getElem? (i := 15) rfl))) Via.refl e0 F_a1_count E_a1 (Or.inl (hw _ (List.mem_of_getElem? (i := 16) rfl))) (hw _ (List.mem_of_getElem? (i := 2) rfl)) (ty := .int) (by decide) rfl rfl (g := (mkF m 2 #[.val (.ref a1)] [(.int (0 : Int32)), (.ref a1)])) rfl rfl (hb hby d3_2)
  have Fw1 : Fld Z h1 a1 "com/example/placecard/placecard/TableValues" "count" "I" (.int (0 : Int32)) := F_a1_count.same W1
  have zs2 : n0 ≤ h1.size := Nat.le_trans Z0 (Keep.of_wr W1).1
  have kp3 : Keep h0 h1 [a1] := (Keep.refl h0 [a1]).wr W1 (Or.inl (List.mem_of_getElem? (i := 0) rfl))
  have N1 := Fr.snoc X1 N0 g_a1
  have fa4 : Fld Z h1 a1 "com/example/placecard/placecard/TableValues" "sum" "J" (.long v_sum) := (F_a1_sum.other W1 (Or.inr (slot_ne (Or.inl (hw _ (List.mem_of_getElem? (i := 18) rfl))) (Or.inl (hw _ (List.mem_of_getElem? (i := 16) rfl))) (by decide) (t := .long) (t' := .int) (by decide) (by decide))))
  have fa5 : Exa Z h1 a1 "com/example/placecard/placecard/TableValues" := (E_a1.wr W1)
  obtain ⟨T6, h6, X6, e6, W6, st6⟩ := putF X1 hx hZ hown (host := "") (Or.inl (hw _ (List.mem_of_getElem? (i := 17) rfl))) Via.refl e1 fa4 fa5 (Or.inl (hw _ (List.mem_of_getElem? (i := 18) rfl))) (hw _ (List.mem_of_getElem? (i := 2) rfl)) (ty := .long) (by decide) rfl rfl (g := (mkF m 7 #[.val (.ref a1)] [(.long (0 : Int64)), (.ref a1)])) rfl rfl (hb hby d3_7)
  have Fw6 : Fld Z h6 a1 "com/example/placecard/placecard/TableValues" "sum" "J" (.long (0 : Int64)) := fa4.same W6
  have zs7 : n0 ≤ h6.size := Nat.le_trans zs2 (Keep.of_wr W6).1
  have kp8 : Keep h0 h6 [a1] := kp3.wr W6 (Or.inl (List.mem_of_getElem? (i := 0) rfl))
  have N6 := Fr.snoc X6 N1 g_a1
  have fa9 : Fld Z h6 a1 "com/example/placecard/placecard/TableValues" "max" "J" (.long v_max) := ((F_a1_max.other W1 (Or.inr (slot_ne (Or.inl (hw _ (List.mem_of_getElem? (i := 20) rfl))) (Or.inl (hw _ (List.mem_of_getElem? (i := 16) rfl))) (by decide) (t := .long) (t' := .int) (by decide) (by decide)))).other W6 (Or.inr (slot_ne (Or.inl (hw _ (List.mem_of_getElem? (i := 20) rfl))) (Or.inl (hw _ (List.mem_of_getElem? (i := 18) rfl))) (by decide) (t := .long) (t' := .long) (by decide) (by decide))))
  have fa10 : Exa Z h6 a1 "com/example/placecard/placecard/TableValues" := (fa5.wr W6)
  obtain ⟨T11, h11, X11, e11, W11, st11⟩ := putF X6 hx hZ hown (host := "") (Or.inl (hw _ (List.mem_of_getElem? (i := 19) rfl))) Via.refl e6 fa9 fa10 (Or.inl (hw _ (List.mem_of_getElem? (i := 20) rfl))) (hw _ (List.mem_of_getElem? (i := 2) rfl)) (ty := .long) (by decide) rfl rfl (g := (mkF m 12 #[.val (.ref a1)] [(.long (0 : Int64)), (.ref a1)])) rfl rfl (hb hby d3_12)
  have Fw11 : Fld Z h11 a1 "com/example/placecard/placecard/TableValues" "max" "J" (.long (0 : Int64)) := fa9.same W11
  have zs12 : n0 ≤ h11.size := Nat.le_trans zs7 (Keep.of_wr W11).1
  have kp13 : Keep h0 h11 [a1] := kp8.wr W11 (Or.inl (List.mem_of_getElem? (i := 0) rfl))
  have N11 := Fr.snoc X11 N6 g_a1
  have fa14 : Fld Z h11 a1 "com/example/placecard/placecard/TableValues" "maxCount" "I" (.int v_maxc) := (((F_a1_maxCount.other W1 (Or.inr (slot_ne (Or.inl (hw _ (List.mem_of_getElem? (i := 22) rfl))) (Or.inl (hw _ (List.mem_of_getElem? (i := 16) rfl))) (by decide) (t := .int) (t' := .int) (by decide) (by decide)))).other W6 (Or.inr (slot_ne (Or.inl (hw _ (List.mem_of_getElem? (i := 22) rfl))) (Or.inl (hw _ (List.mem_of_getElem? (i := 18) rfl))) (by decide) (t := .int) (t' := .long) (by decide) (by decide)))).other W11 (Or.inr (slot_ne (Or.inl (hw _ (List.mem_of_getElem? (i := 22) rfl))) (Or.inl (hw _ (List.mem_of_getElem? (i := 20) rfl))) (by decide) (t := .int) (t' := .long) (by decide) (by decide))))
  have fa15 : Exa Z h11 a1 "com/example/placecard/placecard/TableValues" := (fa10.wr W11)
  obtain ⟨T16, h16, X16, e16, W16, st16⟩ := putF X11 hx hZ hown (host := "") (Or.inl (hw _ (List.mem_of_getElem? (i := 21) rfl))) Via.refl e11 fa14 fa15 (Or.inl (hw _ (List.mem_of_getElem? (i := 22) rfl))) (hw _ (List.mem_of_getElem? (i := 2) rfl)) (ty := .int) (by decide) rfl rfl (g := (mkF m 17 #[.val (.ref a1)] [(.int (0 : Int32)), (.ref a1)])) rfl rfl (hb hby d3_17)
  have Fw16 : Fld Z h16 a1 "com/example/placecard/placecard/TableValues" "maxCount" "I" (.int (0 : Int32)) := fa14.same W16
  have zs17 : n0 ≤ h16.size := Nat.le_trans zs12 (Keep.of_wr W16).1
  have kp18 : Keep h0 h16 [a1] := kp13.wr W16 (Or.inl (List.mem_of_getElem? (i := 0) rfl))
  have N16 := Fr.snoc X16 N11 g_a1
  have fa19 : Fld Z h16 a1 "com/example/placecard/placecard/TableValues" "belowMax" "J" (.long v_below) := ((((F_a1_belowMax.other W1 (Or.inr (slot_ne (Or.inl (hw _ (List.mem_of_getElem? (i := 25) rfl))) (Or.inl (hw _ (List.mem_of_getElem? (i := 16) rfl))) (by decide) (t := .long) (t' := .int) (by decide) (by decide)))).other W6 (Or.inr (slot_ne (Or.inl (hw _ (List.mem_of_getElem? (i := 25) rfl))) (Or.inl (hw _ (List.mem_of_getElem? (i := 18) rfl))) (by decide) (t := .long) (t' := .long) (by decide) (by decide)))).other W11 (Or.inr (slot_ne (Or.inl (hw _ (List.mem_of_getElem? (i := 25) rfl))) (Or.inl (hw _ (List.mem_of_getElem? (i := 20) rfl))) (by decide) (t := .long) (t' := .long) (by decide) (by decide)))).other W16 (Or.inr (slot_ne (Or.inl (hw _ (List.mem_of_getElem? (i := 25) rfl))) (Or.inl (hw _ (List.mem_of_getElem? (i := 22) rfl))) (by decide) (t := .long) (t' := .int) (by decide) (by decide))))
  have fa20 : Exa Z h16 a1 "com/example/placecard/placecard/TableValues" := (fa15.wr W16)
  obtain ⟨T21, h21, X21, e21, W21, st21⟩ := putF X16 hx hZ hown (host := "") (Or.inl (hw _ (List.mem_of_getElem? (i := 24) rfl))) Via.refl e16 fa19 fa20 (Or.inl (hw _ (List.mem_of_getElem? (i := 25) rfl))) (hw _ (List.mem_of_getElem? (i := 2) rfl)) (ty := .long) (by decide) rfl rfl (g := (mkF m 24 #[.val (.ref a1)] [(.long (-9223372036854775808 : Int64)), (.ref a1)])) rfl rfl (hb hby d3_24)
  have Fw21 : Fld Z h21 a1 "com/example/placecard/placecard/TableValues" "belowMax" "J" (.long (-9223372036854775808 : Int64)) := fa19.same W21
  have zs22 : n0 ≤ h21.size := Nat.le_trans zs17 (Keep.of_wr W21).1
  have kp23 : Keep h0 h21 [a1] := kp18.wr W21 (Or.inl (List.mem_of_getElem? (i := 0) rfl))
  have N21 := Fr.snoc X21 N16 g_a1
  have fa24 : Fld Z h21 a1 "com/example/placecard/placecard/TableValues" "min" "J" (.long v_min) := (((((F_a1_min.other W1 (Or.inr (slot_ne (Or.inl (hw _ (List.mem_of_getElem? (i := 27) rfl))) (Or.inl (hw _ (List.mem_of_getElem? (i := 16) rfl))) (by decide) (t := .long) (t' := .int) (by decide) (by decide)))).other W6 (Or.inr (slot_ne (Or.inl (hw _ (List.mem_of_getElem? (i := 27) rfl))) (Or.inl (hw _ (List.mem_of_getElem? (i := 18) rfl))) (by decide) (t := .long) (t' := .long) (by decide) (by decide)))).other W11 (Or.inr (slot_ne (Or.inl (hw _ (List.mem_of_getElem? (i := 27) rfl))) (Or.inl (hw _ (List.mem_of_getElem? (i := 20) rfl))) (by decide) (t := .long) (t' := .long) (by decide) (by decide)))).other W16 (Or.inr (slot_ne (Or.inl (hw _ (List.mem_of_getElem? (i := 27) rfl))) (Or.inl (hw _ (List.mem_of_getElem? (i := 22) rfl))) (by decide) (t := .long) (t' := .int) (by decide) (by decide)))).other W21 (Or.inr (slot_ne (Or.inl (hw _ (List.mem_of_getElem? (i := 27) rfl))) (Or.inl (hw _ (List.mem_of_getElem? (i := 25) rfl))) (by decide) (t := .long) (t' := .long) (by decide) (by decide))))
  have fa25 : Exa Z h21 a1 "com/example/placecard/placecard/TableValues" := (fa20.wr W21)
  obtain ⟨T26, h26, X26, e26, W26, st26⟩ := putF X21 hx hZ hown (host := "") (Or.inl (hw _ (List.mem_of_getElem? (i := 26) rfl))) Via.refl e21 fa24 fa25 (Or.inl (hw _ (List.mem_of_getElem? (i := 27) rfl))) (hw _ (List.mem_of_getElem? (i := 2) rfl)) (ty := .long) (by decide) rfl rfl (g := (mkF m 29 #[.val (.ref a1)] [(.long (0 : Int64)), (.ref a1)])) rfl rfl (hb hby d3_29)
  have Fw26 : Fld Z h26 a1 "com/example/placecard/placecard/TableValues" "min" "J" (.long (0 : Int64)) := fa24.same W26
  have zs27 : n0 ≤ h26.size := Nat.le_trans zs22 (Keep.of_wr W26).1
  have kp28 : Keep h0 h26 [a1] := kp23.wr W26 (Or.inl (List.mem_of_getElem? (i := 0) rfl))
  have N26 := Fr.snoc X26 N21 g_a1
  have fa29 : Fld Z h26 a1 "com/example/placecard/placecard/TableValues" "minCount" "I" (.int v_minc) := ((((((F_a1_minCount.other W1 (Or.inr (slot_ne (Or.inl (hw _ (List.mem_of_getElem? (i := 29) rfl))) (Or.inl (hw _ (List.mem_of_getElem? (i := 16) rfl))) (by decide) (t := .int) (t' := .int) (by decide) (by decide)))).other W6 (Or.inr (slot_ne (Or.inl (hw _ (List.mem_of_getElem? (i := 29) rfl))) (Or.inl (hw _ (List.mem_of_getElem? (i := 18) rfl))) (by decide) (t := .int) (t' := .long) (by decide) (by decide)))).other W11 (Or.inr (slot_ne (Or.inl (hw _ (List.mem_of_getElem? (i := 29) rfl))) (Or.inl (hw _ (List.mem_of_getElem? (i := 20) rfl))) (by decide) (t := .int) (t' := .long) (by decide) (by decide)))).other W16 (Or.inr (slot_ne (Or.inl (hw _ (List.mem_of_getElem? (i := 29) rfl))) (Or.inl (hw _ (List.mem_of_getElem? (i := 22) rfl))) (by decide) (t := .int) (t' := .int) (by decide) (by decide)))).other W21 (Or.inr (slot_ne (Or.inl (hw _ (List.mem_of_getElem? (i := 29) rfl))) (Or.inl (hw _ (List.mem_of_getElem? (i := 25) rfl))) (by decide) (t := .int) (t' := .long) (by decide) (by decide)))).other W26 (Or.inr (slot_ne (Or.inl (hw _ (List.mem_of_getElem? (i := 29) rfl))) (Or.inl (hw _ (List.mem_of_getElem? (i := 27) rfl))) (by decide) (t := .int) (t' := .long) (by decide) (by decide))))
  have fa30 : Exa Z h26 a1 "com/example/placecard/placecard/TableValues" := (fa25.wr W26)
  obtain ⟨T31, h31, X31, e31, W31, st31⟩ := putF X26 hx hZ hown (host := "") (Or.inl (hw _ (List.mem_of_getElem? (i := 28) rfl))) Via.refl e26 fa29 fa30 (Or.inl (hw _ (List.mem_of_getElem? (i := 29) rfl))) (hw _ (List.mem_of_getElem? (i := 2) rfl)) (ty := .int) (by decide) rfl rfl (g := (mkF m 34 #[.val (.ref a1)] [(.int (0 : Int32)), (.ref a1)])) rfl rfl (hb hby d3_34)
  have Fw31 : Fld Z h31 a1 "com/example/placecard/placecard/TableValues" "minCount" "I" (.int (0 : Int32)) := fa29.same W31
  have zs32 : n0 ≤ h31.size := Nat.le_trans zs27 (Keep.of_wr W31).1
  have kp33 : Keep h0 h31 [a1] := kp28.wr W31 (Or.inl (List.mem_of_getElem? (i := 0) rfl))
  have N31 := Fr.snoc X31 N26 g_a1
  have fa34 : Fld Z h31 a1 "com/example/placecard/placecard/TableValues" "aboveMin" "J" (.long v_above) := (((((((F_a1_aboveMin.other W1 (Or.inr (slot_ne (Or.inl (hw _ (List.mem_of_getElem? (i := 32) rfl))) (Or.inl (hw _ (List.mem_of_getElem? (i := 16) rfl))) (by decide) (t := .long) (t' := .int) (by decide) (by decide)))).other W6 (Or.inr (slot_ne (Or.inl (hw _ (List.mem_of_getElem? (i := 32) rfl))) (Or.inl (hw _ (List.mem_of_getElem? (i := 18) rfl))) (by decide) (t := .long) (t' := .long) (by decide) (by decide)))).other W11 (Or.inr (slot_ne (Or.inl (hw _ (List.mem_of_getElem? (i := 32) rfl))) (Or.inl (hw _ (List.mem_of_getElem? (i := 20) rfl))) (by decide) (t := .long) (t' := .long) (by decide) (by decide)))).other W16 (Or.inr (slot_ne (Or.inl (hw _ (List.mem_of_getElem? (i := 32) rfl))) (Or.inl (hw _ (List.mem_of_getElem? (i := 22) rfl))) (by decide) (t := .long) (t' := .int) (by decide) (by decide)))).other W21 (Or.inr (slot_ne (Or.inl (hw _ (List.mem_of_getElem? (i := 32) rfl))) (Or.inl (hw _ (List.mem_of_getElem? (i := 25) rfl))) (by decide) (t := .long) (t' := .long) (by decide) (by decide)))).other W26 (Or.inr (slot_ne (Or.inl (hw _ (List.mem_of_getElem? (i := 32) rfl))) (Or.inl (hw _ (List.mem_of_getElem? (i := 27) rfl))) (by decide) (t := .long) (t' := .long) (by decide) (by decide)))).other W31 (Or.inr (slot_ne (Or.inl (hw _ (List.mem_of_getElem? (i := 32) rfl))) (Or.inl (hw _ (List.mem_of_getElem? (i := 29) rfl))) (by decide) (t := .long) (t' := .int) (by decide) (by decide))))
  have fa35 : Exa Z h31 a1 "com/example/placecard/placecard/TableValues" := (fa30.wr W31)
  obtain ⟨T36, h36, X36, e36, W36, st36⟩ := putF X31 hx hZ hown (host := "") (Or.inl (hw _ (List.mem_of_getElem? (i := 31) rfl))) Via.refl e31 fa34 fa35 (Or.inl (hw _ (List.mem_of_getElem? (i := 32) rfl))) (hw _ (List.mem_of_getElem? (i := 2) rfl)) (ty := .long) (by decide) rfl rfl (g := (mkF m 41 #[.val (.ref a1)] [(.long (9223372036854775807 : Int64)), (.ref a1)])) rfl rfl (hb hby d3_41)
  have Fw36 : Fld Z h36 a1 "com/example/placecard/placecard/TableValues" "aboveMin" "J" (.long (9223372036854775807 : Int64)) := fa34.same W36
  have zs37 : n0 ≤ h36.size := Nat.le_trans zs32 (Keep.of_wr W36).1
  have kp38 : Keep h0 h36 [a1] := kp33.wr W36 (Or.inl (List.mem_of_getElem? (i := 0) rfl))
  have N36 := Fr.snoc X36 N31 g_a1
  obtain ⟨fs, hr, hrun, hended, hW, hsame⟩ := X36.leave (v := none) (fun _ => rfl)
  refine ⟨_, _, pre0 _ ?_, hrun, hended, _, _, rfl, ?_, ⟨_, rfl⟩, hW, hsame.mono (by decide) (by decide)⟩
  · show Steps p.tables e below (s₁.setTop (mkF m 0 #[.val (.ref a1)] [])) _
    refine XS.aloadN X0.here hx rfl (hb hby d3_0) rfl rfl ?_
    show Steps p.tables e below (s₁.setTop (mkF m 1 #[.val (.ref a1)] [(.ref a1)])) _
    refine XS.iconst X0.here hx rfl (hb hby d3_1) ?_
    show Steps p.tables e below (s₁.setTop (mkF m 2 #[.val (.ref a1)] [(.int (0 : Int32)), (.ref a1)])) _
    refine st1 _ ?_
    show Steps p.tables e below (T1.setTop (mkF m 5 #[.val (.ref a1)] [])) _
    refine XS.aloadN X1.here hx rfl (hb hby d3_5) rfl rfl ?_
    show Steps p.tables e below (T1.setTop (mkF m 6 #[.val (.ref a1)] [(.ref a1)])) _
    refine XS.lconst X1.here hx rfl (hb hby d3_6) ?_
    show Steps p.tables e below (T1.setTop (mkF m 7 #[.val (.ref a1)] [(.long (0 : Int64)), (.ref a1)])) _
    refine st6 _ ?_
    show Steps p.tables e below (T6.setTop (mkF m 10 #[.val (.ref a1)] [])) _
    refine XS.aloadN X6.here hx rfl (hb hby d3_10) rfl rfl ?_
    show Steps p.tables e below (T6.setTop (mkF m 11 #[.val (.ref a1)] [(.ref a1)])) _
    refine XS.lconst X6.here hx rfl (hb hby d3_11) ?_
    show Steps p.tables e below (T6.setTop (mkF m 12 #[.val (.ref a1)] [(.long (0 : Int64)), (.ref a1)])) _
    refine st11 _ ?_
    show Steps p.tables e below (T11.setTop (mkF m 15 #[.val (.ref a1)] [])) _
    refine XS.aloadN X11.here hx rfl (hb hby d3_15) rfl rfl ?_
    show Steps p.tables e below (T11.setTop (mkF m 16 #[.val (.ref a1)] [(.ref a1)])) _
    refine XS.iconst X11.here hx rfl (hb hby d3_16) ?_
    show Steps p.tables e below (T11.setTop (mkF m 17 #[.val (.ref a1)] [(.int (0 : Int32)), (.ref a1)])) _
    refine st16 _ ?_
    show Steps p.tables e below (T16.setTop (mkF m 20 #[.val (.ref a1)] [])) _
    refine XS.aloadN X16.here hx rfl (hb hby d3_20) rfl rfl ?_
    show Steps p.tables e below (T16.setTop (mkF m 21 #[.val (.ref a1)] [(.ref a1)])) _
    refine X16.ldc2Long hx hown (mvT hZ (hw _ (List.mem_of_getElem? (i := 23) rfl))) (g := (mkF m 21 #[.val (.ref a1)] [(.ref a1)])) rfl (hb hby d3_21) _ ?_
    show Steps p.tables e below (T16.setTop (mkF m 24 #[.val (.ref a1)] [(.long (-9223372036854775808 : Int64)), (.ref a1)])) _
    refine st21 _ ?_
    show Steps p.tables e below (T21.setTop (mkF m 27 #[.val (.ref a1)] [])) _
    refine XS.aloadN X21.here hx rfl (hb hby d3_27) rfl rfl ?_
    show Steps p.tables e below (T21.setTop (mkF m 28 #[.val (.ref a1)] [(.ref a1)])) _
    refine XS.lconst X21.here hx rfl (hb hby d3_28) ?_
    show Steps p.tables e below (T21.setTop (mkF m 29 #[.val (.ref a1)] [(.long (0 : Int64)), (.ref a1)])) _
    refine st26 _ ?_
    show Steps p.tables e below (T26.setTop (mkF m 32 #[.val (.ref a1)] [])) _
    refine XS.aloadN X26.here hx rfl (hb hby d3_32) rfl rfl ?_
    show Steps p.tables e below (T26.setTop (mkF m 33 #[.val (.ref a1)] [(.ref a1)])) _
    refine XS.iconst X26.here hx rfl (hb hby d3_33) ?_
    show Steps p.tables e below (T26.setTop (mkF m 34 #[.val (.ref a1)] [(.int (0 : Int32)), (.ref a1)])) _
    refine st31 _ ?_
    show Steps p.tables e below (T31.setTop (mkF m 37 #[.val (.ref a1)] [])) _
    refine XS.aloadN X31.here hx rfl (hb hby d3_37) rfl rfl ?_
    show Steps p.tables e below (T31.setTop (mkF m 38 #[.val (.ref a1)] [(.ref a1)])) _
    refine X31.ldc2Long hx hown (mvT hZ (hw _ (List.mem_of_getElem? (i := 30) rfl))) (g := (mkF m 38 #[.val (.ref a1)] [(.ref a1)])) rfl (hb hby d3_38) _ ?_
    show Steps p.tables e below (T31.setTop (mkF m 41 #[.val (.ref a1)] [(.long (9223372036854775807 : Int64)), (.ref a1)])) _
    refine st36 _ ?_
    show Steps p.tables e below (T36.setTop (mkF m 44 #[.val (.ref a1)] [])) _
    exact X36.returnOut hx Bd.returns (hb hby d3_44) hr
  · show Q3 Z a1 v_count v_sum v_max v_maxc v_below v_min v_minc v_above h0 n0 _ T36.heap _
    rw [e36]
    have fa39 : Exa Z h36 a1 "com/example/placecard/placecard/TableValues" := (fa35.wr W36)
    have fa40 : Fld Z h36 a1 "com/example/placecard/placecard/TableValues" "count" "I" (.int (0 : Int32)) := (((((((Fw1.other W6 (Or.inr (slot_ne (Or.inl (hw _ (List.mem_of_getElem? (i := 16) rfl))) (Or.inl (hw _ (List.mem_of_getElem? (i := 18) rfl))) (by decide) (t := .int) (t' := .long) (by decide) (by decide)))).other W11 (Or.inr (slot_ne (Or.inl (hw _ (List.mem_of_getElem? (i := 16) rfl))) (Or.inl (hw _ (List.mem_of_getElem? (i := 20) rfl))) (by decide) (t := .int) (t' := .long) (by decide) (by decide)))).other W16 (Or.inr (slot_ne (Or.inl (hw _ (List.mem_of_getElem? (i := 16) rfl))) (Or.inl (hw _ (List.mem_of_getElem? (i := 22) rfl))) (by decide) (t := .int) (t' := .int) (by decide) (by decide)))).other W21 (Or.inr (slot_ne (Or.inl (hw _ (List.mem_of_getElem? (i := 16) rfl))) (Or.inl (hw _ (List.mem_of_getElem? (i := 25) rfl))) (by decide) (t := .int) (t' := .long) (by decide) (by decide)))).other W26 (Or.inr (slot_ne (Or.inl (hw _ (List.mem_of_getElem? (i := 16) rfl))) (Or.inl (hw _ (List.mem_of_getElem? (i := 27) rfl))) (by decide) (t := .int) (t' := .long) (by decide) (by decide)))).other W31 (Or.inr (slot_ne (Or.inl (hw _ (List.mem_of_getElem? (i := 16) rfl))) (Or.inl (hw _ (List.mem_of_getElem? (i := 29) rfl))) (by decide) (t := .int) (t' := .int) (by decide) (by decide)))).other W36 (Or.inr (slot_ne (Or.inl (hw _ (List.mem_of_getElem? (i := 16) rfl))) (Or.inl (hw _ (List.mem_of_getElem? (i := 32) rfl))) (by decide) (t := .int) (t' := .long) (by decide) (by decide))))
    have lf41 := fa40
    have fa42 : Fld Z h36 a1 "com/example/placecard/placecard/TableValues" "sum" "J" (.long (0 : Int64)) := ((((((Fw6.other W11 (Or.inr (slot_ne (Or.inl (hw _ (List.mem_of_getElem? (i := 18) rfl))) (Or.inl (hw _ (List.mem_of_getElem? (i := 20) rfl))) (by decide) (t := .long) (t' := .long) (by decide) (by decide)))).other W16 (Or.inr (slot_ne (Or.inl (hw _ (List.mem_of_getElem? (i := 18) rfl))) (Or.inl (hw _ (List.mem_of_getElem? (i := 22) rfl))) (by decide) (t := .long) (t' := .int) (by decide) (by decide)))).other W21 (Or.inr (slot_ne (Or.inl (hw _ (List.mem_of_getElem? (i := 18) rfl))) (Or.inl (hw _ (List.mem_of_getElem? (i := 25) rfl))) (by decide) (t := .long) (t' := .long) (by decide) (by decide)))).other W26 (Or.inr (slot_ne (Or.inl (hw _ (List.mem_of_getElem? (i := 18) rfl))) (Or.inl (hw _ (List.mem_of_getElem? (i := 27) rfl))) (by decide) (t := .long) (t' := .long) (by decide) (by decide)))).other W31 (Or.inr (slot_ne (Or.inl (hw _ (List.mem_of_getElem? (i := 18) rfl))) (Or.inl (hw _ (List.mem_of_getElem? (i := 29) rfl))) (by decide) (t := .long) (t' := .int) (by decide) (by decide)))).other W36 (Or.inr (slot_ne (Or.inl (hw _ (List.mem_of_getElem? (i := 18) rfl))) (Or.inl (hw _ (List.mem_of_getElem? (i := 32) rfl))) (by decide) (t := .long) (t' := .long) (by decide) (by decide))))
    have lf43 := fa42
    have fa44 : Fld Z h36 a1 "com/example/placecard/placecard/TableValues" "max" "J" (.long (0 : Int64)) := (((((Fw11.other W16 (Or.inr (slot_ne (Or.inl (hw _ (List.mem_of_getElem? (i := 20) rfl))) (Or.inl (hw _ (List.mem_of_getElem? (i := 22) rfl))) (by decide) (t := .long) (t' := .int) (by decide) (by decide)))).other W21 (Or.inr (slot_ne (Or.inl (hw _ (List.mem_of_getElem? (i := 20) rfl))) (Or.inl (hw _ (List.mem_of_getElem? (i := 25) rfl))) (by decide) (t := .long) (t' := .long) (by decide) (by decide)))).other W26 (Or.inr (slot_ne (Or.inl (hw _ (List.mem_of_getElem? (i := 20) rfl))) (Or.inl (hw _ (List.mem_of_getElem? (i := 27) rfl))) (by decide) (t := .long) (t' := .long) (by decide) (by decide)))).other W31 (Or.inr (slot_ne (Or.inl (hw _ (List.mem_of_getElem? (i := 20) rfl))) (Or.inl (hw _ (List.mem_of_getElem? (i := 29) rfl))) (by decide) (t := .long) (t' := .int) (by decide) (by decide)))).other W36 (Or.inr (slot_ne (Or.inl (hw _ (List.mem_of_getElem? (i := 20) rfl))) (Or.inl (hw _ (List.mem_of_getElem? (i := 32) rfl))) (by decide) (t := .long) (t' := .long) (by decide) (by decide))))
    have lf45 := fa44
    have fa46 : Fld Z h36 a1 "com/example/placecard/placecard/TableValues" "maxCount" "I" (.int (0 : Int32)) := ((((Fw16.other W21 (Or.inr (slot_ne (Or.inl (hw _ (List.mem_of_getElem? (i := 22) rfl))) (Or.inl (hw _ (List.mem_of_getElem? (i := 25) rfl))) (by decide) (t := .int) (t' := .long) (by decide) (by decide)))).other W26 (Or.inr (slot_ne (Or.inl (hw _ (List.mem_of_getElem? (i := 22) rfl))) (Or.inl (hw _ (List.mem_of_getElem? (i := 27) rfl))) (by decide) (t := .int) (t' := .long) (by decide) (by decide)))).other W31 (Or.inr (slot_ne (Or.inl (hw _ (List.mem_of_getElem? (i := 22) rfl))) (Or.inl (hw _ (List.mem_of_getElem? (i := 29) rfl))) (by decide) (t := .int) (t' := .int) (by decide) (by decide)))).other W36 (Or.inr (slot_ne (Or.inl (hw _ (List.mem_of_getElem? (i := 22) rfl))) (Or.inl (hw _ (List.mem_of_getElem? (i := 32) rfl))) (by decide) (t := .int) (t' := .long) (by decide) (by decide))))
    have lf47 := fa46
    have fa48 : Fld Z h36 a1 "com/example/placecard/placecard/TableValues" "belowMax" "J" (.long (-9223372036854775808 : Int64)) := (((Fw21.other W26 (Or.inr (slot_ne (Or.inl (hw _ (List.mem_of_getElem? (i := 25) rfl))) (Or.inl (hw _ (List.mem_of_getElem? (i := 27) rfl))) (by decide) (t := .long) (t' := .long) (by decide) (by decide)))).other W31 (Or.inr (slot_ne (Or.inl (hw _ (List.mem_of_getElem? (i := 25) rfl))) (Or.inl (hw _ (List.mem_of_getElem? (i := 29) rfl))) (by decide) (t := .long) (t' := .int) (by decide) (by decide)))).other W36 (Or.inr (slot_ne (Or.inl (hw _ (List.mem_of_getElem? (i := 25) rfl))) (Or.inl (hw _ (List.mem_of_getElem? (i := 32) rfl))) (by decide) (t := .long) (t' := .long) (by decide) (by decide))))
    have lf49 := fa48
    have fa50 : Fld Z h36 a1 "com/example/placecard/placecard/TableValues" "min" "J" (.long (0 : Int64)) := ((Fw26.other W31 (Or.inr (slot_ne (Or.inl (hw _ (List.mem_of_getElem? (i := 27) rfl))) (Or.inl (hw _ (List.mem_of_getElem? (i := 29) rfl))) (by decide) (t := .long) (t' := .int) (by decide) (by decide)))).other W36 (Or.inr (slot_ne (Or.inl (hw _ (List.mem_of_getElem? (i := 27) rfl))) (Or.inl (hw _ (List.mem_of_getElem? (i := 32) rfl))) (by decide) (t := .long) (t' := .long) (by decide) (by decide))))
    have lf51 := fa50
    have fa52 : Fld Z h36 a1 "com/example/placecard/placecard/TableValues" "minCount" "I" (.int (0 : Int32)) := (Fw31.other W36 (Or.inr (slot_ne (Or.inl (hw _ (List.mem_of_getElem? (i := 29) rfl))) (Or.inl (hw _ (List.mem_of_getElem? (i := 32) rfl))) (by decide) (t := .int) (t' := .long) (by decide) (by decide))))
    have lf53 := fa52
    have lf54 := Fw36
    exact ⟨rfl, N36, kp38, fa39, lf41, lf43, lf45, lf47, lf49, lf51, lf53, lf54⟩
theorem d4_0 : decode prog_44_method_3_code 0 = .ok (.aload_n 0, 1) := by decide +kernel
theorem d4_1 : decode prog_44_method_3_code 1 = .ok (.getfield 7, 3) := by decide +kernel
theorem d4_4 : decode prog_44_method_3_code 4 = .ok (.ifCond .ne 26, 3) := by decide +kernel
theorem d4_7 : decode prog_44_method_3_code 7 = .ok (.aload_n 0, 1) := by decide +kernel
theorem d4_8 : decode prog_44_method_3_code 8 = .ok (.lload_n 1, 1) := by decide +kernel
theorem d4_9 : decode prog_44_method_3_code 9 = .ok (.putfield 17, 3) := by decide +kernel
theorem d4_12 : decode prog_44_method_3_code 12 = .ok (.aload_n 0, 1) := by decide +kernel
theorem d4_13 : decode prog_44_method_3_code 13 = .ok (.iconst 1, 1) := by decide +kernel
theorem d4_14 : decode prog_44_method_3_code 14 = .ok (.putfield 20, 3) := by decide +kernel
theorem d4_17 : decode prog_44_method_3_code 17 = .ok (.aload_n 0, 1) := by decide +kernel
theorem d4_18 : decode prog_44_method_3_code 18 = .ok (.lload_n 1, 1) := by decide +kernel
theorem d4_19 : decode prog_44_method_3_code 19 = .ok (.putfield 30, 3) := by decide +kernel
theorem d4_22 : decode prog_44_method_3_code 22 = .ok (.aload_n 0, 1) := by decide +kernel
theorem d4_23 : decode prog_44_method_3_code 23 = .ok (.iconst 1, 1) := by decide +kernel
theorem d4_24 : decode prog_44_method_3_code 24 = .ok (.putfield 33, 3) := by decide +kernel
theorem d4_27 : decode prog_44_method_3_code 27 = .ok (.goto 131, 3) := by decide +kernel
theorem d4_30 : decode prog_44_method_3_code 30 = .ok (.lload_n 1, 1) := by decide +kernel
theorem d4_31 : decode prog_44_method_3_code 31 = .ok (.aload_n 0, 1) := by decide +kernel
theorem d4_32 : decode prog_44_method_3_code 32 = .ok (.getfield 17, 3) := by decide +kernel
theorem d4_35 : decode prog_44_method_3_code 35 = .ok (.lcmp, 1) := by decide +kernel
theorem d4_36 : decode prog_44_method_3_code 36 = .ok (.ifCond .le 24, 3) := by decide +kernel
theorem d4_39 : decode prog_44_method_3_code 39 = .ok (.aload_n 0, 1) := by decide +kernel
theorem d4_40 : decode prog_44_method_3_code 40 = .ok (.aload_n 0, 1) := by decide +kernel
theorem d4_41 : decode prog_44_method_3_code 41 = .ok (.getfield 17, 3) := by decide +kernel
theorem d4_44 : decode prog_44_method_3_code 44 = .ok (.putfield 27, 3) := by decide +kernel
theorem d4_47 : decode prog_44_method_3_code 47 = .ok (.aload_n 0, 1) := by decide +kernel
theorem d4_48 : decode prog_44_method_3_code 48 = .ok (.lload_n 1, 1) := by decide +kernel
theorem d4_49 : decode prog_44_method_3_code 49 = .ok (.putfield 17, 3) := by decide +kernel
theorem d4_52 : decode prog_44_method_3_code 52 = .ok (.aload_n 0, 1) := by decide +kernel
theorem d4_53 : decode prog_44_method_3_code 53 = .ok (.iconst 1, 1) := by decide +kernel
theorem d4_54 : decode prog_44_method_3_code 54 = .ok (.putfield 20, 3) := by decide +kernel
theorem d4_57 : decode prog_44_method_3_code 57 = .ok (.goto 37, 3) := by decide +kernel
theorem d4_60 : decode prog_44_method_3_code 60 = .ok (.lload_n 1, 1) := by decide +kernel
theorem d4_61 : decode prog_44_method_3_code 61 = .ok (.aload_n 0, 1) := by decide +kernel
theorem d4_62 : decode prog_44_method_3_code 62 = .ok (.getfield 17, 3) := by decide +kernel
theorem d4_65 : decode prog_44_method_3_code 65 = .ok (.lcmp, 1) := by decide +kernel
theorem d4_66 : decode prog_44_method_3_code 66 = .ok (.ifCond .ne 16, 3) := by decide +kernel
theorem d4_69 : decode prog_44_method_3_code 69 = .ok (.aload_n 0, 1) := by decide +kernel
theorem d4_70 : decode prog_44_method_3_code 70 = .ok (.dup, 1) := by decide +kernel
theorem d4_71 : decode prog_44_method_3_code 71 = .ok (.getfield 20, 3) := by decide +kernel
theorem d4_74 : decode prog_44_method_3_code 74 = .ok (.iconst 1, 1) := by decide +kernel
theorem d4_75 : decode prog_44_method_3_code 75 = .ok (.iadd, 1) := by decide +kernel
theorem d4_76 : decode prog_44_method_3_code 76 = .ok (.putfield 20, 3) := by decide +kernel
theorem d4_79 : decode prog_44_method_3_code 79 = .ok (.goto 15, 3) := by decide +kernel
theorem d4_82 : decode prog_44_method_3_code 82 = .ok (.aload_n 0, 1) := by decide +kernel
theorem d4_83 : decode prog_44_method_3_code 83 = .ok (.aload_n 0, 1) := by decide +kernel
theorem d4_84 : decode prog_44_method_3_code 84 = .ok (.getfield 27, 3) := by decide +kernel
theorem d4_87 : decode prog_44_method_3_code 87 = .ok (.lload_n 1, 1) := by decide +kernel
theorem d4_88 : decode prog_44_method_3_code 88 = .ok (.invokestatic 41, 3) := by decide +kernel
theorem d4_91 : decode prog_44_method_3_code 91 = .ok (.putfield 27, 3) := by decide +kernel
theorem d4_94 : decode prog_44_method_3_code 94 = .ok (.lload_n 1, 1) := by decide +kernel
theorem d4_95 : decode prog_44_method_3_code 95 = .ok (.aload_n 0, 1) := by decide +kernel
theorem d4_96 : decode prog_44_method_3_code 96 = .ok (.getfield 30, 3) := by decide +kernel
theorem d4_99 : decode prog_44_method_3_code 99 = .ok (.lcmp, 1) := by decide +kernel
theorem d4_100 : decode prog_44_method_3_code 100 = .ok (.ifCond .ge 24, 3) := by decide +kernel
theorem d4_103 : decode prog_44_method_3_code 103 = .ok (.aload_n 0, 1) := by decide +kernel
theorem d4_104 : decode prog_44_method_3_code 104 = .ok (.aload_n 0, 1) := by decide +kernel
theorem d4_105 : decode prog_44_method_3_code 105 = .ok (.getfield 30, 3) := by decide +kernel
theorem d4_108 : decode prog_44_method_3_code 108 = .ok (.putfield 38, 3) := by decide +kernel
theorem d4_111 : decode prog_44_method_3_code 111 = .ok (.aload_n 0, 1) := by decide +kernel
theorem d4_112 : decode prog_44_method_3_code 112 = .ok (.lload_n 1, 1) := by decide +kernel
theorem d4_113 : decode prog_44_method_3_code 113 = .ok (.putfield 30, 3) := by decide +kernel
theorem d4_116 : decode prog_44_method_3_code 116 = .ok (.aload_n 0, 1) := by decide +kernel
theorem d4_117 : decode prog_44_method_3_code 117 = .ok (.iconst 1, 1) := by decide +kernel
theorem d4_118 : decode prog_44_method_3_code 118 = .ok (.putfield 33, 3) := by decide +kernel
theorem d4_121 : decode prog_44_method_3_code 121 = .ok (.goto 37, 3) := by decide +kernel
theorem d4_124 : decode prog_44_method_3_code 124 = .ok (.lload_n 1, 1) := by decide +kernel
theorem d4_125 : decode prog_44_method_3_code 125 = .ok (.aload_n 0, 1) := by decide +kernel
theorem d4_126 : decode prog_44_method_3_code 126 = .ok (.getfield 30, 3) := by decide +kernel
theorem d4_129 : decode prog_44_method_3_code 129 = .ok (.lcmp, 1) := by decide +kernel
theorem d4_130 : decode prog_44_method_3_code 130 = .ok (.ifCond .ne 16, 3) := by decide +kernel
theorem d4_133 : decode prog_44_method_3_code 133 = .ok (.aload_n 0, 1) := by decide +kernel
theorem d4_134 : decode prog_44_method_3_code 134 = .ok (.dup, 1) := by decide +kernel
theorem d4_135 : decode prog_44_method_3_code 135 = .ok (.getfield 33, 3) := by decide +kernel
theorem d4_138 : decode prog_44_method_3_code 138 = .ok (.iconst 1, 1) := by decide +kernel
theorem d4_139 : decode prog_44_method_3_code 139 = .ok (.iadd, 1) := by decide +kernel
theorem d4_140 : decode prog_44_method_3_code 140 = .ok (.putfield 33, 3) := by decide +kernel
theorem d4_143 : decode prog_44_method_3_code 143 = .ok (.goto 15, 3) := by decide +kernel
theorem d4_146 : decode prog_44_method_3_code 146 = .ok (.aload_n 0, 1) := by decide +kernel
theorem d4_147 : decode prog_44_method_3_code 147 = .ok (.aload_n 0, 1) := by decide +kernel
theorem d4_148 : decode prog_44_method_3_code 148 = .ok (.getfield 38, 3) := by decide +kernel
theorem d4_151 : decode prog_44_method_3_code 151 = .ok (.lload_n 1, 1) := by decide +kernel
theorem d4_152 : decode prog_44_method_3_code 152 = .ok (.invokestatic 46, 3) := by decide +kernel
theorem d4_155 : decode prog_44_method_3_code 155 = .ok (.putfield 38, 3) := by decide +kernel
theorem d4_158 : decode prog_44_method_3_code 158 = .ok (.aload_n 0, 1) := by decide +kernel
theorem d4_159 : decode prog_44_method_3_code 159 = .ok (.dup, 1) := by decide +kernel
theorem d4_160 : decode prog_44_method_3_code 160 = .ok (.getfield 7, 3) := by decide +kernel
theorem d4_163 : decode prog_44_method_3_code 163 = .ok (.iconst 1, 1) := by decide +kernel
theorem d4_164 : decode prog_44_method_3_code 164 = .ok (.iadd, 1) := by decide +kernel
theorem d4_165 : decode prog_44_method_3_code 165 = .ok (.putfield 7, 3) := by decide +kernel
theorem d4_168 : decode prog_44_method_3_code 168 = .ok (.aload_n 0, 1) := by decide +kernel
theorem d4_169 : decode prog_44_method_3_code 169 = .ok (.dup, 1) := by decide +kernel
theorem d4_170 : decode prog_44_method_3_code 170 = .ok (.getfield 13, 3) := by decide +kernel
theorem d4_173 : decode prog_44_method_3_code 173 = .ok (.lload_n 1, 1) := by decide +kernel
theorem d4_174 : decode prog_44_method_3_code 174 = .ok (.ladd, 1) := by decide +kernel
theorem d4_175 : decode prog_44_method_3_code 175 = .ok (.putfield 13, 3) := by decide +kernel
theorem d4_178 : decode prog_44_method_3_code 178 = .ok (.return_, 1) := by decide +kernel
theorem pn_4 : plainName "com/example/placecard/placecard/TableValues" = true := by first | (simp [plainName, overriddenIn]; done) | decide +kernel
theorem pd_4_2 : parseMethodDescriptor "(JJ)J" = some ⟨[.long, .long], some .long⟩ := by decide +kernel
theorem ef_4 (m : MethodId) (x0 : Addr) (x1 : Int64) : entryFrame m #[(.ref x0), (.long x1)] 3 = mkF m 0 #[.val (.ref x0), .val (.long x1), .second] [] := by first | (simp [entryFrame, mkF, argsToLocals, Value.category]; done) | rfl

def f4_a1_count (q2 : Int64) (v_count : Int32) (v_sum : Int64) (v_max : Int64) (v_maxc : Int32) (v_below : Int64) (v_min : Int64) (v_minc : Int32) (v_above : Int64) : Int32 := (if v_count = (0 : Int32) then (v_count + (1 : Int32)) else (if v_max < q2 then (if q2 < v_min then (v_count + (1 : Int32)) else (if q2 = v_min then (v_count + (1 : Int32)) else (v_count + (1 : Int32)))) else (if q2 = v_max then (if q2 < v_min then (v_count + (1 : Int32)) else (if q2 = v_min then (v_count + (1 : Int32)) else (v_count + (1 : Int32)))) else (if q2 < v_min then (v_count + (1 : Int32)) else (if q2 = v_min then (v_count + (1 : Int32)) else (v_count + (1 : Int32)))))))
def f4_a1_sum (q2 : Int64) (v_count : Int32) (v_sum : Int64) (v_max : Int64) (v_maxc : Int32) (v_below : Int64) (v_min : Int64) (v_minc : Int32) (v_above : Int64) : Int64 := (if v_count = (0 : Int32) then (v_sum + q2) else (if v_max < q2 then (if q2 < v_min then (v_sum + q2) else (if q2 = v_min then (v_sum + q2) else (v_sum + q2))) else (if q2 = v_max then (if q2 < v_min then (v_sum + q2) else (if q2 = v_min then (v_sum + q2) else (v_sum + q2))) else (if q2 < v_min then (v_sum + q2) else (if q2 = v_min then (v_sum + q2) else (v_sum + q2))))))
def f4_a1_max (q2 : Int64) (v_count : Int32) (v_sum : Int64) (v_max : Int64) (v_maxc : Int32) (v_below : Int64) (v_min : Int64) (v_minc : Int32) (v_above : Int64) : Int64 := (if v_count = (0 : Int32) then q2 else (if v_max < q2 then (if q2 < v_min then q2 else (if q2 = v_min then q2 else q2)) else (if q2 = v_max then (if q2 < v_min then v_max else (if q2 = v_min then v_max else v_max)) else (if q2 < v_min then v_max else (if q2 = v_min then v_max else v_max)))))
def f4_a1_maxCount (q2 : Int64) (v_count : Int32) (v_sum : Int64) (v_max : Int64) (v_maxc : Int32) (v_below : Int64) (v_min : Int64) (v_minc : Int32) (v_above : Int64) : Int32 := (if v_count = (0 : Int32) then (1 : Int32) else (if v_max < q2 then (if q2 < v_min then (1 : Int32) else (if q2 = v_min then (1 : Int32) else (1 : Int32))) else (if q2 = v_max then (if q2 < v_min then (v_maxc + (1 : Int32)) else (if q2 = v_min then (v_maxc + (1 : Int32)) else (v_maxc + (1 : Int32)))) else (if q2 < v_min then v_maxc else (if q2 = v_min then v_maxc else v_maxc)))))
def f4_a1_belowMax (q2 : Int64) (v_count : Int32) (v_sum : Int64) (v_max : Int64) (v_maxc : Int32) (v_below : Int64) (v_min : Int64) (v_minc : Int32) (v_above : Int64) : Int64 := (if v_count = (0 : Int32) then v_below else (if v_max < q2 then (if q2 < v_min then v_max else (if q2 = v_min then v_max else v_max)) else (if q2 = v_max then (if q2 < v_min then v_below else (if q2 = v_min then v_below else v_below)) else (if q2 < v_min then (f5 v_below q2) else (if q2 = v_min then (f5 v_below q2) else (f5 v_below q2))))))
def f4_a1_min (q2 : Int64) (v_count : Int32) (v_sum : Int64) (v_max : Int64) (v_maxc : Int32) (v_below : Int64) (v_min : Int64) (v_minc : Int32) (v_above : Int64) : Int64 := (if v_count = (0 : Int32) then q2 else (if v_max < q2 then (if q2 < v_min then q2 else (if q2 = v_min then v_min else v_min)) else (if q2 = v_max then (if q2 < v_min then q2 else (if q2 = v_min then v_min else v_min)) else (if q2 < v_min then q2 else (if q2 = v_min then v_min else v_min)))))
def f4_a1_minCount (q2 : Int64) (v_count : Int32) (v_sum : Int64) (v_max : Int64) (v_maxc : Int32) (v_below : Int64) (v_min : Int64) (v_minc : Int32) (v_above : Int64) : Int32 := (if v_count = (0 : Int32) then (1 : Int32) else (if v_max < q2 then (if q2 < v_min then (1 : Int32) else (if q2 = v_min then (v_minc + (1 : Int32)) else v_minc)) else (if q2 = v_max then (if q2 < v_min then (1 : Int32) else (if q2 = v_min then (v_minc + (1 : Int32)) else v_minc)) else (if q2 < v_min then (1 : Int32) else (if q2 = v_min then (v_minc + (1 : Int32)) else v_minc)))))
def f4_a1_aboveMin (q2 : Int64) (v_count : Int32) (v_sum : Int64) (v_max : Int64) (v_maxc : Int32) (v_below : Int64) (v_min : Int64) (v_minc : Int32) (v_above : Int64) : Int64 := (if v_count = (0 : Int32) then v_above else (if v_max < q2 then (if q2 < v_min then v_min else (if q2 = v_min then v_above else (f7 v_above q2))) else (if q2 = v_max then (if q2 < v_min then v_min else (if q2 = v_min then v_above else (f7 v_above q2))) else (if q2 < v_min then v_min else (if q2 = v_min then v_above else (f7 v_above q2))))))
def Q4 (Z : State) (a1 : Addr) (q2 : Int64) (v_count : Int32) (v_sum : Int64) (v_max : Int64) (v_maxc : Int32) (v_below : Int64) (v_min : Int64) (v_minc : Int32) (v_above : Int64) (h0 : Heap) (n0 : Nat) (v : Option Value) (h : Heap) (L : List Loc) : Prop := v = none ∧ Fr n0 L ∧ Keep h0 h [a1] ∧ Exa Z h a1 "com/example/placecard/placecard/TableValues" ∧ Fld Z h a1 "com/example/placecard/placecard/TableValues" "count" "I" (.int (f4_a1_count q2 v_count v_sum v_max v_maxc v_below v_min v_minc v_above)) ∧ Fld Z h a1 "com/example/placecard/placecard/TableValues" "sum" "J" (.long (f4_a1_sum q2 v_count v_sum v_max v_maxc v_below v_min v_minc v_above)) ∧ Fld Z h a1 "com/example/placecard/placecard/TableValues" "max" "J" (.long (f4_a1_max q2 v_count v_sum v_max v_maxc v_below v_min v_minc v_above)) ∧ Fld Z h a1 "com/example/placecard/placecard/TableValues" "maxCount" "I" (.int (f4_a1_maxCount q2 v_count v_sum v_max v_maxc v_below v_min v_minc v_above)) ∧ Fld Z h a1 "com/example/placecard/placecard/TableValues" "belowMax" "J" (.long (f4_a1_belowMax q2 v_count v_sum v_max v_maxc v_below v_min v_minc v_above)) ∧ Fld Z h a1 "com/example/placecard/placecard/TableValues" "min" "J" (.long (f4_a1_min q2 v_count v_sum v_max v_maxc v_below v_min v_minc v_above)) ∧ Fld Z h a1 "com/example/placecard/placecard/TableValues" "minCount" "I" (.int (f4_a1_minCount q2 v_count v_sum v_max v_maxc v_below v_min v_minc v_above)) ∧ Fld Z h a1 "com/example/placecard/placecard/TableValues" "aboveMin" "J" (.long (f4_a1_aboveMin q2 v_count v_sum v_max v_maxc v_below v_min v_minc v_above))
set_option maxRecDepth 65536 in
set_option maxHeartbeats 40000000 in
theorem rm4 (l : Launch) (Z : State) (a0 : Array Value) (hw : ∀ d ∈ tables_1, d.before a0 Z = true) (ws : List Jvm.Cond) (a1 : Addr) (q2 : Int64) (v_count : Int32) (v_sum : Int64) (v_max : Int64) (v_maxc : Int32) (v_below : Int64) (v_min : Int64) (v_minc : Int32) (v_above : Int64) (h0 : Heap) (n0 : Nat) (Z0 : n0 ≤ h0.size) (E_a1 : Exa Z h0 a1 "com/example/placecard/placecard/TableValues") (F_a1_count : Fld Z h0 a1 "com/example/placecard/placecard/TableValues" "count" "I" (.int v_count)) (F_a1_sum : Fld Z h0 a1 "com/example/placecard/placecard/TableValues" "sum" "J" (.long v_sum)) (F_a1_max : Fld Z h0 a1 "com/example/placecard/placecard/TableValues" "max" "J" (.long v_max)) (F_a1_maxCount : Fld Z h0 a1 "com/example/placecard/placecard/TableValues" "maxCount" "I" (.int v_maxc)) (F_a1_belowMax : Fld Z h0 a1 "com/example/placecard/placecard/TableValues" "belowMax" "J" (.long v_below)) (F_a1_min : Fld Z h0 a1 "com/example/placecard/placecard/TableValues" "min" "J" (.long v_min)) (F_a1_minCount : Fld Z h0 a1 "com/example/placecard/placecard/TableValues" "minCount" "I" (.int v_minc)) (F_a1_aboveMin : Fld Z h0 a1 "com/example/placecard/placecard/TableValues" "aboveMin" "J" (.long v_above)) (g_a1 : n0 ≤ a1) :
    MetFree l (⟨"com/example/placecard/placecard/TableValues", "add", "(J)V"⟩ : MethodName) (head1 (Jvm.Cond.code (⟨"com/example/placecard/placecard/TableValues", "add", "(J)V"⟩ : MethodName) prog_44_method_3_code 3 none :: ws) ({ frames := 1, cells := 0, slots := 0, locals := 16 } : Room)) (fun a U => a = #[(.ref a1), (.long q2)] ∧ Z.Warmed39 U.vm ∧ U.heap = h0) (fun _ _ _ _ _ => True) (fun _ U o U' => ∃ v L, o = .returned v ∧ Q4 Z a1 q2 v_count v_sum v_max v_maxc v_below v_min v_minc v_above h0 n0 v U'.heap L ∧ FrameEnd U o U' L ({ frames := 1, cells := 0, slots := 0, locals := 16 } : Room).cells ({ frames := 1, cells := 0, slots := 0, locals := 16 } : Room).slots) := by
  refine MetFree.of_bodySF (plainFor_of_name pn_4) hisR ?_
  intro p e s m args below meth c s₁ Bd hml0 hP hK
  obtain ⟨rfl, hZ, hh⟩ := hP
  have hx := Bd.exec
  have hby := Bd.bytes
  have hml : c.maxLocals = 3 := hml0
  have hown : s.vm.findClass "com/example/placecard/placecard/TableValues" = some m.cls := findClass_of_methodNamed Bd.named
  have hnm := (name_of_methodNamed Bd.named Bd.method).1
  have X0 : Stand p l e ({ frames := 1, cells := 0, slots := 0, locals := 16 } : Room) s m #[(.ref a1), (.long q2)] below meth c s₁ [] 0 0 := Stand.of_body Bd
  have e0 : s₁.heap = h0 := by rw [← hh, Bd.state]; rfl
  have N0 := Fr.nil n0
  have pre0 : ∀ t, Steps p.tables e below (s₁.setTop (mkF m 0 #[.val (.ref a1), .val (.long q2), .second] [])) t → Steps p.tables e below (s₁.setTop (entryFrame m #[(.ref a1), (.long q2)] 3)) t := fun t k => castTop (ef_4 m a1 q2) k
  obtain ⟨T1, X1, e1, st1⟩ := getF X0 hx hZ hown (host := "") (Or.inl (hw _ (List.mem_of_getElem? (i := 15) rfl))) Via.refl e0 F_a1_count (g := (mkF m 1 #[.val (.ref a1), .val (.long q2), .second] [(.ref a1)])) rfl rfl (hb hby d4_1)
  have pre2 : ∀ t, Steps p.tables e below (T1.setTop (mkF m 4 #[.val (.ref a1), .val (.long q2), .second] [(.int v_count)])) t → Steps p.tables e below (s₁.setTop (entryFrame m #[(.ref a1), (.long q2)] 3)) t := fun t kt => by
    refine pre0 _ ?_
    show Steps p.tables e below (s₁.setTop (mkF m 0 #[.val (.ref a1), .val (.long q2), .second] [])) _
    refine XS.aloadN X0.here hx rfl (hb hby d4_0) rfl rfl ?_
    show Steps p.tables e below (s₁.setTop (mkF m 1 #[.val (.ref a1), .val (.long q2), .second] [(.ref a1)])) _
    refine st1 _ ?_
    exact kt
  by_cases hc3 : v_count = (0 : Int32)
  · obtain ⟨T4, h4, X4, e4, W4, st4⟩ := putF X1 hx hZ hown (host := "") (Or.inl (hw _ (List.mem_of_getElem? (i := 19) rfl))) Via.refl e1 F_a1_max E_a1 (Or.inl (hw _ (List.mem_of_getElem? (i := 20) rfl))) (hw _ (List.mem_of_getElem? (i := 2) rfl)) (ty := .long) (by decide) rfl rfl (g := (mkF m 9 #[.val (.ref a1), .val (.long q2), .second] [(.long q2), (.ref a1)])) rfl rfl (hb hby d4_9)
    have Fw4 : Fld Z h4 a1 "com/example/placecard/placecard/TableValues" "max" "J" (.long q2) := F_a1_max.same W4
    have zs5 : n0 ≤ h4.size := Nat.le_trans Z0 (Keep.of_wr W4).1
    have kp6 : Keep h0 h4 [a1] := (Keep.refl h0 [a1]).wr W4 (Or.inl (List.mem_of_getElem? (i := 0) rfl))
    have N4 := Fr.snoc X4 N0 g_a1
    have fa7 : Fld Z h4 a1 "com/example/placecard/placecard/TableValues" "maxCount" "I" (.int v_maxc) := (F_a1_maxCount.other W4 (Or.inr (slot_ne (Or.inl (hw _ (List.mem_of_getElem? (i := 22) rfl))) (Or.inl (hw _ (List.mem_of_getElem? (i := 20) rfl))) (by decide) (t := .int) (t' := .long) (by decide) (by decide))))
    have fa8 : Exa Z h4 a1 "com/example/placecard/placecard/TableValues" := (E_a1.wr W4)
    obtain ⟨T9, h9, X9, e9, W9, st9⟩ := putF X4 hx hZ hown (host := "") (Or.inl (hw _ (List.mem_of_getElem? (i := 21) rfl))) Via.refl e4 fa7 fa8 (Or.inl (hw _ (List.mem_of_getElem? (i := 22) rfl))) (hw _ (List.mem_of_getElem? (i := 2) rfl)) (ty := .int) (by decide) rfl rfl (g := (mkF m 14 #[.val (.ref a1), .val (.long q2), .second] [(.int (1 : Int32)), (.ref a1)])) rfl rfl (hb hby d4_14)
    have Fw9 : Fld Z h9 a1 "com/example/placecard/placecard/TableValues" "maxCount" "I" (.int (1 : Int32)) := fa7.same W9
    have zs10 : n0 ≤ h9.size := Nat.le_trans zs5 (Keep.of_wr W9).1
    have kp11 : Keep h0 h9 [a1] := kp6.wr W9 (Or.inl (List.mem_of_getElem? (i := 0) rfl))
    have N9 := Fr.snoc X9 N4 g_a1
    have fa12 : Fld Z h9 a1 "com/example/placecard/placecard/TableValues" "min" "J" (.long v_min) := ((F_a1_min.other W4 (Or.inr (slot_ne (Or.inl (hw _ (List.mem_of_getElem? (i := 27) rfl))) (Or.inl (hw _ (List.mem_of_getElem? (i := 20) rfl))) (by decide) (t := .long) (t' := .long) (by decide) (by decide)))).other W9 (Or.inr (slot_ne (Or.inl (hw _ (List.mem_of_getElem? (i := 27) rfl))) (Or.inl (hw _ (List.mem_of_getElem? (i := 22) rfl))) (by decide) (t := .long) (t' := .int) (by decide) (by decide))))
    have fa13 : Exa Z h9 a1 "com/example/placecard/placecard/TableValues" := (fa8.wr W9)
    obtain ⟨T14, h14, X14, e14, W14, st14⟩ := putF X9 hx hZ hown (host := "") (Or.inl (hw _ (List.mem_of_getElem? (i := 26) rfl))) Via.refl e9 fa12 fa13 (Or.inl (hw _ (List.mem_of_getElem? (i := 27) rfl))) (hw _ (List.mem_of_getElem? (i := 2) rfl)) (ty := .long) (by decide) rfl rfl (g := (mkF m 19 #[.val (.ref a1), .val (.long q2), .second] [(.long q2), (.ref a1)])) rfl rfl (hb hby d4_19)
    have Fw14 : Fld Z h14 a1 "com/example/placecard/placecard/TableValues" "min" "J" (.long q2) := fa12.same W14
    have zs15 : n0 ≤ h14.size := Nat.le_trans zs10 (Keep.of_wr W14).1
    have kp16 : Keep h0 h14 [a1] := kp11.wr W14 (Or.inl (List.mem_of_getElem? (i := 0) rfl))
    have N14 := Fr.snoc X14 N9 g_a1
    have fa17 : Fld Z h14 a1 "com/example/placecard/placecard/TableValues" "minCount" "I" (.int v_minc) := (((F_a1_minCount.other W4 (Or.inr (slot_ne (Or.inl (hw _ (List.mem_of_getElem? (i := 29) rfl))) (Or.inl (hw _ (List.mem_of_getElem? (i := 20) rfl))) (by decide) (t := .int) (t' := .long) (by decide) (by decide)))).other W9 (Or.inr (slot_ne (Or.inl (hw _ (List.mem_of_getElem? (i := 29) rfl))) (Or.inl (hw _ (List.mem_of_getElem? (i := 22) rfl))) (by decide) (t := .int) (t' := .int) (by decide) (by decide)))).other W14 (Or.inr (slot_ne (Or.inl (hw _ (List.mem_of_getElem? (i := 29) rfl))) (Or.inl (hw _ (List.mem_of_getElem? (i := 27) rfl))) (by decide) (t := .int) (t' := .long) (by decide) (by decide))))
    have fa18 : Exa Z h14 a1 "com/example/placecard/placecard/TableValues" := (fa13.wr W14)
    obtain ⟨T19, h19, X19, e19, W19, st19⟩ := putF X14 hx hZ hown (host := "") (Or.inl (hw _ (List.mem_of_getElem? (i := 28) rfl))) Via.refl e14 fa17 fa18 (Or.inl (hw _ (List.mem_of_getElem? (i := 29) rfl))) (hw _ (List.mem_of_getElem? (i := 2) rfl)) (ty := .int) (by decide) rfl rfl (g := (mkF m 24 #[.val (.ref a1), .val (.long q2), .second] [(.int (1 : Int32)), (.ref a1)])) rfl rfl (hb hby d4_24)
    have Fw19 : Fld Z h19 a1 "com/example/placecard/placecard/TableValues" "minCount" "I" (.int (1 : Int32)) := fa17.same W19
    have zs20 : n0 ≤ h19.size := Nat.le_trans zs15 (Keep.of_wr W19).1
    have kp21 : Keep h0 h19 [a1] := kp16.wr W19 (Or.inl (List.mem_of_getElem? (i := 0) rfl))
    have N19 := Fr.snoc X19 N14 g_a1
    have fa22 : Fld Z h19 a1 "com/example/placecard/placecard/TableValues" "count" "I" (.int v_count) := ((((F_a1_count.other W4 (Or.inr (slot_ne (Or.inl (hw _ (List.mem_of_getElem? (i := 16) rfl))) (Or.inl (hw _ (List.mem_of_getElem? (i := 20) rfl))) (by decide) (t := .int) (t' := .long) (by decide) (by decide)))).other W9 (Or.inr (slot_ne (Or.inl (hw _ (List.mem_of_getElem? (i := 16) rfl))) (Or.inl (hw _ (List.mem_of_getElem? (i := 22) rfl))) (by decide) (t := .int) (t' := .int) (by decide) (by decide)))).other W14 (Or.inr (slot_ne (Or.inl (hw _ (List.mem_of_getElem? (i := 16) rfl))) (Or.inl (hw _ (List.mem_of_getElem? (i := 27) rfl))) (by decide) (t := .int) (t' := .long) (by decide) (by decide)))).other W19 (Or.inr (slot_ne (Or.inl (hw _ (List.mem_of_getElem? (i := 16) rfl))) (Or.inl (hw _ (List.mem_of_getElem? (i := 29) rfl))) (by decide) (t := .int) (t' := .int) (by decide) (by decide))))
    obtain ⟨T23, X23, e23, st23⟩ := getF X19 hx hZ hown (host := "") (Or.inl (hw _ (List.mem_of_getElem? (i := 15) rfl))) Via.refl e19 fa22 (g := (mkF m 160 #[.val (.ref a1), .val (.long q2), .second] [(.ref a1), (.ref a1)])) rfl rfl (hb hby d4_160)
    have fa24 : Exa Z h19 a1 "com/example/placecard/placecard/TableValues" := (fa18.wr W19)
    obtain ⟨T25, h25, X25, e25, W25, st25⟩ := putF X23 hx hZ hown (host := "") (Or.inl (hw _ (List.mem_of_getElem? (i := 15) rfl))) Via.refl e23 fa22 fa24 (Or.inl (hw _ (List.mem_of_getElem? (i := 16) rfl))) (hw _ (List.mem_of_getElem? (i := 2) rfl)) (ty := .int) (by decide) rfl rfl (g := (mkF m 165 #[.val (.ref a1), .val (.long q2), .second] [(.int (v_count + (1 : Int32))), (.ref a1)])) rfl rfl (hb hby d4_165)
    have Fw25 : Fld Z h25 a1 "com/example/placecard/placecard/TableValues" "count" "I" (.int (v_count + (1 : Int32))) := fa22.same W25
    have zs26 : n0 ≤ h25.size := Nat.le_trans zs20 (Keep.of_wr W25).1
    have kp27 : Keep h0 h25 [a1] := kp21.wr W25 (Or.inl (List.mem_of_getElem? (i := 0) rfl))
    have N25 := Fr.snoc X25 N19 g_a1
    have fa28 : Fld Z h25 a1 "com/example/placecard/placecard/TableValues" "sum" "J" (.long v_sum) := (((((F_a1_sum.other W4 (Or.inr (slot_ne (Or.inl (hw _ (List.mem_of_getElem? (i := 18) rfl))) (Or.inl (hw _ (List.mem_of_getElem? (i := 20) rfl))) (by decide) (t := .long) (t' := .long) (by decide) (by decide)))).other W9 (Or.inr (slot_ne (Or.inl (hw _ (List.mem_of_getElem? (i := 18) rfl))) (Or.inl (hw _ (List.mem_of_getElem? (i := 22) rfl))) (by decide) (t := .long) (t' := .int) (by decide) (by decide)))).other W14 (Or.inr (slot_ne (Or.inl (hw _ (List.mem_of_getElem? (i := 18) rfl))) (Or.inl (hw _ (List.mem_of_getElem? (i := 27) rfl))) (by decide) (t := .long) (t' := .long) (by decide) (by decide)))).other W19 (Or.inr (slot_ne (Or.inl (hw _ (List.mem_of_getElem? (i := 18) rfl))) (Or.inl (hw _ (List.mem_of_getElem? (i := 29) rfl))) (by decide) (t := .long) (t' := .int) (by decide) (by decide)))).other W25 (Or.inr (slot_ne (Or.inl (hw _ (List.mem_of_getElem? (i := 18) rfl))) (Or.inl (hw _ (List.mem_of_getElem? (i := 16) rfl))) (by decide) (t := .long) (t' := .int) (by decide) (by decide))))
    obtain ⟨T29, X29, e29, st29⟩ := getF X25 hx hZ hown (host := "") (Or.inl (hw _ (List.mem_of_getElem? (i := 17) rfl))) Via.refl e25 fa28 (g := (mkF m 170 #[.val (.ref a1), .val (.long q2), .second] [(.ref a1), (.ref a1)])) rfl rfl (hb hby d4_170)
    have fa30 : Exa Z h25 a1 "com/example/placecard/placecard/TableValues" := (fa24.wr W25)
    obtain ⟨T31, h31, X31, e31, W31, st31⟩ := putF X29 hx hZ hown (host := "") (Or.inl (hw _ (List.mem_of_getElem? (i := 17) rfl))) Via.refl e29 fa28 fa30 (Or.inl (hw _ (List.mem_of_getElem? (i := 18) rfl))) (hw _ (List.mem_of_getElem? (i := 2) rfl)) (ty := .long) (by decide) rfl rfl (g := (mkF m 175 #[.val (.ref a1), .val (.long q2), .second] [(.long (v_sum + q2)), (.ref a1)])) rfl rfl (hb hby d4_175)
    have Fw31 : Fld Z h31 a1 "com/example/placecard/placecard/TableValues" "sum" "J" (.long (v_sum + q2)) := fa28.same W31
    have zs32 : n0 ≤ h31.size := Nat.le_trans zs26 (Keep.of_wr W31).1
    have kp33 : Keep h0 h31 [a1] := kp27.wr W31 (Or.inl (List.mem_of_getElem? (i := 0) rfl))
    have N31 := Fr.snoc X31 N25 g_a1
    obtain ⟨fs, hr, hrun, hended, hW, hsame⟩ := X31.leave (v := none) (fun _ => rfl)
    refine ⟨_, _, pre2 _ ?_, hrun, hended, _, _, rfl, ?_, ⟨_, rfl⟩, hW, hsame.mono (by decide) (by decide)⟩
    · show Steps p.tables e below (T1.setTop (mkF m 4 #[.val (.ref a1), .val (.long q2), .second] [(.int v_count)])) _
      refine XS.ifNo X1.here hx rfl (hb hby d4_4) rfl ((if0 _ _).trans (teq hc3).2) ?_
      show Steps p.tables e below (T1.setTop (mkF m 7 #[.val (.ref a1), .val (.long q2), .second] [])) _
      refine XS.aloadN X1.here hx rfl (hb hby d4_7) rfl rfl ?_
      show Steps p.tables e below (T1.setTop (mkF m 8 #[.val (.ref a1), .val (.long q2), .second] [(.ref a1)])) _
      refine XS.lloadN X1.here hx rfl (hb hby d4_8) rfl ?_
      show Steps p.tables e below (T1.setTop (mkF m 9 #[.val (.ref a1), .val (.long q2), .second] [(.long q2), (.ref a1)])) _
      refine st4 _ ?_
      show Steps p.tables e below (T4.setTop (mkF m 12 #[.val (.ref a1), .val (.long q2), .second] [])) _
      refine XS.aloadN X4.here hx rfl (hb hby d4_12) rfl rfl ?_
      show Steps p.tables e below (T4.setTop (mkF m 13 #[.val (.ref a1), .val (.long q2), .second] [(.ref a1)])) _
      refine XS.iconst X4.here hx rfl (hb hby d4_13) ?_
      show Steps p.tables e below (T4.setTop (mkF m 14 #[.val (.ref a1), .val (.long q2), .second] [(.int (1 : Int32)), (.ref a1)])) _
      refine st9 _ ?_
      show Steps p.tables e below (T9.setTop (mkF m 17 #[.val (.ref a1), .val (.long q2), .second] [])) _
      refine XS.aloadN X9.here hx rfl (hb hby d4_17) rfl rfl ?_
      show Steps p.tables e below (T9.setTop (mkF m 18 #[.val (.ref a1), .val (.long q2), .second] [(.ref a1)])) _
      refine XS.lloadN X9.here hx rfl (hb hby d4_18) rfl ?_
      show Steps p.tables e below (T9.setTop (mkF m 19 #[.val (.ref a1), .val (.long q2), .second] [(.long q2), (.ref a1)])) _
      refine st14 _ ?_
      show Steps p.tables e below (T14.setTop (mkF m 22 #[.val (.ref a1), .val (.long q2), .second] [])) _
      refine XS.aloadN X14.here hx rfl (hb hby d4_22) rfl rfl ?_
      show Steps p.tables e below (T14.setTop (mkF m 23 #[.val (.ref a1), .val (.long q2), .second] [(.ref a1)])) _
      refine XS.iconst X14.here hx rfl (hb hby d4_23) ?_
      show Steps p.tables e below (T14.setTop (mkF m 24 #[.val (.ref a1), .val (.long q2), .second] [(.int (1 : Int32)), (.ref a1)])) _
      refine st19 _ ?_
      show Steps p.tables e below (T19.setTop (mkF m 27 #[.val (.ref a1), .val (.long q2), .second] [])) _
      refine XS.goto X19.here hx rfl (pc0 := 27) (pc' := 158) rfl (hb hby d4_27) (by decide) (by decide) ?_
      show Steps p.tables e below (T19.setTop (mkF m 158 #[.val (.ref a1), .val (.long q2), .second] [])) _
      refine XS.aloadN X19.here hx rfl (hb hby d4_158) rfl rfl ?_
      show Steps p.tables e below (T19.setTop (mkF m 159 #[.val (.ref a1), .val (.long q2), .second] [(.ref a1)])) _
      refine XS.dup X19.here hx rfl (hb hby d4_159) rfl rfl ?_
      show Steps p.tables e below (T19.setTop (mkF m 160 #[.val (.ref a1), .val (.long q2), .second] [(.ref a1), (.ref a1)])) _
      refine st23 _ ?_
      show Steps p.tables e below (T23.setTop (mkF m 163 #[.val (.ref a1), .val (.long q2), .second] [(.int v_count), (.ref a1)])) _
      refine XS.iconst X23.here hx rfl (hb hby d4_163) ?_
      show Steps p.tables e below (T23.setTop (mkF m 164 #[.val (.ref a1), .val (.long q2), .second] [(.int (1 : Int32)), (.int v_count), (.ref a1)])) _
      refine XS.iadd X23.here hx rfl (hb hby d4_164) rfl ?_
      show Steps p.tables e below (T23.setTop (mkF m 165 #[.val (.ref a1), .val (.long q2), .second] [(.int (v_count + (1 : Int32))), (.ref a1)])) _
      refine st25 _ ?_
      show Steps p.tables e below (T25.setTop (mkF m 168 #[.val (.ref a1), .val (.long q2), .second] [])) _
      refine XS.aloadN X25.here hx rfl (hb hby d4_168) rfl rfl ?_
      show Steps p.tables e below (T25.setTop (mkF m 169 #[.val (.ref a1), .val (.long q2), .second] [(.ref a1)])) _
      refine XS.dup X25.here hx rfl (hb hby d4_169) rfl rfl ?_
      show Steps p.tables e below (T25.setTop (mkF m 170 #[.val (.ref a1), .val (.long q2), .second] [(.ref a1), (.ref a1)])) _
      refine st29 _ ?_
      show Steps p.tables e below (T29.setTop (mkF m 173 #[.val (.ref a1), .val (.long q2), .second] [(.long v_sum), (.ref a1)])) _
      refine XS.lloadN X29.here hx rfl (hb hby d4_173) rfl ?_
      show Steps p.tables e below (T29.setTop (mkF m 174 #[.val (.ref a1), .val (.long q2), .second] [(.long q2), (.long v_sum), (.ref a1)])) _
      refine XS.ladd X29.here hx rfl (hb hby d4_174) rfl ?_
      show Steps p.tables e below (T29.setTop (mkF m 175 #[.val (.ref a1), .val (.long q2), .second] [(.long (v_sum + q2)), (.ref a1)])) _
      refine st31 _ ?_
      show Steps p.tables e below (T31.setTop (mkF m 178 #[.val (.ref a1), .val (.long q2), .second] [])) _
      exact X31.returnOut hx Bd.returns (hb hby d4_178) hr
    · show Q4 Z a1 q2 v_count v_sum v_max v_maxc v_below v_min v_minc v_above h0 n0 _ T31.heap _
      rw [e31]
      have fa34 : Exa Z h31 a1 "com/example/placecard/placecard/TableValues" := (fa30.wr W31)
      have fa35 : Fld Z h31 a1 "com/example/placecard/placecard/TableValues" "count" "I" (.int (v_count + (1 : Int32))) := (Fw25.other W31 (Or.inr (slot_ne (Or.inl (hw _ (List.mem_of_getElem? (i := 16) rfl))) (Or.inl (hw _ (List.mem_of_getElem? (i := 18) rfl))) (by decide) (t := .int) (t' := .long) (by decide) (by decide))))
      have lf36 : Fld Z h31 a1 "com/example/placecard/placecard/TableValues" "count" "I" (.int (f4_a1_count q2 v_count v_sum v_max v_maxc v_below v_min v_minc v_above)) := by rw [f4_a1_count, if_pos hc3]; exact fa35
      have lf37 : Fld Z h31 a1 "com/example/placecard/placecard/TableValues" "sum" "J" (.long (f4_a1_sum q2 v_count v_sum v_max v_maxc v_below v_min v_minc v_above)) := by rw [f4_a1_sum, if_pos hc3]; exact Fw31
      have fa38 : Fld Z h31 a1 "com/example/placecard/placecard/TableValues" "max" "J" (.long q2) := (((((Fw4.other W9 (Or.inr (slot_ne (Or.inl (hw _ (List.mem_of_getElem? (i := 20) rfl))) (Or.inl (hw _ (List.mem_of_getElem? (i := 22) rfl))) (by decide) (t := .long) (t' := .int) (by decide) (by decide)))).other W14 (Or.inr (slot_ne (Or.inl (hw _ (List.mem_of_getElem? (i := 20) rfl))) (Or.inl (hw _ (List.mem_of_getElem? (i := 27) rfl))) (by decide) (t := .long) (t' := .long) (by decide) (by decide)))).other W19 (Or.inr (slot_ne (Or.inl (hw _ (List.mem_of_getElem? (i := 20) rfl))) (Or.inl (hw _ (List.mem_of_getElem? (i := 29) rfl))) (by decide) (t := .long) (t' := .int) (by decide) (by decide)))).other W25 (Or.inr (slot_ne (Or.inl (hw _ (List.mem_of_getElem? (i := 20) rfl))) (Or.inl (hw _ (List.mem_of_getElem? (i := 16) rfl))) (by decide) (t := .long) (t' := .int) (by decide) (by decide)))).other W31 (Or.inr (slot_ne (Or.inl (hw _ (List.mem_of_getElem? (i := 20) rfl))) (Or.inl (hw _ (List.mem_of_getElem? (i := 18) rfl))) (by decide) (t := .long) (t' := .long) (by decide) (by decide))))
      have lf39 : Fld Z h31 a1 "com/example/placecard/placecard/TableValues" "max" "J" (.long (f4_a1_max q2 v_count v_sum v_max v_maxc v_below v_min v_minc v_above)) := by rw [f4_a1_max, if_pos hc3]; exact fa38
      have fa40 : Fld Z h31 a1 "com/example/placecard/placecard/TableValues" "maxCount" "I" (.int (1 : Int32)) := ((((Fw9.other W14 (Or.inr (slot_ne (Or.inl (hw _ (List.mem_of_getElem? (i := 22) rfl))) (Or.inl (hw _ (List.mem_of_getElem? (i := 27) rfl))) (by decide) (t := .int) (t' := .long) (by decide) (by decide)))).other W19 (Or.inr (slot_ne (Or.inl (hw _ (List.mem_of_getElem? (i := 22) rfl))) (Or.inl (hw _ (List.mem_of_getElem? (i := 29) rfl))) (by decide) (t := .int) (t' := .int) (by decide) (by decide)))).other W25 (Or.inr (slot_ne (Or.inl (hw _ (List.mem_of_getElem? (i := 22) rfl))) (Or.inl (hw _ (List.mem_of_getElem? (i := 16) rfl))) (by decide) (t := .int) (t' := .int) (by decide) (by decide)))).other W31 (Or.inr (slot_ne (Or.inl (hw _ (List.mem_of_getElem? (i := 22) rfl))) (Or.inl (hw _ (List.mem_of_getElem? (i := 18) rfl))) (by decide) (t := .int) (t' := .long) (by decide) (by decide))))
      have lf41 : Fld Z h31 a1 "com/example/placecard/placecard/TableValues" "maxCount" "I" (.int (f4_a1_maxCount q2 v_count v_sum v_max v_maxc v_below v_min v_minc v_above)) := by rw [f4_a1_maxCount, if_pos hc3]; exact fa40
      have fa42 : Fld Z h31 a1 "com/example/placecard/placecard/TableValues" "belowMax" "J" (.long v_below) := ((((((F_a1_belowMax.other W4 (Or.inr (slot_ne (Or.inl (hw _ (List.mem_of_getElem? (i := 25) rfl))) (Or.inl (hw _ (List.mem_of_getElem? (i := 20) rfl))) (by decide) (t := .long) (t' := .long) (by decide) (by decide)))).other W9 (Or.inr (slot_ne (Or.inl (hw _ (List.mem_of_getElem? (i := 25) rfl))) (Or.inl (hw _ (List.mem_of_getElem? (i := 22) rfl))) (by decide) (t := .long) (t' := .int) (by decide) (by decide)))).other W14 (Or.inr (slot_ne (Or.inl (hw _ (List.mem_of_getElem? (i := 25) rfl))) (Or.inl (hw _ (List.mem_of_getElem? (i := 27) rfl))) (by decide) (t := .long) (t' := .long) (by decide) (by decide)))).other W19 (Or.inr (slot_ne (Or.inl (hw _ (List.mem_of_getElem? (i := 25) rfl))) (Or.inl (hw _ (List.mem_of_getElem? (i := 29) rfl))) (by decide) (t := .long) (t' := .int) (by decide) (by decide)))).other W25 (Or.inr (slot_ne (Or.inl (hw _ (List.mem_of_getElem? (i := 25) rfl))) (Or.inl (hw _ (List.mem_of_getElem? (i := 16) rfl))) (by decide) (t := .long) (t' := .int) (by decide) (by decide)))).other W31 (Or.inr (slot_ne (Or.inl (hw _ (List.mem_of_getElem? (i := 25) rfl))) (Or.inl (hw _ (List.mem_of_getElem? (i := 18) rfl))) (by decide) (t := .long) (t' := .long) (by decide) (by decide))))
      have lf43 : Fld Z h31 a1 "com/example/placecard/placecard/TableValues" "belowMax" "J" (.long (f4_a1_belowMax q2 v_count v_sum v_max v_maxc v_below v_min v_minc v_above)) := by rw [f4_a1_belowMax, if_pos hc3]; exact fa42
      have fa44 : Fld Z h31 a1 "com/example/placecard/placecard/TableValues" "min" "J" (.long q2) := (((Fw14.other W19 (Or.inr (slot_ne (Or.inl (hw _ (List.mem_of_getElem? (i := 27) rfl))) (Or.inl (hw _ (List.mem_of_getElem? (i := 29) rfl))) (by decide) (t := .long) (t' := .int) (by decide) (by decide)))).other W25 (Or.inr (slot_ne (Or.inl (hw _ (List.mem_of_getElem? (i := 27) rfl))) (Or.inl (hw _ (List.mem_of_getElem? (i := 16) rfl))) (by decide) (t := .long) (t' := .int) (by decide) (by decide)))).other W31 (Or.inr (slot_ne (Or.inl (hw _ (List.mem_of_getElem? (i := 27) rfl))) (Or.inl (hw _ (List.mem_of_getElem? (i := 18) rfl))) (by decide) (t := .long) (t' := .long) (by decide) (by decide))))
      have lf45 : Fld Z h31 a1 "com/example/placecard/placecard/TableValues" "min" "J" (.long (f4_a1_min q2 v_count v_sum v_max v_maxc v_below v_min v_minc v_above)) := by rw [f4_a1_min, if_pos hc3]; exact fa44
      have fa46 : Fld Z h31 a1 "com/example/placecard/placecard/TableValues" "minCount" "I" (.int (1 : Int32)) := ((Fw19.other W25 (Or.inr (slot_ne (Or.inl (hw _ (List.mem_of_getElem? (i := 29) rfl))) (Or.inl (hw _ (List.mem_of_getElem? (i := 16) rfl))) (by decide) (t := .int) (t' := .int) (by decide) (by decide)))).other W31 (Or.inr (slot_ne (Or.inl (hw _ (List.mem_of_getElem? (i := 29) rfl))) (Or.inl (hw _ (List.mem_of_getElem? (i := 18) rfl))) (by decide) (t := .int) (t' := .long) (by decide) (by decide))))
      have lf47 : Fld Z h31 a1 "com/example/placecard/placecard/TableValues" "minCount" "I" (.int (f4_a1_minCount q2 v_count v_sum v_max v_maxc v_below v_min v_minc v_above)) := by rw [f4_a1_minCount, if_pos hc3]; exact fa46
      have fa48 : Fld Z h31 a1 "com/example/placecard/placecard/TableValues" "aboveMin" "J" (.long v_above) := ((((((F_a1_aboveMin.other W4 (Or.inr (slot_ne (Or.inl (hw _ (List.mem_of_getElem? (i := 32) rfl))) (Or.inl (hw _ (List.mem_of_getElem? (i := 20) rfl))) (by decide) (t := .long) (t' := .long) (by decide) (by decide)))).other W9 (Or.inr (slot_ne (Or.inl (hw _ (List.mem_of_getElem? (i := 32) rfl))) (Or.inl (hw _ (List.mem_of_getElem? (i := 22) rfl))) (by decide) (t := .long) (t' := .int) (by decide) (by decide)))).other W14 (Or.inr (slot_ne (Or.inl (hw _ (List.mem_of_getElem? (i := 32) rfl))) (Or.inl (hw _ (List.mem_of_getElem? (i := 27) rfl))) (by decide) (t := .long) (t' := .long) (by decide) (by decide)))).other W19 (Or.inr (slot_ne (Or.inl (hw _ (List.mem_of_getElem? (i := 32) rfl))) (Or.inl (hw _ (List.mem_of_getElem? (i := 29) rfl))) (by decide) (t := .long) (t' := .int) (by decide) (by decide)))).other W25 (Or.inr (slot_ne (Or.inl (hw _ (List.mem_of_getElem? (i := 32) rfl))) (Or.inl (hw _ (List.mem_of_getElem? (i := 16) rfl))) (by decide) (t := .long) (t' := .int) (by decide) (by decide)))).other W31 (Or.inr (slot_ne (Or.inl (hw _ (List.mem_of_getElem? (i := 32) rfl))) (Or.inl (hw _ (List.mem_of_getElem? (i := 18) rfl))) (by decide) (t := .long) (t' := .long) (by decide) (by decide))))
      have lf49 : Fld Z h31 a1 "com/example/placecard/placecard/TableValues" "aboveMin" "J" (.long (f4_a1_aboveMin q2 v_count v_sum v_max v_maxc v_below v_min v_minc v_above)) := by rw [f4_a1_aboveMin, if_pos hc3]; exact fa48
      exact ⟨rfl, N31, kp33, fa34, lf36, lf37, lf39, lf41, lf43, lf45, lf47, lf49⟩
  · obtain ⟨T50, X50, e50, st50⟩ := getF X1 hx hZ hown (host := "") (Or.inl (hw _ (List.mem_of_getElem? (i := 19) rfl))) Via.refl e1 F_a1_max (g := (mkF m 32 #[.val (.ref a1), .val (.long q2), .second] [(.ref a1), (.long q2)])) rfl rfl (hb hby d4_32)
    have pre51 : ∀ t, Steps p.tables e below (T50.setTop (mkF m 36 #[.val (.ref a1), .val (.long q2), .second] [(.int (lcmpW q2 v_max))])) t → Steps p.tables e below (s₁.setTop (entryFrame m #[(.ref a1), (.long q2)] 3)) t := fun t kt => by
      refine pre2 _ ?_
      show Steps p.tables e below (T1.setTop (mkF m 4 #[.val (.ref a1), .val (.long q2), .second] [(.int v_count)])) _
      refine XS.ifYes X1.here hx rfl (pc0 := 4) (pc' := 30) rfl (hb hby d4_4) rfl ((if0 _ _).trans (feq hc3).2) (by decide) (by decide) ?_
      show Steps p.tables e below (T1.setTop (mkF m 30 #[.val (.ref a1), .val (.long q2), .second] [])) _
      refine XS.lloadN X1.here hx rfl (hb hby d4_30) rfl ?_
      show Steps p.tables e below (T1.setTop (mkF m 31 #[.val (.ref a1), .val (.long q2), .second] [(.long q2)])) _
      refine XS.aloadN X1.here hx rfl (hb hby d4_31) rfl rfl ?_
      show Steps p.tables e below (T1.setTop (mkF m 32 #[.val (.ref a1), .val (.long q2), .second] [(.ref a1), (.long q2)])) _
      refine st50 _ ?_
      show Steps p.tables e below (T50.setTop (mkF m 35 #[.val (.ref a1), .val (.long q2), .second] [(.long v_max), (.long q2)])) _
      refine XS.lcmp X50.here hx rfl (hb hby d4_35) rfl ?_
      exact kt
    by_cases hc52 : v_max < q2
    · obtain ⟨T53, X53, e53, st53⟩ := getF X50 hx hZ hown (host := "") (Or.inl (hw _ (List.mem_of_getElem? (i := 19) rfl))) Via.refl e50 F_a1_max (g := (mkF m 41 #[.val (.ref a1), .val (.long q2), .second] [(.ref a1), (.ref a1)])) rfl rfl (hb hby d4_41)
      obtain ⟨T54, h54, X54, e54, W54, st54⟩ := putF X53 hx hZ hown (host := "") (Or.inl (hw _ (List.mem_of_getElem? (i := 24) rfl))) Via.refl e53 F_a1_belowMax E_a1 (Or.inl (hw _ (List.mem_of_getElem? (i := 25) rfl))) (hw _ (List.mem_of_getElem? (i := 2) rfl)) (ty := .long) (by decide) rfl rfl (g := (mkF m 44 #[.val (.ref a1), .val (.long q2), .second] [(.long v_max), (.ref a1)])) rfl rfl (hb hby d4_44)
      have Fw54 : Fld Z h54 a1 "com/example/placecard/placecard/TableValues" "belowMax" "J" (.long v_max) := F_a1_belowMax.same W54
      have zs55 : n0 ≤ h54.size := Nat.le_trans Z0 (Keep.of_wr W54).1
      have kp56 : Keep h0 h54 [a1] := (Keep.refl h0 [a1]).wr W54 (Or.inl (List.mem_of_getElem? (i := 0) rfl))
      have N54 := Fr.snoc X54 N0 g_a1
      have fa57 : Fld Z h54 a1 "com/example/placecard/placecard/TableValues" "max" "J" (.long v_max) := (F_a1_max.other W54 (Or.inr (slot_ne (Or.inl (hw _ (List.mem_of_getElem? (i := 20) rfl))) (Or.inl (hw _ (List.mem_of_getElem? (i := 25) rfl))) (by decide) (t := .long) (t' := .long) (by decide) (by decide))))
      have fa58 : Exa Z h54 a1 "com/example/placecard/placecard/TableValues" := (E_a1.wr W54)
      obtain ⟨T59, h59, X59, e59, W59, st59⟩ := putF X54 hx hZ hown (host := "") (Or.inl (hw _ (List.mem_of_getElem? (i := 19) rfl))) Via.refl e54 fa57 fa58 (Or.inl (hw _ (List.mem_of_getElem? (i := 20) rfl))) (hw _ (List.mem_of_getElem? (i := 2) rfl)) (ty := .long) (by decide) rfl rfl (g := (mkF m 49 #[.val (.ref a1), .val (.long q2), .second] [(.long q2), (.ref a1)])) rfl rfl (hb hby d4_49)
      have Fw59 : Fld Z h59 a1 "com/example/placecard/placecard/TableValues" "max" "J" (.long q2) := fa57.same W59
      have zs60 : n0 ≤ h59.size := Nat.le_trans zs55 (Keep.of_wr W59).1
      have kp61 : Keep h0 h59 [a1] := kp56.wr W59 (Or.inl (List.mem_of_getElem? (i := 0) rfl))
      have N59 := Fr.snoc X59 N54 g_a1
      have fa62 : Fld Z h59 a1 "com/example/placecard/placecard/TableValues" "maxCount" "I" (.int v_maxc) := ((F_a1_maxCount.other W54 (Or.inr (slot_ne (Or.inl (hw _ (List.mem_of_getElem? (i := 22) rfl))) (Or.inl (hw _ (List.mem_of_getElem? (i := 25) rfl))) (by decide) (t := .int) (t' := .long) (by decide) (by decide)))).other W59 (Or.inr (slot_ne (Or.inl (hw _ (List.mem_of_getElem? (i := 22) rfl))) (Or.inl (hw _ (List.mem_of_getElem? (i := 20) rfl))) (by decide) (t := .int) (t' := .long) (by decide) (by decide))))
      have fa63 : Exa Z h59 a1 "com/example/placecard/placecard/TableValues" := (fa58.wr W59)
      obtain ⟨T64, h64, X64, e64, W64, st64⟩ := putF X59 hx hZ hown (host := "") (Or.inl (hw _ (List.mem_of_getElem? (i := 21) rfl))) Via.refl e59 fa62 fa63 (Or.inl (hw _ (List.mem_of_getElem? (i := 22) rfl))) (hw _ (List.mem_of_getElem? (i := 2) rfl)) (ty := .int) (by decide) rfl rfl (g := (mkF m 54 #[.val (.ref a1), .val (.long q2), .second] [(.int (1 : Int32)), (.ref a1)])) rfl rfl (hb hby d4_54)
      have Fw64 : Fld Z h64 a1 "com/example/placecard/placecard/TableValues" "maxCount" "I" (.int (1 : Int32)) := fa62.same W64
      have zs65 : n0 ≤ h64.size := Nat.le_trans zs60 (Keep.of_wr W64).1
      have kp66 : Keep h0 h64 [a1] := kp61.wr W64 (Or.inl (List.mem_of_getElem? (i := 0) rfl))
      have N64 := Fr.snoc X64 N59 g_a1
      have fa67 : Fld Z h64 a1 "com/example/placecard/placecard/TableValues" "min" "J" (.long v_min) := (((F_a1_min.other W54 (Or.inr (slot_ne (Or.inl (hw _ (List.mem_of_getElem? (i := 27) rfl))) (Or.inl (hw _ (List.mem_of_getElem? (i := 25) rfl))) (by decide) (t := .long) (t' := .long) (by decide) (by decide)))).other W59 (Or.inr (slot_ne (Or.inl (hw _ (List.mem_of_getElem? (i := 27) rfl))) (Or.inl (hw _ (List.mem_of_getElem? (i := 20) rfl))) (by decide) (t := .long) (t' := .long) (by decide) (by decide)))).other W64 (Or.inr (slot_ne (Or.inl (hw _ (List.mem_of_getElem? (i := 27) rfl))) (Or.inl (hw _ (List.mem_of_getElem? (i := 22) rfl))) (by decide) (t := .long) (t' := .int) (by decide) (by decide))))
      obtain ⟨T68, X68, e68, st68⟩ := getF X64 hx hZ hown (host := "") (Or.inl (hw _ (List.mem_of_getElem? (i := 26) rfl))) Via.refl e64 fa67 (g := (mkF m 96 #[.val (.ref a1), .val (.long q2), .second] [(.ref a1), (.long q2)])) rfl rfl (hb hby d4_96)
      have pre69 : ∀ t, Steps p.tables e below (T68.setTop (mkF m 100 #[.val (.ref a1), .val (.long q2), .second] [(.int (lcmpW q2 v_min))])) t → Steps p.tables e below (s₁.setTop (entryFrame m #[(.ref a1), (.long q2)] 3)) t := fun t kt => by
        refine pre51 _ ?_
        show Steps p.tables e below (T50.setTop (mkF m 36 #[.val (.ref a1), .val (.long q2), .second] [(.int (lcmpW q2 v_max))])) _
        refine XS.ifNo X50.here hx rfl (hb hby d4_36) rfl ((if0 _ _).trans (tlt ((lw_gt q2 v_max).mpr hc52)).2.2.2) ?_
        show Steps p.tables e below (T50.setTop (mkF m 39 #[.val (.ref a1), .val (.long q2), .second] [])) _
        refine XS.aloadN X50.here hx rfl (hb hby d4_39) rfl rfl ?_
        show Steps p.tables e below (T50.setTop (mkF m 40 #[.val (.ref a1), .val (.long q2), .second] [(.ref a1)])) _
        refine XS.aloadN X50.here hx rfl (hb hby d4_40) rfl rfl ?_
        show Steps p.tables e below (T50.setTop (mkF m 41 #[.val (.ref a1), .val (.long q2), .second] [(.ref a1), (.ref a1)])) _
        refine st53 _ ?_
        show Steps p.tables e below (T53.setTop (mkF m 44 #[.val (.ref a1), .val (.long q2), .second] [(.long v_max), (.ref a1)])) _
        refine st54 _ ?_
        show Steps p.tables e below (T54.setTop (mkF m 47 #[.val (.ref a1), .val (.long q2), .second] [])) _
        refine XS.aloadN X54.here hx rfl (hb hby d4_47) rfl rfl ?_
        show Steps p.tables e below (T54.setTop (mkF m 48 #[.val (.ref a1), .val (.long q2), .second] [(.ref a1)])) _
        refine XS.lloadN X54.here hx rfl (hb hby d4_48) rfl ?_
        show Steps p.tables e below (T54.setTop (mkF m 49 #[.val (.ref a1), .val (.long q2), .second] [(.long q2), (.ref a1)])) _
        refine st59 _ ?_
        show Steps p.tables e below (T59.setTop (mkF m 52 #[.val (.ref a1), .val (.long q2), .second] [])) _
        refine XS.aloadN X59.here hx rfl (hb hby d4_52) rfl rfl ?_
        show Steps p.tables e below (T59.setTop (mkF m 53 #[.val (.ref a1), .val (.long q2), .second] [(.ref a1)])) _
        refine XS.iconst X59.here hx rfl (hb hby d4_53) ?_
        show Steps p.tables e below (T59.setTop (mkF m 54 #[.val (.ref a1), .val (.long q2), .second] [(.int (1 : Int32)), (.ref a1)])) _
        refine st64 _ ?_
        show Steps p.tables e below (T64.setTop (mkF m 57 #[.val (.ref a1), .val (.long q2), .second] [])) _
        refine XS.goto X64.here hx rfl (pc0 := 57) (pc' := 94) rfl (hb hby d4_57) (by decide) (by decide) ?_
        show Steps p.tables e below (T64.setTop (mkF m 94 #[.val (.ref a1), .val (.long q2), .second] [])) _
        refine XS.lloadN X64.here hx rfl (hb hby d4_94) rfl ?_
        show Steps p.tables e below (T64.setTop (mkF m 95 #[.val (.ref a1), .val (.long q2), .second] [(.long q2)])) _
        refine XS.aloadN X64.here hx rfl (hb hby d4_95) rfl rfl ?_
        show Steps p.tables e below (T64.setTop (mkF m 96 #[.val (.ref a1), .val (.long q2), .second] [(.ref a1), (.long q2)])) _
        refine st68 _ ?_
        show Steps p.tables e below (T68.setTop (mkF m 99 #[.val (.ref a1), .val (.long q2), .second] [(.long v_min), (.long q2)])) _
        refine XS.lcmp X68.here hx rfl (hb hby d4_99) rfl ?_
        exact kt
      by_cases hc70 : q2 < v_min
      · obtain ⟨T71, X71, e71, st71⟩ := getF X68 hx hZ hown (host := "") (Or.inl (hw _ (List.mem_of_getElem? (i := 26) rfl))) Via.refl e68 fa67 (g := (mkF m 105 #[.val (.ref a1), .val (.long q2), .second] [(.ref a1), (.ref a1)])) rfl rfl (hb hby d4_105)
        have fa72 : Fld Z h64 a1 "com/example/placecard/placecard/TableValues" "aboveMin" "J" (.long v_above) := (((F_a1_aboveMin.other W54 (Or.inr (slot_ne (Or.inl (hw _ (List.mem_of_getElem? (i := 32) rfl))) (Or.inl (hw _ (List.mem_of_getElem? (i := 25) rfl))) (by decide) (t := .long) (t' := .long) (by decide) (by decide)))).other W59 (Or.inr (slot_ne (Or.inl (hw _ (List.mem_of_getElem? (i := 32) rfl))) (Or.inl (hw _ (List.mem_of_getElem? (i := 20) rfl))) (by decide) (t := .long) (t' := .long) (by decide) (by decide)))).other W64 (Or.inr (slot_ne (Or.inl (hw _ (List.mem_of_getElem? (i := 32) rfl))) (Or.inl (hw _ (List.mem_of_getElem? (i := 22) rfl))) (by decide) (t := .long) (t' := .int) (by decide) (by decide))))
        have fa73 : Exa Z h64 a1 "com/example/placecard/placecard/TableValues" := (fa63.wr W64)
        obtain ⟨T74, h74, X74, e74, W74, st74⟩ := putF X71 hx hZ hown (host := "") (Or.inl (hw _ (List.mem_of_getElem? (i := 31) rfl))) Via.refl e71 fa72 fa73 (Or.inl (hw _ (List.mem_of_getElem? (i := 32) rfl))) (hw _ (List.mem_of_getElem? (i := 2) rfl)) (ty := .long) (by decide) rfl rfl (g := (mkF m 108 #[.val (.ref a1), .val (.long q2), .second] [(.long v_min), (.ref a1)])) rfl rfl (hb hby d4_108)
        have Fw74 : Fld Z h74 a1 "com/example/placecard/placecard/TableValues" "aboveMin" "J" (.long v_min) := fa72.same W74
        have zs75 : n0 ≤ h74.size := Nat.le_trans zs65 (Keep.of_wr W74).1
        have kp76 : Keep h0 h74 [a1] := kp66.wr W74 (Or.inl (List.mem_of_getElem? (i := 0) rfl))
        have N74 := Fr.snoc X74 N64 g_a1
        have fa77 : Fld Z h74 a1 "com/example/placecard/placecard/TableValues" "min" "J" (.long v_min) := (fa67.other W74 (Or.inr (slot_ne (Or.inl (hw _ (List.mem_of_getElem? (i := 27) rfl))) (Or.inl (hw _ (List.mem_of_getElem? (i := 32) rfl))) (by decide) (t := .long) (t' := .long) (by decide) (by decide))))
        have fa78 : Exa Z h74 a1 "com/example/placecard/placecard/TableValues" := (fa73.wr W74)
        obtain ⟨T79, h79, X79, e79, W79, st79⟩ := putF X74 hx hZ hown (host := "") (Or.inl (hw _ (List.mem_of_getElem? (i := 26) rfl))) Via.refl e74 fa77 fa78 (Or.inl (hw _ (List.mem_of_getElem? (i := 27) rfl))) (hw _ (List.mem_of_getElem? (i := 2) rfl)) (ty := .long) (by decide) rfl rfl (g := (mkF m 113 #[.val (.ref a1), .val (.long q2), .second] [(.long q2), (.ref a1)])) rfl rfl (hb hby d4_113)
        have Fw79 : Fld Z h79 a1 "com/example/placecard/placecard/TableValues" "min" "J" (.long q2) := fa77.same W79
        have zs80 : n0 ≤ h79.size := Nat.le_trans zs75 (Keep.of_wr W79).1
        have kp81 : Keep h0 h79 [a1] := kp76.wr W79 (Or.inl (List.mem_of_getElem? (i := 0) rfl))
        have N79 := Fr.snoc X79 N74 g_a1
        have fa82 : Fld Z h79 a1 "com/example/placecard/placecard/TableValues" "minCount" "I" (.int v_minc) := (((((F_a1_minCount.other W54 (Or.inr (slot_ne (Or.inl (hw _ (List.mem_of_getElem? (i := 29) rfl))) (Or.inl (hw _ (List.mem_of_getElem? (i := 25) rfl))) (by decide) (t := .int) (t' := .long) (by decide) (by decide)))).other W59 (Or.inr (slot_ne (Or.inl (hw _ (List.mem_of_getElem? (i := 29) rfl))) (Or.inl (hw _ (List.mem_of_getElem? (i := 20) rfl))) (by decide) (t := .int) (t' := .long) (by decide) (by decide)))).other W64 (Or.inr (slot_ne (Or.inl (hw _ (List.mem_of_getElem? (i := 29) rfl))) (Or.inl (hw _ (List.mem_of_getElem? (i := 22) rfl))) (by decide) (t := .int) (t' := .int) (by decide) (by decide)))).other W74 (Or.inr (slot_ne (Or.inl (hw _ (List.mem_of_getElem? (i := 29) rfl))) (Or.inl (hw _ (List.mem_of_getElem? (i := 32) rfl))) (by decide) (t := .int) (t' := .long) (by decide) (by decide)))).other W79 (Or.inr (slot_ne (Or.inl (hw _ (List.mem_of_getElem? (i := 29) rfl))) (Or.inl (hw _ (List.mem_of_getElem? (i := 27) rfl))) (by decide) (t := .int) (t' := .long) (by decide) (by decide))))
        have fa83 : Exa Z h79 a1 "com/example/placecard/placecard/TableValues" := (fa78.wr W79)
        obtain ⟨T84, h84, X84, e84, W84, st84⟩ := putF X79 hx hZ hown (host := "") (Or.inl (hw _ (List.mem_of_getElem? (i := 28) rfl))) Via.refl e79 fa82 fa83 (Or.inl (hw _ (List.mem_of_getElem? (i := 29) rfl))) (hw _ (List.mem_of_getElem? (i := 2) rfl)) (ty := .int) (by decide) rfl rfl (g := (mkF m 118 #[.val (.ref a1), .val (.long q2), .second] [(.int (1 : Int32)), (.ref a1)])) rfl rfl (hb hby d4_118)
        have Fw84 : Fld Z h84 a1 "com/example/placecard/placecard/TableValues" "minCount" "I" (.int (1 : Int32)) := fa82.same W84
        have zs85 : n0 ≤ h84.size := Nat.le_trans zs80 (Keep.of_wr W84).1
        have kp86 : Keep h0 h84 [a1] := kp81.wr W84 (Or.inl (List.mem_of_getElem? (i := 0) rfl))
        have N84 := Fr.snoc X84 N79 g_a1
        have fa87 : Fld Z h84 a1 "com/example/placecard/placecard/TableValues" "count" "I" (.int v_count) := ((((((F_a1_count.other W54 (Or.inr (slot_ne (Or.inl (hw _ (List.mem_of_getElem? (i := 16) rfl))) (Or.inl (hw _ (List.mem_of_getElem? (i := 25) rfl))) (by decide) (t := .int) (t' := .long) (by decide) (by decide)))).other W59 (Or.inr (slot_ne (Or.inl (hw _ (List.mem_of_getElem? (i := 16) rfl))) (Or.inl (hw _ (List.mem_of_getElem? (i := 20) rfl))) (by decide) (t := .int) (t' := .long) (by decide) (by decide)))).other W64 (Or.inr (slot_ne (Or.inl (hw _ (List.mem_of_getElem? (i := 16) rfl))) (Or.inl (hw _ (List.mem_of_getElem? (i := 22) rfl))) (by decide) (t := .int) (t' := .int) (by decide) (by decide)))).other W74 (Or.inr (slot_ne (Or.inl (hw _ (List.mem_of_getElem? (i := 16) rfl))) (Or.inl (hw _ (List.mem_of_getElem? (i := 32) rfl))) (by decide) (t := .int) (t' := .long) (by decide) (by decide)))).other W79 (Or.inr (slot_ne (Or.inl (hw _ (List.mem_of_getElem? (i := 16) rfl))) (Or.inl (hw _ (List.mem_of_getElem? (i := 27) rfl))) (by decide) (t := .int) (t' := .long) (by decide) (by decide)))).other W84 (Or.inr (slot_ne (Or.inl (hw _ (List.mem_of_getElem? (i := 16) rfl))) (Or.inl (hw _ (List.mem_of_getElem? (i := 29) rfl))) (by decide) (t := .int) (t' := .int) (by decide) (by decide))))
        obtain ⟨T88, X88, e88, st88⟩ := getF X84 hx hZ hown (host := "") (Or.inl (hw _ (List.mem_of_getElem? (i := 15) rfl))) Via.refl e84 fa87 (g := (mkF m 160 #[.val (.ref a1), .val (.long q2), .second] [(.ref a1), (.ref a1)])) rfl rfl (hb hby d4_160)
        have fa89 : Exa Z h84 a1 "com/example/placecard/placecard/TableValues" := (fa83.wr W84)
        obtain ⟨T90, h90, X90, e90, W90, st90⟩ := putF X88 hx hZ hown (host := "") (Or.inl (hw _ (List.mem_of_getElem? (i := 15) rfl))) Via.refl e88 fa87 fa89 (Or.inl (hw _ (List.mem_of_getElem? (i := 16) rfl))) (hw _ (List.mem_of_getElem? (i := 2) rfl)) (ty := .int) (by decide) rfl rfl (g := (mkF m 165 #[.val (.ref a1), .val (.long q2), .second] [(.int (v_count + (1 : Int32))), (.ref a1)])) rfl rfl (hb hby d4_165)
        have Fw90 : Fld Z h90 a1 "com/example/placecard/placecard/TableValues" "count" "I" (.int (v_count + (1 : Int32))) := fa87.same W90
        have zs91 : n0 ≤ h90.size := Nat.le_trans zs85 (Keep.of_wr W90).1
        have kp92 : Keep h0 h90 [a1] := kp86.wr W90 (Or.inl (List.mem_of_getElem? (i := 0) rfl))
        have N90 := Fr.snoc X90 N84 g_a1
        have fa93 : Fld Z h90 a1 "com/example/placecard/placecard/TableValues" "sum" "J" (.long v_sum) := (((((((F_a1_sum.other W54 (Or.inr (slot_ne (Or.inl (hw _ (List.mem_of_getElem? (i := 18) rfl))) (Or.inl (hw _ (List.mem_of_getElem? (i := 25) rfl))) (by decide) (t := .long) (t' := .long) (by decide) (by decide)))).other W59 (Or.inr (slot_ne (Or.inl (hw _ (List.mem_of_getElem? (i := 18) rfl))) (Or.inl (hw _ (List.mem_of_getElem? (i := 20) rfl))) (by decide) (t := .long) (t' := .long) (by decide) (by decide)))).other W64 (Or.inr (slot_ne (Or.inl (hw _ (List.mem_of_getElem? (i := 18) rfl))) (Or.inl (hw _ (List.mem_of_getElem? (i := 22) rfl))) (by decide) (t := .long) (t' := .int) (by decide) (by decide)))).other W74 (Or.inr (slot_ne (Or.inl (hw _ (List.mem_of_getElem? (i := 18) rfl))) (Or.inl (hw _ (List.mem_of_getElem? (i := 32) rfl))) (by decide) (t := .long) (t' := .long) (by decide) (by decide)))).other W79 (Or.inr (slot_ne (Or.inl (hw _ (List.mem_of_getElem? (i := 18) rfl))) (Or.inl (hw _ (List.mem_of_getElem? (i := 27) rfl))) (by decide) (t := .long) (t' := .long) (by decide) (by decide)))).other W84 (Or.inr (slot_ne (Or.inl (hw _ (List.mem_of_getElem? (i := 18) rfl))) (Or.inl (hw _ (List.mem_of_getElem? (i := 29) rfl))) (by decide) (t := .long) (t' := .int) (by decide) (by decide)))).other W90 (Or.inr (slot_ne (Or.inl (hw _ (List.mem_of_getElem? (i := 18) rfl))) (Or.inl (hw _ (List.mem_of_getElem? (i := 16) rfl))) (by decide) (t := .long) (t' := .int) (by decide) (by decide))))
        obtain ⟨T94, X94, e94, st94⟩ := getF X90 hx hZ hown (host := "") (Or.inl (hw _ (List.mem_of_getElem? (i := 17) rfl))) Via.refl e90 fa93 (g := (mkF m 170 #[.val (.ref a1), .val (.long q2), .second] [(.ref a1), (.ref a1)])) rfl rfl (hb hby d4_170)
        have fa95 : Exa Z h90 a1 "com/example/placecard/placecard/TableValues" := (fa89.wr W90)
        obtain ⟨T96, h96, X96, e96, W96, st96⟩ := putF X94 hx hZ hown (host := "") (Or.inl (hw _ (List.mem_of_getElem? (i := 17) rfl))) Via.refl e94 fa93 fa95 (Or.inl (hw _ (List.mem_of_getElem? (i := 18) rfl))) (hw _ (List.mem_of_getElem? (i := 2) rfl)) (ty := .long) (by decide) rfl rfl (g := (mkF m 175 #[.val (.ref a1), .val (.long q2), .second] [(.long (v_sum + q2)), (.ref a1)])) rfl rfl (hb hby d4_175)
        have Fw96 : Fld Z h96 a1 "com/example/placecard/placecard/TableValues" "sum" "J" (.long (v_sum + q2)) := fa93.same W96
        have zs97 : n0 ≤ h96.size := Nat.le_trans zs91 (Keep.of_wr W96).1
        have kp98 : Keep h0 h96 [a1] := kp92.wr W96 (Or.inl (List.mem_of_getElem? (i := 0) rfl))
        have N96 := Fr.snoc X96 N90 g_a1
        obtain ⟨fs, hr, hrun, hended, hW, hsame⟩ := X96.leave (v := none) (fun _ => rfl)
        refine ⟨_, _, pre69 _ ?_, hrun, hended, _, _, rfl, ?_, ⟨_, rfl⟩, hW, hsame.mono (by decide) (by decide)⟩
        · show Steps p.tables e below (T68.setTop (mkF m 100 #[.val (.ref a1), .val (.long q2), .second] [(.int (lcmpW q2 v_min))])) _
          refine XS.ifNo X68.here hx rfl (hb hby d4_100) rfl ((if0 _ _).trans (tlt ((lw_lt q2 v_min).mpr hc70)).2.1) ?_
          show Steps p.tables e below (T68.setTop (mkF m 103 #[.val (.ref a1), .val (.long q2), .second] [])) _
          refine XS.aloadN X68.here hx rfl (hb hby d4_103) rfl rfl ?_
          show Steps p.tables e below (T68.setTop (mkF m 104 #[.val (.ref a1), .val (.long q2), .second] [(.ref a1)])) _
          refine XS.aloadN X68.here hx rfl (hb hby d4_104) rfl rfl ?_
          show Steps p.tables e below (T68.setTop (mkF m 105 #[.val (.ref a1), .val (.long q2), .second] [(.ref a1), (.ref a1)])) _
          refine st71 _ ?_
          show Steps p.tables e below (T71.setTop (mkF m 108 #[.val (.ref a1), .val (.long q2), .second] [(.long v_min), (.ref a1)])) _
          refine st74 _ ?_
          show Steps p.tables e below (T74.setTop (mkF m 111 #[.val (.ref a1), .val (.long q2), .second] [])) _
          refine XS.aloadN X74.here hx rfl (hb hby d4_111) rfl rfl ?_
          show Steps p.tables e below (T74.setTop (mkF m 112 #[.val (.ref a1), .val (.long q2), .second] [(.ref a1)])) _
          refine XS.lloadN X74.here hx rfl (hb hby d4_112) rfl ?_
          show Steps p.tables e below (T74.setTop (mkF m 113 #[.val (.ref a1), .val (.long q2), .second] [(.long q2), (.ref a1)])) _
          refine st79 _ ?_
          show Steps p.tables e below (T79.setTop (mkF m 116 #[.val (.ref a1), .val (.long q2), .second] [])) _
          refine XS.aloadN X79.here hx rfl (hb hby d4_116) rfl rfl ?_
          show Steps p.tables e below (T79.setTop (mkF m 117 #[.val (.ref a1), .val (.long q2), .second] [(.ref a1)])) _
          refine XS.iconst X79.here hx rfl (hb hby d4_117) ?_
          show Steps p.tables e below (T79.setTop (mkF m 118 #[.val (.ref a1), .val (.long q2), .second] [(.int (1 : Int32)), (.ref a1)])) _
          refine st84 _ ?_
          show Steps p.tables e below (T84.setTop (mkF m 121 #[.val (.ref a1), .val (.long q2), .second] [])) _
          refine XS.goto X84.here hx rfl (pc0 := 121) (pc' := 158) rfl (hb hby d4_121) (by decide) (by decide) ?_
          show Steps p.tables e below (T84.setTop (mkF m 158 #[.val (.ref a1), .val (.long q2), .second] [])) _
          refine XS.aloadN X84.here hx rfl (hb hby d4_158) rfl rfl ?_
          show Steps p.tables e below (T84.setTop (mkF m 159 #[.val (.ref a1), .val (.long q2), .second] [(.ref a1)])) _
          refine XS.dup X84.here hx rfl (hb hby d4_159) rfl rfl ?_
          show Steps p.tables e below (T84.setTop (mkF m 160 #[.val (.ref a1), .val (.long q2), .second] [(.ref a1), (.ref a1)])) _
          refine st88 _ ?_
          show Steps p.tables e below (T88.setTop (mkF m 163 #[.val (.ref a1), .val (.long q2), .second] [(.int v_count), (.ref a1)])) _
          refine XS.iconst X88.here hx rfl (hb hby d4_163) ?_
          show Steps p.tables e below (T88.setTop (mkF m 164 #[.val (.ref a1), .val (.long q2), .second] [(.int (1 : Int32)), (.int v_count), (.ref a1)])) _
          refine XS.iadd X88.here hx rfl (hb hby d4_164) rfl ?_
          show Steps p.tables e below (T88.setTop (mkF m 165 #[.val (.ref a1), .val (.long q2), .second] [(.int (v_count + (1 : Int32))), (.ref a1)])) _
          refine st90 _ ?_
          show Steps p.tables e below (T90.setTop (mkF m 168 #[.val (.ref a1), .val (.long q2), .second] [])) _
          refine XS.aloadN X90.here hx rfl (hb hby d4_168) rfl rfl ?_
          show Steps p.tables e below (T90.setTop (mkF m 169 #[.val (.ref a1), .val (.long q2), .second] [(.ref a1)])) _
          refine XS.dup X90.here hx rfl (hb hby d4_169) rfl rfl ?_
          show Steps p.tables e below (T90.setTop (mkF m 170 #[.val (.ref a1), .val (.long q2), .second] [(.ref a1), (.ref a1)])) _
          refine st94 _ ?_
          show Steps p.tables e below (T94.setTop (mkF m 173 #[.val (.ref a1), .val (.long q2), .second] [(.long v_sum), (.ref a1)])) _
          refine XS.lloadN X94.here hx rfl (hb hby d4_173) rfl ?_
          show Steps p.tables e below (T94.setTop (mkF m 174 #[.val (.ref a1), .val (.long q2), .second] [(.long q2), (.long v_sum), (.ref a1)])) _
          refine XS.ladd X94.here hx rfl (hb hby d4_174) rfl ?_
          show Steps p.tables e below (T94.setTop (mkF m 175 #[.val (.ref a1), .val (.long q2), .second] [(.long (v_sum + q2)), (.ref a1)])) _
          refine st96 _ ?_
          show Steps p.tables e below (T96.setTop (mkF m 178 #[.val (.ref a1), .val (.long q2), .second] [])) _
          exact X96.returnOut hx Bd.returns (hb hby d4_178) hr
        · show Q4 Z a1 q2 v_count v_sum v_max v_maxc v_below v_min v_minc v_above h0 n0 _ T96.heap _
          rw [e96]
          have fa99 : Exa Z h96 a1 "com/example/placecard/placecard/TableValues" := (fa95.wr W96)
          have fa100 : Fld Z h96 a1 "com/example/placecard/placecard/TableValues" "count" "I" (.int (v_count + (1 : Int32))) := (Fw90.other W96 (Or.inr (slot_ne (Or.inl (hw _ (List.mem_of_getElem? (i := 16) rfl))) (Or.inl (hw _ (List.mem_of_getElem? (i := 18) rfl))) (by decide) (t := .int) (t' := .long) (by decide) (by decide))))
          have lf101 : Fld Z h96 a1 "com/example/placecard/placecard/TableValues" "count" "I" (.int (f4_a1_count q2 v_count v_sum v_max v_maxc v_below v_min v_minc v_above)) := by rw [f4_a1_count, if_neg hc3, if_pos hc52, if_pos hc70]; exact fa100
          have lf102 : Fld Z h96 a1 "com/example/placecard/placecard/TableValues" "sum" "J" (.long (f4_a1_sum q2 v_count v_sum v_max v_maxc v_below v_min v_minc v_above)) := by rw [f4_a1_sum, if_neg hc3, if_pos hc52, if_pos hc70]; exact Fw96
          have fa103 : Fld Z h96 a1 "com/example/placecard/placecard/TableValues" "max" "J" (.long q2) := ((((((Fw59.other W64 (Or.inr (slot_ne (Or.inl (hw _ (List.mem_of_getElem? (i := 20) rfl))) (Or.inl (hw _ (List.mem_of_getElem? (i := 22) rfl))) (by decide) (t := .long) (t' := .int) (by decide) (by decide)))).other W74 (Or.inr (slot_ne (Or.inl (hw _ (List.mem_of_getElem? (i := 20) rfl))) (Or.inl (hw _ (List.mem_of_getElem? (i := 32) rfl))) (by decide) (t := .long) (t' := .long) (by decide) (by decide)))).other W79 (Or.inr (slot_ne (Or.inl (hw _ (List.mem_of_getElem? (i := 20) rfl))) (Or.inl (hw _ (List.mem_of_getElem? (i := 27) rfl))) (by decide) (t := .long) (t' := .long) (by decide) (by decide)))).other W84 (Or.inr (slot_ne (Or.inl (hw _ (List.mem_of_getElem? (i := 20) rfl))) (Or.inl (hw _ (List.mem_of_getElem? (i := 29) rfl))) (by decide) (t := .long) (t' := .int) (by decide) (by decide)))).other W90 (Or.inr (slot_ne (Or.inl (hw _ (List.mem_of_getElem? (i := 20) rfl))) (Or.inl (hw _ (List.mem_of_getElem? (i := 16) rfl))) (by decide) (t := .long) (t' := .int) (by decide) (by decide)))).other W96 (Or.inr (slot_ne (Or.inl (hw _ (List.mem_of_getElem? (i := 20) rfl))) (Or.inl (hw _ (List.mem_of_getElem? (i := 18) rfl))) (by decide) (t := .long) (t' := .long) (by decide) (by decide))))
          have lf104 : Fld Z h96 a1 "com/example/placecard/placecard/TableValues" "max" "J" (.long (f4_a1_max q2 v_count v_sum v_max v_maxc v_below v_min v_minc v_above)) := by rw [f4_a1_max, if_neg hc3, if_pos hc52, if_pos hc70]; exact fa103
          have fa105 : Fld Z h96 a1 "com/example/placecard/placecard/TableValues" "maxCount" "I" (.int (1 : Int32)) := (((((Fw64.other W74 (Or.inr (slot_ne (Or.inl (hw _ (List.mem_of_getElem? (i := 22) rfl))) (Or.inl (hw _ (List.mem_of_getElem? (i := 32) rfl))) (by decide) (t := .int) (t' := .long) (by decide) (by decide)))).other W79 (Or.inr (slot_ne (Or.inl (hw _ (List.mem_of_getElem? (i := 22) rfl))) (Or.inl (hw _ (List.mem_of_getElem? (i := 27) rfl))) (by decide) (t := .int) (t' := .long) (by decide) (by decide)))).other W84 (Or.inr (slot_ne (Or.inl (hw _ (List.mem_of_getElem? (i := 22) rfl))) (Or.inl (hw _ (List.mem_of_getElem? (i := 29) rfl))) (by decide) (t := .int) (t' := .int) (by decide) (by decide)))).other W90 (Or.inr (slot_ne (Or.inl (hw _ (List.mem_of_getElem? (i := 22) rfl))) (Or.inl (hw _ (List.mem_of_getElem? (i := 16) rfl))) (by decide) (t := .int) (t' := .int) (by decide) (by decide)))).other W96 (Or.inr (slot_ne (Or.inl (hw _ (List.mem_of_getElem? (i := 22) rfl))) (Or.inl (hw _ (List.mem_of_getElem? (i := 18) rfl))) (by decide) (t := .int) (t' := .long) (by decide) (by decide))))
          have lf106 : Fld Z h96 a1 "com/example/placecard/placecard/TableValues" "maxCount" "I" (.int (f4_a1_maxCount q2 v_count v_sum v_max v_maxc v_below v_min v_minc v_above)) := by rw [f4_a1_maxCount, if_neg hc3, if_pos hc52, if_pos hc70]; exact fa105
          have fa107 : Fld Z h96 a1 "com/example/placecard/placecard/TableValues" "belowMax" "J" (.long v_max) := (((((((Fw54.other W59 (Or.inr (slot_ne (Or.inl (hw _ (List.mem_of_getElem? (i := 25) rfl))) (Or.inl (hw _ (List.mem_of_getElem? (i := 20) rfl))) (by decide) (t := .long) (t' := .long) (by decide) (by decide)))).other W64 (Or.inr (slot_ne (Or.inl (hw _ (List.mem_of_getElem? (i := 25) rfl))) (Or.inl (hw _ (List.mem_of_getElem? (i := 22) rfl))) (by decide) (t := .long) (t' := .int) (by decide) (by decide)))).other W74 (Or.inr (slot_ne (Or.inl (hw _ (List.mem_of_getElem? (i := 25) rfl))) (Or.inl (hw _ (List.mem_of_getElem? (i := 32) rfl))) (by decide) (t := .long) (t' := .long) (by decide) (by decide)))).other W79 (Or.inr (slot_ne (Or.inl (hw _ (List.mem_of_getElem? (i := 25) rfl))) (Or.inl (hw _ (List.mem_of_getElem? (i := 27) rfl))) (by decide) (t := .long) (t' := .long) (by decide) (by decide)))).other W84 (Or.inr (slot_ne (Or.inl (hw _ (List.mem_of_getElem? (i := 25) rfl))) (Or.inl (hw _ (List.mem_of_getElem? (i := 29) rfl))) (by decide) (t := .long) (t' := .int) (by decide) (by decide)))).other W90 (Or.inr (slot_ne (Or.inl (hw _ (List.mem_of_getElem? (i := 25) rfl))) (Or.inl (hw _ (List.mem_of_getElem? (i := 16) rfl))) (by decide) (t := .long) (t' := .int) (by decide) (by decide)))).other W96 (Or.inr (slot_ne (Or.inl (hw _ (List.mem_of_getElem? (i := 25) rfl))) (Or.inl (hw _ (List.mem_of_getElem? (i := 18) rfl))) (by decide) (t := .long) (t' := .long) (by decide) (by decide))))
          have lf108 : Fld Z h96 a1 "com/example/placecard/placecard/TableValues" "belowMax" "J" (.long (f4_a1_belowMax q2 v_count v_sum v_max v_maxc v_below v_min v_minc v_above)) := by rw [f4_a1_belowMax, if_neg hc3, if_pos hc52, if_pos hc70]; exact fa107
          have fa109 : Fld Z h96 a1 "com/example/placecard/placecard/TableValues" "min" "J" (.long q2) := (((Fw79.other W84 (Or.inr (slot_ne (Or.inl (hw _ (List.mem_of_getElem? (i := 27) rfl))) (Or.inl (hw _ (List.mem_of_getElem? (i := 29) rfl))) (by decide) (t := .long) (t' := .int) (by decide) (by decide)))).other W90 (Or.inr (slot_ne (Or.inl (hw _ (List.mem_of_getElem? (i := 27) rfl))) (Or.inl (hw _ (List.mem_of_getElem? (i := 16) rfl))) (by decide) (t := .long) (t' := .int) (by decide) (by decide)))).other W96 (Or.inr (slot_ne (Or.inl (hw _ (List.mem_of_getElem? (i := 27) rfl))) (Or.inl (hw _ (List.mem_of_getElem? (i := 18) rfl))) (by decide) (t := .long) (t' := .long) (by decide) (by decide))))
          have lf110 : Fld Z h96 a1 "com/example/placecard/placecard/TableValues" "min" "J" (.long (f4_a1_min q2 v_count v_sum v_max v_maxc v_below v_min v_minc v_above)) := by rw [f4_a1_min, if_neg hc3, if_pos hc52, if_pos hc70]; exact fa109
          have fa111 : Fld Z h96 a1 "com/example/placecard/placecard/TableValues" "minCount" "I" (.int (1 : Int32)) := ((Fw84.other W90 (Or.inr (slot_ne (Or.inl (hw _ (List.mem_of_getElem? (i := 29) rfl))) (Or.inl (hw _ (List.mem_of_getElem? (i := 16) rfl))) (by decide) (t := .int) (t' := .int) (by decide) (by decide)))).other W96 (Or.inr (slot_ne (Or.inl (hw _ (List.mem_of_getElem? (i := 29) rfl))) (Or.inl (hw _ (List.mem_of_getElem? (i := 18) rfl))) (by decide) (t := .int) (t' := .long) (by decide) (by decide))))
          have lf112 : Fld Z h96 a1 "com/example/placecard/placecard/TableValues" "minCount" "I" (.int (f4_a1_minCount q2 v_count v_sum v_max v_maxc v_below v_min v_minc v_above)) := by rw [f4_a1_minCount, if_neg hc3, if_pos hc52, if_pos hc70]; exact fa111
          have fa113 : Fld Z h96 a1 "com/example/placecard/placecard/TableValues" "aboveMin" "J" (.long v_min) := ((((Fw74.other W79 (Or.inr (slot_ne (Or.inl (hw _ (List.mem_of_getElem? (i := 32) rfl))) (Or.inl (hw _ (List.mem_of_getElem? (i := 27) rfl))) (by decide) (t := .long) (t' := .long) (by decide) (by decide)))).other W84 (Or.inr (slot_ne (Or.inl (hw _ (List.mem_of_getElem? (i := 32) rfl))) (Or.inl (hw _ (List.mem_of_getElem? (i := 29) rfl))) (by decide) (t := .long) (t' := .int) (by decide) (by decide)))).other W90 (Or.inr (slot_ne (Or.inl (hw _ (List.mem_of_getElem? (i := 32) rfl))) (Or.inl (hw _ (List.mem_of_getElem? (i := 16) rfl))) (by decide) (t := .long) (t' := .int) (by decide) (by decide)))).other W96 (Or.inr (slot_ne (Or.inl (hw _ (List.mem_of_getElem? (i := 32) rfl))) (Or.inl (hw _ (List.mem_of_getElem? (i := 18) rfl))) (by decide) (t := .long) (t' := .long) (by decide) (by decide))))
          have lf114 : Fld Z h96 a1 "com/example/placecard/placecard/TableValues" "aboveMin" "J" (.long (f4_a1_aboveMin q2 v_count v_sum v_max v_maxc v_below v_min v_minc v_above)) := by rw [f4_a1_aboveMin, if_neg hc3, if_pos hc52, if_pos hc70]; exact fa113
          exact ⟨rfl, N96, kp98, fa99, lf101, lf102, lf104, lf106, lf108, lf110, lf112, lf114⟩
      · obtain ⟨T115, X115, e115, st115⟩ := getF X68 hx hZ hown (host := "") (Or.inl (hw _ (List.mem_of_getElem? (i := 26) rfl))) Via.refl e68 fa67 (g := (mkF m 126 #[.val (.ref a1), .val (.long q2), .second] [(.ref a1), (.long q2)])) rfl rfl (hb hby d4_126)
        have pre116 : ∀ t, Steps p.tables e below (T115.setTop (mkF m 130 #[.val (.ref a1), .val (.long q2), .second] [(.int (lcmpW q2 v_min))])) t → Steps p.tables e below (s₁.setTop (entryFrame m #[(.ref a1), (.long q2)] 3)) t := fun t kt => by
          refine pre69 _ ?_
          show Steps p.tables e below (T68.setTop (mkF m 100 #[.val (.ref a1), .val (.long q2), .second] [(.int (lcmpW q2 v_min))])) _
          refine XS.ifYes X68.here hx rfl (pc0 := 100) (pc' := 124) rfl (hb hby d4_100) rfl ((if0 _ _).trans (flt (mt (lw_lt q2 v_min).mp hc70)).2.1) (by decide) (by decide) ?_
          show Steps p.tables e below (T68.setTop (mkF m 124 #[.val (.ref a1), .val (.long q2), .second] [])) _
          refine XS.lloadN X68.here hx rfl (hb hby d4_124) rfl ?_
          show Steps p.tables e below (T68.setTop (mkF m 125 #[.val (.ref a1), .val (.long q2), .second] [(.long q2)])) _
          refine XS.aloadN X68.here hx rfl (hb hby d4_125) rfl rfl ?_
          show Steps p.tables e below (T68.setTop (mkF m 126 #[.val (.ref a1), .val (.long q2), .second] [(.ref a1), (.long q2)])) _
          refine st115 _ ?_
          show Steps p.tables e below (T115.setTop (mkF m 129 #[.val (.ref a1), .val (.long q2), .second] [(.long v_min), (.long q2)])) _
          refine XS.lcmp X115.here hx rfl (hb hby d4_129) rfl ?_
          exact kt
        by_cases hc117 : q2 = v_min
        · have fa118 : Fld Z h64 a1 "com/example/placecard/placecard/TableValues" "minCount" "I" (.int v_minc) := (((F_a1_minCount.other W54 (Or.inr (slot_ne (Or.inl (hw _ (List.mem_of_getElem? (i := 29) rfl))) (Or.inl (hw _ (List.mem_of_getElem? (i := 25) rfl))) (by decide) (t := .int) (t' := .long) (by decide) (by decide)))).other W59 (Or.inr (slot_ne (Or.inl (hw _ (List.mem_of_getElem? (i := 29) rfl))) (Or.inl (hw _ (List.mem_of_getElem? (i := 20) rfl))) (by decide) (t := .int) (t' := .long) (by decide) (by decide)))).other W64 (Or.inr (slot_ne (Or.inl (hw _ (List.mem_of_getElem? (i := 29) rfl))) (Or.inl (hw _ (List.mem_of_getElem? (i := 22) rfl))) (by decide) (t := .int) (t' := .int) (by decide) (by decide))))
          obtain ⟨T119, X119, e119, st119⟩ := getF X115 hx hZ hown (host := "") (Or.inl (hw _ (List.mem_of_getElem? (i := 28) rfl))) Via.refl e115 fa118 (g := (mkF m 135 #[.val (.ref a1), .val (.long q2), .second] [(.ref a1), (.ref a1)])) rfl rfl (hb hby d4_135)
          have fa120 : Exa Z h64 a1 "com/example/placecard/placecard/TableValues" := (fa63.wr W64)
          obtain ⟨T121, h121, X121, e121, W121, st121⟩ := putF X119 hx hZ hown (host := "") (Or.inl (hw _ (List.mem_of_getElem? (i := 28) rfl))) Via.refl e119 fa118 fa120 (Or.inl (hw _ (List.mem_of_getElem? (i := 29) rfl))) (hw _ (List.mem_of_getElem? (i := 2) rfl)) (ty := .int) (by decide) rfl rfl (g := (mkF m 140 #[.val (.ref a1), .val (.long q2), .second] [(.int (v_minc + (1 : Int32))), (.ref a1)])) rfl rfl (hb hby d4_140)
          have Fw121 : Fld Z h121 a1 "com/example/placecard/placecard/TableValues" "minCount" "I" (.int (v_minc + (1 : Int32))) := fa118.same W121
          have zs122 : n0 ≤ h121.size := Nat.le_trans zs65 (Keep.of_wr W121).1
          have kp123 : Keep h0 h121 [a1] := kp66.wr W121 (Or.inl (List.mem_of_getElem? (i := 0) rfl))
          have N121 := Fr.snoc X121 N64 g_a1
          have fa124 : Fld Z h121 a1 "com/example/placecard/placecard/TableValues" "count" "I" (.int v_count) := ((((F_a1_count.other W54 (Or.inr (slot_ne (Or.inl (hw _ (List.mem_of_getElem? (i := 16) rfl))) (Or.inl (hw _ (List.mem_of_getElem? (i := 25) rfl))) (by decide) (t := .int) (t' := .long) (by decide) (by decide)))).other W59 (Or.inr (slot_ne (Or.inl (hw _ (List.mem_of_getElem? (i := 16) rfl))) (Or.inl (hw _ (List.mem_of_getElem? (i := 20) rfl))) (by decide) (t := .int) (t' := .long) (by decide) (by decide)))).other W64 (Or.inr (slot_ne (Or.inl (hw _ (List.mem_of_getElem? (i := 16) rfl))) (Or.inl (hw _ (List.mem_of_getElem? (i := 22) rfl))) (by decide) (t := .int) (t' := .int) (by decide) (by decide)))).other W121 (Or.inr (slot_ne (Or.inl (hw _ (List.mem_of_getElem? (i := 16) rfl))) (Or.inl (hw _ (List.mem_of_getElem? (i := 29) rfl))) (by decide) (t := .int) (t' := .int) (by decide) (by decide))))
          obtain ⟨T125, X125, e125, st125⟩ := getF X121 hx hZ hown (host := "") (Or.inl (hw _ (List.mem_of_getElem? (i := 15) rfl))) Via.refl e121 fa124 (g := (mkF m 160 #[.val (.ref a1), .val (.long q2), .second] [(.ref a1), (.ref a1)])) rfl rfl (hb hby d4_160)
          have fa126 : Exa Z h121 a1 "com/example/placecard/placecard/TableValues" := (fa120.wr W121)
          obtain ⟨T127, h127, X127, e127, W127, st127⟩ := putF X125 hx hZ hown (host := "") (Or.inl (hw _ (List.mem_of_getElem? (i := 15) rfl))) Via.refl e125 fa124 fa126 (Or.inl (hw _ (List.mem_of_getElem? (i := 16) rfl))) (hw _ (List.mem_of_getElem? (i := 2) rfl)) (ty := .int) (by decide) rfl rfl (g := (mkF m 165 #[.val (.ref a1), .val (.long q2), .second] [(.int (v_count + (1 : Int32))), (.ref a1)])) rfl rfl (hb hby d4_165)
          have Fw127 : Fld Z h127 a1 "com/example/placecard/placecard/TableValues" "count" "I" (.int (v_count + (1 : Int32))) := fa124.same W127
          have zs128 : n0 ≤ h127.size := Nat.le_trans zs122 (Keep.of_wr W127).1
          have kp129 : Keep h0 h127 [a1] := kp123.wr W127 (Or.inl (List.mem_of_getElem? (i := 0) rfl))
          have N127 := Fr.snoc X127 N121 g_a1
          have fa130 : Fld Z h127 a1 "com/example/placecard/placecard/TableValues" "sum" "J" (.long v_sum) := (((((F_a1_sum.other W54 (Or.inr (slot_ne (Or.inl (hw _ (List.mem_of_getElem? (i := 18) rfl))) (Or.inl (hw _ (List.mem_of_getElem? (i := 25) rfl))) (by decide) (t := .long) (t' := .long) (by decide) (by decide)))).other W59 (Or.inr (slot_ne (Or.inl (hw _ (List.mem_of_getElem? (i := 18) rfl))) (Or.inl (hw _ (List.mem_of_getElem? (i := 20) rfl))) (by decide) (t := .long) (t' := .long) (by decide) (by decide)))).other W64 (Or.inr (slot_ne (Or.inl (hw _ (List.mem_of_getElem? (i := 18) rfl))) (Or.inl (hw _ (List.mem_of_getElem? (i := 22) rfl))) (by decide) (t := .long) (t' := .int) (by decide) (by decide)))).other W121 (Or.inr (slot_ne (Or.inl (hw _ (List.mem_of_getElem? (i := 18) rfl))) (Or.inl (hw _ (List.mem_of_getElem? (i := 29) rfl))) (by decide) (t := .long) (t' := .int) (by decide) (by decide)))).other W127 (Or.inr (slot_ne (Or.inl (hw _ (List.mem_of_getElem? (i := 18) rfl))) (Or.inl (hw _ (List.mem_of_getElem? (i := 16) rfl))) (by decide) (t := .long) (t' := .int) (by decide) (by decide))))
          obtain ⟨T131, X131, e131, st131⟩ := getF X127 hx hZ hown (host := "") (Or.inl (hw _ (List.mem_of_getElem? (i := 17) rfl))) Via.refl e127 fa130 (g := (mkF m 170 #[.val (.ref a1), .val (.long q2), .second] [(.ref a1), (.ref a1)])) rfl rfl (hb hby d4_170)
          have fa132 : Exa Z h127 a1 "com/example/placecard/placecard/TableValues" := (fa126.wr W127)
          obtain ⟨T133, h133, X133, e133, W133, st133⟩ := putF X131 hx hZ hown (host := "") (Or.inl (hw _ (List.mem_of_getElem? (i := 17) rfl))) Via.refl e131 fa130 fa132 (Or.inl (hw _ (List.mem_of_getElem? (i := 18) rfl))) (hw _ (List.mem_of_getElem? (i := 2) rfl)) (ty := .long) (by decide) rfl rfl (g := (mkF m 175 #[.val (.ref a1), .val (.long q2), .second] [(.long (v_sum + q2)), (.ref a1)])) rfl rfl (hb hby d4_175)
          have Fw133 : Fld Z h133 a1 "com/example/placecard/placecard/TableValues" "sum" "J" (.long (v_sum + q2)) := fa130.same W133
          have zs134 : n0 ≤ h133.size := Nat.le_trans zs128 (Keep.of_wr W133).1
          have kp135 : Keep h0 h133 [a1] := kp129.wr W133 (Or.inl (List.mem_of_getElem? (i := 0) rfl))
          have N133 := Fr.snoc X133 N127 g_a1
          obtain ⟨fs, hr, hrun, hended, hW, hsame⟩ := X133.leave (v := none) (fun _ => rfl)
          refine ⟨_, _, pre116 _ ?_, hrun, hended, _, _, rfl, ?_, ⟨_, rfl⟩, hW, hsame.mono (by decide) (by decide)⟩
          · show Steps p.tables e below (T115.setTop (mkF m 130 #[.val (.ref a1), .val (.long q2), .second] [(.int (lcmpW q2 v_min))])) _
            refine XS.ifNo X115.here hx rfl (hb hby d4_130) rfl ((if0 _ _).trans (teq ((lw_eq q2 v_min).mpr hc117)).2) ?_
            show Steps p.tables e below (T115.setTop (mkF m 133 #[.val (.ref a1), .val (.long q2), .second] [])) _
            refine XS.aloadN X115.here hx rfl (hb hby d4_133) rfl rfl ?_
            show Steps p.tables e below (T115.setTop (mkF m 134 #[.val (.ref a1), .val (.long q2), .second] [(.ref a1)])) _
            refine XS.dup X115.here hx rfl (hb hby d4_134) rfl rfl ?_
            show Steps p.tables e below (T115.setTop (mkF m 135 #[.val (.ref a1), .val (.long q2), .second] [(.ref a1), (.ref a1)])) _
            refine st119 _ ?_
            show Steps p.tables e below (T119.setTop (mkF m 138 #[.val (.ref a1), .val (.long q2), .second] [(.int v_minc), (.ref a1)])) _
            refine XS.iconst X119.here hx rfl (hb hby d4_138) ?_
            show Steps p.tables e below (T119.setTop (mkF m 139 #[.val (.ref a1), .val (.long q2), .second] [(.int (1 : Int32)), (.int v_minc), (.ref a1)])) _
            refine XS.iadd X119.here hx rfl (hb hby d4_139) rfl ?_
            show Steps p.tables e below (T119.setTop (mkF m 140 #[.val (.ref a1), .val (.long q2), .second] [(.int (v_minc + (1 : Int32))), (.ref a1)])) _
            refine st121 _ ?_
            show Steps p.tables e below (T121.setTop (mkF m 143 #[.val (.ref a1), .val (.long q2), .second] [])) _
            refine XS.goto X121.here hx rfl (pc0 := 143) (pc' := 158) rfl (hb hby d4_143) (by decide) (by decide) ?_
            show Steps p.tables e below (T121.setTop (mkF m 158 #[.val (.ref a1), .val (.long q2), .second] [])) _
            refine XS.aloadN X121.here hx rfl (hb hby d4_158) rfl rfl ?_
            show Steps p.tables e below (T121.setTop (mkF m 159 #[.val (.ref a1), .val (.long q2), .second] [(.ref a1)])) _
            refine XS.dup X121.here hx rfl (hb hby d4_159) rfl rfl ?_
            show Steps p.tables e below (T121.setTop (mkF m 160 #[.val (.ref a1), .val (.long q2), .second] [(.ref a1), (.ref a1)])) _
            refine st125 _ ?_
            show Steps p.tables e below (T125.setTop (mkF m 163 #[.val (.ref a1), .val (.long q2), .second] [(.int v_count), (.ref a1)])) _
            refine XS.iconst X125.here hx rfl (hb hby d4_163) ?_
            show Steps p.tables e below (T125.setTop (mkF m 164 #[.val (.ref a1), .val (.long q2), .second] [(.int (1 : Int32)), (.int v_count), (.ref a1)])) _
            refine XS.iadd X125.here hx rfl (hb hby d4_164) rfl ?_
            show Steps p.tables e below (T125.setTop (mkF m 165 #[.val (.ref a1), .val (.long q2), .second] [(.int (v_count + (1 : Int32))), (.ref a1)])) _
            refine st127 _ ?_
            show Steps p.tables e below (T127.setTop (mkF m 168 #[.val (.ref a1), .val (.long q2), .second] [])) _
            refine XS.aloadN X127.here hx rfl (hb hby d4_168) rfl rfl ?_
            show Steps p.tables e below (T127.setTop (mkF m 169 #[.val (.ref a1), .val (.long q2), .second] [(.ref a1)])) _
            refine XS.dup X127.here hx rfl (hb hby d4_169) rfl rfl ?_
            show Steps p.tables e below (T127.setTop (mkF m 170 #[.val (.ref a1), .val (.long q2), .second] [(.ref a1), (.ref a1)])) _
            refine st131 _ ?_
            show Steps p.tables e below (T131.setTop (mkF m 173 #[.val (.ref a1), .val (.long q2), .second] [(.long v_sum), (.ref a1)])) _
            refine XS.lloadN X131.here hx rfl (hb hby d4_173) rfl ?_
            show Steps p.tables e below (T131.setTop (mkF m 174 #[.val (.ref a1), .val (.long q2), .second] [(.long q2), (.long v_sum), (.ref a1)])) _
            refine XS.ladd X131.here hx rfl (hb hby d4_174) rfl ?_
            show Steps p.tables e below (T131.setTop (mkF m 175 #[.val (.ref a1), .val (.long q2), .second] [(.long (v_sum + q2)), (.ref a1)])) _
            refine st133 _ ?_
            show Steps p.tables e below (T133.setTop (mkF m 178 #[.val (.ref a1), .val (.long q2), .second] [])) _
            exact X133.returnOut hx Bd.returns (hb hby d4_178) hr
          · show Q4 Z a1 q2 v_count v_sum v_max v_maxc v_below v_min v_minc v_above h0 n0 _ T133.heap _
            rw [e133]
            have fa136 : Exa Z h133 a1 "com/example/placecard/placecard/TableValues" := (fa132.wr W133)
            have fa137 : Fld Z h133 a1 "com/example/placecard/placecard/TableValues" "count" "I" (.int (v_count + (1 : Int32))) := (Fw127.other W133 (Or.inr (slot_ne (Or.inl (hw _ (List.mem_of_getElem? (i := 16) rfl))) (Or.inl (hw _ (List.mem_of_getElem? (i := 18) rfl))) (by decide) (t := .int) (t' := .long) (by decide) (by decide))))
            have lf138 : Fld Z h133 a1 "com/example/placecard/placecard/TableValues" "count" "I" (.int (f4_a1_count q2 v_count v_sum v_max v_maxc v_below v_min v_minc v_above)) := by rw [f4_a1_count, if_neg hc3, if_pos hc52, if_neg hc70, if_pos hc117]; exact fa137
            have lf139 : Fld Z h133 a1 "com/example/placecard/placecard/TableValues" "sum" "J" (.long (f4_a1_sum q2 v_count v_sum v_max v_maxc v_below v_min v_minc v_above)) := by rw [f4_a1_sum, if_neg hc3, if_pos hc52, if_neg hc70, if_pos hc117]; exact Fw133
            have fa140 : Fld Z h133 a1 "com/example/placecard/placecard/TableValues" "max" "J" (.long q2) := ((((Fw59.other W64 (Or.inr (slot_ne (Or.inl (hw _ (List.mem_of_getElem? (i := 20) rfl))) (Or.inl (hw _ (List.mem_of_getElem? (i := 22) rfl))) (by decide) (t := .long) (t' := .int) (by decide) (by decide)))).other W121 (Or.inr (slot_ne (Or.inl (hw _ (List.mem_of_getElem? (i := 20) rfl))) (Or.inl (hw _ (List.mem_of_getElem? (i := 29) rfl))) (by decide) (t := .long) (t' := .int) (by decide) (by decide)))).other W127 (Or.inr (slot_ne (Or.inl (hw _ (List.mem_of_getElem? (i := 20) rfl))) (Or.inl (hw _ (List.mem_of_getElem? (i := 16) rfl))) (by decide) (t := .long) (t' := .int) (by decide) (by decide)))).other W133 (Or.inr (slot_ne (Or.inl (hw _ (List.mem_of_getElem? (i := 20) rfl))) (Or.inl (hw _ (List.mem_of_getElem? (i := 18) rfl))) (by decide) (t := .long) (t' := .long) (by decide) (by decide))))
            have lf141 : Fld Z h133 a1 "com/example/placecard/placecard/TableValues" "max" "J" (.long (f4_a1_max q2 v_count v_sum v_max v_maxc v_below v_min v_minc v_above)) := by rw [f4_a1_max, if_neg hc3, if_pos hc52, if_neg hc70, if_pos hc117]; exact fa140
            have fa142 : Fld Z h133 a1 "com/example/placecard/placecard/TableValues" "maxCount" "I" (.int (1 : Int32)) := (((Fw64.other W121 (Or.inr (slot_ne (Or.inl (hw _ (List.mem_of_getElem? (i := 22) rfl))) (Or.inl (hw _ (List.mem_of_getElem? (i := 29) rfl))) (by decide) (t := .int) (t' := .int) (by decide) (by decide)))).other W127 (Or.inr (slot_ne (Or.inl (hw _ (List.mem_of_getElem? (i := 22) rfl))) (Or.inl (hw _ (List.mem_of_getElem? (i := 16) rfl))) (by decide) (t := .int) (t' := .int) (by decide) (by decide)))).other W133 (Or.inr (slot_ne (Or.inl (hw _ (List.mem_of_getElem? (i := 22) rfl))) (Or.inl (hw _ (List.mem_of_getElem? (i := 18) rfl))) (by decide) (t := .int) (t' := .long) (by decide) (by decide))))
            have lf143 : Fld Z h133 a1 "com/example/placecard/placecard/TableValues" "maxCount" "I" (.int (f4_a1_maxCount q2 v_count v_sum v_max v_maxc v_below v_min v_minc v_above)) := by rw [f4_a1_maxCount, if_neg hc3, if_pos hc52, if_neg hc70, if_pos hc117]; exact fa142
            have fa144 : Fld Z h133 a1 "com/example/placecard/placecard/TableValues" "belowMax" "J" (.long v_max) := (((((Fw54.other W59 (Or.inr (slot_ne (Or.inl (hw _ (List.mem_of_getElem? (i := 25) rfl))) (Or.inl (hw _ (List.mem_of_getElem? (i := 20) rfl))) (by decide) (t := .long) (t' := .long) (by decide) (by decide)))).other W64 (Or.inr (slot_ne (Or.inl (hw _ (List.mem_of_getElem? (i := 25) rfl))) (Or.inl (hw _ (List.mem_of_getElem? (i := 22) rfl))) (by decide) (t := .long) (t' := .int) (by decide) (by decide)))).other W121 (Or.inr (slot_ne (Or.inl (hw _ (List.mem_of_getElem? (i := 25) rfl))) (Or.inl (hw _ (List.mem_of_getElem? (i := 29) rfl))) (by decide) (t := .long) (t' := .int) (by decide) (by decide)))).other W127 (Or.inr (slot_ne (Or.inl (hw _ (List.mem_of_getElem? (i := 25) rfl))) (Or.inl (hw _ (List.mem_of_getElem? (i := 16) rfl))) (by decide) (t := .long) (t' := .int) (by decide) (by decide)))).other W133 (Or.inr (slot_ne (Or.inl (hw _ (List.mem_of_getElem? (i := 25) rfl))) (Or.inl (hw _ (List.mem_of_getElem? (i := 18) rfl))) (by decide) (t := .long) (t' := .long) (by decide) (by decide))))
            have lf145 : Fld Z h133 a1 "com/example/placecard/placecard/TableValues" "belowMax" "J" (.long (f4_a1_belowMax q2 v_count v_sum v_max v_maxc v_below v_min v_minc v_above)) := by rw [f4_a1_belowMax, if_neg hc3, if_pos hc52, if_neg hc70, if_pos hc117]; exact fa144
            have fa146 : Fld Z h133 a1 "com/example/placecard/placecard/TableValues" "min" "J" (.long v_min) := (((fa67.other W121 (Or.inr (slot_ne (Or.inl (hw _ (List.mem_of_getElem? (i := 27) rfl))) (Or.inl (hw _ (List.mem_of_getElem? (i := 29) rfl))) (by decide) (t := .long) (t' := .int) (by decide) (by decide)))).other W127 (Or.inr (slot_ne (Or.inl (hw _ (List.mem_of_getElem? (i := 27) rfl))) (Or.inl (hw _ (List.mem_of_getElem? (i := 16) rfl))) (by decide) (t := .long) (t' := .int) (by decide) (by decide)))).other W133 (Or.inr (slot_ne (Or.inl (hw _ (List.mem_of_getElem? (i := 27) rfl))) (Or.inl (hw _ (List.mem_of_getElem? (i := 18) rfl))) (by decide) (t := .long) (t' := .long) (by decide) (by decide))))
            have lf147 : Fld Z h133 a1 "com/example/placecard/placecard/TableValues" "min" "J" (.long (f4_a1_min q2 v_count v_sum v_max v_maxc v_below v_min v_minc v_above)) := by rw [f4_a1_min, if_neg hc3, if_pos hc52, if_neg hc70, if_pos hc117]; exact fa146
            have fa148 : Fld Z h133 a1 "com/example/placecard/placecard/TableValues" "minCount" "I" (.int (v_minc + (1 : Int32))) := ((Fw121.other W127 (Or.inr (slot_ne (Or.inl (hw _ (List.mem_of_getElem? (i := 29) rfl))) (Or.inl (hw _ (List.mem_of_getElem? (i := 16) rfl))) (by decide) (t := .int) (t' := .int) (by decide) (by decide)))).other W133 (Or.inr (slot_ne (Or.inl (hw _ (List.mem_of_getElem? (i := 29) rfl))) (Or.inl (hw _ (List.mem_of_getElem? (i := 18) rfl))) (by decide) (t := .int) (t' := .long) (by decide) (by decide))))
            have lf149 : Fld Z h133 a1 "com/example/placecard/placecard/TableValues" "minCount" "I" (.int (f4_a1_minCount q2 v_count v_sum v_max v_maxc v_below v_min v_minc v_above)) := by rw [f4_a1_minCount, if_neg hc3, if_pos hc52, if_neg hc70, if_pos hc117]; exact fa148
            have fa150 : Fld Z h133 a1 "com/example/placecard/placecard/TableValues" "aboveMin" "J" (.long v_above) := ((((((F_a1_aboveMin.other W54 (Or.inr (slot_ne (Or.inl (hw _ (List.mem_of_getElem? (i := 32) rfl))) (Or.inl (hw _ (List.mem_of_getElem? (i := 25) rfl))) (by decide) (t := .long) (t' := .long) (by decide) (by decide)))).other W59 (Or.inr (slot_ne (Or.inl (hw _ (List.mem_of_getElem? (i := 32) rfl))) (Or.inl (hw _ (List.mem_of_getElem? (i := 20) rfl))) (by decide) (t := .long) (t' := .long) (by decide) (by decide)))).other W64 (Or.inr (slot_ne (Or.inl (hw _ (List.mem_of_getElem? (i := 32) rfl))) (Or.inl (hw _ (List.mem_of_getElem? (i := 22) rfl))) (by decide) (t := .long) (t' := .int) (by decide) (by decide)))).other W121 (Or.inr (slot_ne (Or.inl (hw _ (List.mem_of_getElem? (i := 32) rfl))) (Or.inl (hw _ (List.mem_of_getElem? (i := 29) rfl))) (by decide) (t := .long) (t' := .int) (by decide) (by decide)))).other W127 (Or.inr (slot_ne (Or.inl (hw _ (List.mem_of_getElem? (i := 32) rfl))) (Or.inl (hw _ (List.mem_of_getElem? (i := 16) rfl))) (by decide) (t := .long) (t' := .int) (by decide) (by decide)))).other W133 (Or.inr (slot_ne (Or.inl (hw _ (List.mem_of_getElem? (i := 32) rfl))) (Or.inl (hw _ (List.mem_of_getElem? (i := 18) rfl))) (by decide) (t := .long) (t' := .long) (by decide) (by decide))))
            have lf151 : Fld Z h133 a1 "com/example/placecard/placecard/TableValues" "aboveMin" "J" (.long (f4_a1_aboveMin q2 v_count v_sum v_max v_maxc v_below v_min v_minc v_above)) := by rw [f4_a1_aboveMin, if_neg hc3, if_pos hc52, if_neg hc70, if_pos hc117]; exact fa150
            exact ⟨rfl, N133, kp135, fa136, lf138, lf139, lf141, lf143, lf145, lf147, lf149, lf151⟩
        · have fa152 : Fld Z h64 a1 "com/example/placecard/placecard/TableValues" "aboveMin" "J" (.long v_above) := (((F_a1_aboveMin.other W54 (Or.inr (slot_ne (Or.inl (hw _ (List.mem_of_getElem? (i := 32) rfl))) (Or.inl (hw _ (List.mem_of_getElem? (i := 25) rfl))) (by decide) (t := .long) (t' := .long) (by decide) (by decide)))).other W59 (Or.inr (slot_ne (Or.inl (hw _ (List.mem_of_getElem? (i := 32) rfl))) (Or.inl (hw _ (List.mem_of_getElem? (i := 20) rfl))) (by decide) (t := .long) (t' := .long) (by decide) (by decide)))).other W64 (Or.inr (slot_ne (Or.inl (hw _ (List.mem_of_getElem? (i := 32) rfl))) (Or.inl (hw _ (List.mem_of_getElem? (i := 22) rfl))) (by decide) (t := .long) (t' := .int) (by decide) (by decide))))
          obtain ⟨T153, X153, e153, st153⟩ := getF X115 hx hZ hown (host := "") (Or.inl (hw _ (List.mem_of_getElem? (i := 31) rfl))) Via.refl e115 fa152 (g := (mkF m 148 #[.val (.ref a1), .val (.long q2), .second] [(.ref a1), (.ref a1)])) rfl rfl (hb hby d4_148)
          obtain ⟨_, _, ⟨T154, L154, k154, n154⟩, -, X154, ⟨Lc154, hQ154, lz154, yz154, zz154⟩, st154⟩ := Jvm.LawKit.callS X153 hx (y := (⟨"java/lang/Math", "min", "(JJ)J"⟩ : MethodName)) hown (mvT hZ (hw _ (List.mem_of_getElem? (i := 47) rfl))) (mvT hZ (hw _ (List.mem_of_getElem? (i := 48) rfl))) (mvT hZ (hw _ (List.mem_of_getElem? (i := 40) rfl))) (mvT hZ (hw _ (List.mem_of_getElem? (i := 49) rfl))) (by decide) (backOf (W := 1) (rm7 l Z a0 hw [] v_above q2 h64 n0 zs65 ) hZ (hw _ (List.mem_of_getElem? (i := 49) rfl)) (hw _ (List.mem_of_getElem? (i := 40) rfl)) (by decide) (by decide)) (g := (mkF m 152 #[.val (.ref a1), .val (.long q2), .second] [(.long q2), (.long v_above), (.ref a1)])) rfl (by rw [hml]; rfl) (argsL := [(.long v_above), (.long q2)]) (rest := [(.ref a1)]) (lenOf pd_4_2 rfl) rfl (by show 2 * 0 + _ ≤ _; exact Nat.le_of_eq rfl) (hb hby d4_152) (fun _ _ => ⟨rfl, e153, (by decide : 0 + 0 ≤ _), (by decide : 0 + 0 ≤ _)⟩)
          dsimp only [Pt.U, Pt.locs, Pt.cells, Pt.slots] at X154 lz154 yz154 zz154 st154 hQ154
          subst lz154 yz154 zz154
          obtain ⟨rfl, N154q, e154⟩ := hQ154
          have N154 := Fr.app N64 N154q
          have fa155 : Exa Z h64 a1 "com/example/placecard/placecard/TableValues" := (fa63.wr W64)
          obtain ⟨T156, h156, X156, e156, W156, st156⟩ := putF X154 hx hZ hown (host := "") (Or.inl (hw _ (List.mem_of_getElem? (i := 31) rfl))) Via.refl e154 fa152 fa155 (Or.inl (hw _ (List.mem_of_getElem? (i := 32) rfl))) (hw _ (List.mem_of_getElem? (i := 2) rfl)) (ty := .long) (by decide) rfl rfl (g := (mkF m 155 #[.val (.ref a1), .val (.long q2), .second] [(.long (f7 v_above q2)), (.ref a1)])) rfl rfl (hb hby d4_155)
          have Fw156 : Fld Z h156 a1 "com/example/placecard/placecard/TableValues" "aboveMin" "J" (.long (f7 v_above q2)) := fa152.same W156
          have zs157 : n0 ≤ h156.size := Nat.le_trans zs65 (Keep.of_wr W156).1
          have kp158 : Keep h0 h156 [a1] := kp66.wr W156 (Or.inl (List.mem_of_getElem? (i := 0) rfl))
          have N156 := Fr.snoc X156 N154 g_a1
          have fa159 : Fld Z h156 a1 "com/example/placecard/placecard/TableValues" "count" "I" (.int v_count) := ((((F_a1_count.other W54 (Or.inr (slot_ne (Or.inl (hw _ (List.mem_of_getElem? (i := 16) rfl))) (Or.inl (hw _ (List.mem_of_getElem? (i := 25) rfl))) (by decide) (t := .int) (t' := .long) (by decide) (by decide)))).other W59 (Or.inr (slot_ne (Or.inl (hw _ (List.mem_of_getElem? (i := 16) rfl))) (Or.inl (hw _ (List.mem_of_getElem? (i := 20) rfl))) (by decide) (t := .int) (t' := .long) (by decide) (by decide)))).other W64 (Or.inr (slot_ne (Or.inl (hw _ (List.mem_of_getElem? (i := 16) rfl))) (Or.inl (hw _ (List.mem_of_getElem? (i := 22) rfl))) (by decide) (t := .int) (t' := .int) (by decide) (by decide)))).other W156 (Or.inr (slot_ne (Or.inl (hw _ (List.mem_of_getElem? (i := 16) rfl))) (Or.inl (hw _ (List.mem_of_getElem? (i := 32) rfl))) (by decide) (t := .int) (t' := .long) (by decide) (by decide))))
          obtain ⟨T160, X160, e160, st160⟩ := getF X156 hx hZ hown (host := "") (Or.inl (hw _ (List.mem_of_getElem? (i := 15) rfl))) Via.refl e156 fa159 (g := (mkF m 160 #[.val (.ref a1), .val (.long q2), .second] [(.ref a1), (.ref a1)])) rfl rfl (hb hby d4_160)
          have fa161 : Exa Z h156 a1 "com/example/placecard/placecard/TableValues" := (fa155.wr W156)
          obtain ⟨T162, h162, X162, e162, W162, st162⟩ := putF X160 hx hZ hown (host := "") (Or.inl (hw _ (List.mem_of_getElem? (i := 15) rfl))) Via.refl e160 fa159 fa161 (Or.inl (hw _ (List.mem_of_getElem? (i := 16) rfl))) (hw _ (List.mem_of_getElem? (i := 2) rfl)) (ty := .int) (by decide) rfl rfl (g := (mkF m 165 #[.val (.ref a1), .val (.long q2), .second] [(.int (v_count + (1 : Int32))), (.ref a1)])) rfl rfl (hb hby d4_165)
          have Fw162 : Fld Z h162 a1 "com/example/placecard/placecard/TableValues" "count" "I" (.int (v_count + (1 : Int32))) := fa159.same W162
          have zs163 : n0 ≤ h162.size := Nat.le_trans zs157 (Keep.of_wr W162).1
          have kp164 : Keep h0 h162 [a1] := kp158.wr W162 (Or.inl (List.mem_of_getElem? (i := 0) rfl))
          have N162 := Fr.snoc X162 N156 g_a1
          have fa165 : Fld Z h162 a1 "com/example/placecard/placecard/TableValues" "sum" "J" (.long v_sum) := (((((F_a1_sum.other W54 (Or.inr (slot_ne (Or.inl (hw _ (List.mem_of_getElem? (i := 18) rfl))) (Or.inl (hw _ (List.mem_of_getElem? (i := 25) rfl))) (by decide) (t := .long) (t' := .long) (by decide) (by decide)))).other W59 (Or.inr (slot_ne (Or.inl (hw _ (List.mem_of_getElem? (i := 18) rfl))) (Or.inl (hw _ (List.mem_of_getElem? (i := 20) rfl))) (by decide) (t := .long) (t' := .long) (by decide) (by decide)))).other W64 (Or.inr (slot_ne (Or.inl (hw _ (List.mem_of_getElem? (i := 18) rfl))) (Or.inl (hw _ (List.mem_of_getElem? (i := 22) rfl))) (by decide) (t := .long) (t' := .int) (by decide) (by decide)))).other W156 (Or.inr (slot_ne (Or.inl (hw _ (List.mem_of_getElem? (i := 18) rfl))) (Or.inl (hw _ (List.mem_of_getElem? (i := 32) rfl))) (by decide) (t := .long) (t' := .long) (by decide) (by decide)))).other W162 (Or.inr (slot_ne (Or.inl (hw _ (List.mem_of_getElem? (i := 18) rfl))) (Or.inl (hw _ (List.mem_of_getElem? (i := 16) rfl))) (by decide) (t := .long) (t' := .int) (by decide) (by decide))))
          obtain ⟨T166, X166, e166, st166⟩ := getF X162 hx hZ hown (host := "") (Or.inl (hw _ (List.mem_of_getElem? (i := 17) rfl))) Via.refl e162 fa165 (g := (mkF m 170 #[.val (.ref a1), .val (.long q2), .second] [(.ref a1), (.ref a1)])) rfl rfl (hb hby d4_170)
          have fa167 : Exa Z h162 a1 "com/example/placecard/placecard/TableValues" := (fa161.wr W162)
          obtain ⟨T168, h168, X168, e168, W168, st168⟩ := putF X166 hx hZ hown (host := "") (Or.inl (hw _ (List.mem_of_getElem? (i := 17) rfl))) Via.refl e166 fa165 fa167 (Or.inl (hw _ (List.mem_of_getElem? (i := 18) rfl))) (hw _ (List.mem_of_getElem? (i := 2) rfl)) (ty := .long) (by decide) rfl rfl (g := (mkF m 175 #[.val (.ref a1), .val (.long q2), .second] [(.long (v_sum + q2)), (.ref a1)])) rfl rfl (hb hby d4_175)
          have Fw168 : Fld Z h168 a1 "com/example/placecard/placecard/TableValues" "sum" "J" (.long (v_sum + q2)) := fa165.same W168
          have zs169 : n0 ≤ h168.size := Nat.le_trans zs163 (Keep.of_wr W168).1
          have kp170 : Keep h0 h168 [a1] := kp164.wr W168 (Or.inl (List.mem_of_getElem? (i := 0) rfl))
          have N168 := Fr.snoc X168 N162 g_a1
          obtain ⟨fs, hr, hrun, hended, hW, hsame⟩ := X168.leave (v := none) (fun _ => rfl)
          refine ⟨_, _, pre116 _ ?_, hrun, hended, _, _, rfl, ?_, ⟨_, rfl⟩, hW, hsame.mono (by decide) (by decide)⟩
          · show Steps p.tables e below (T115.setTop (mkF m 130 #[.val (.ref a1), .val (.long q2), .second] [(.int (lcmpW q2 v_min))])) _
            refine XS.ifYes X115.here hx rfl (pc0 := 130) (pc' := 146) rfl (hb hby d4_130) rfl ((if0 _ _).trans (feq (mt (lw_eq q2 v_min).mp hc117)).2) (by decide) (by decide) ?_
            show Steps p.tables e below (T115.setTop (mkF m 146 #[.val (.ref a1), .val (.long q2), .second] [])) _
            refine XS.aloadN X115.here hx rfl (hb hby d4_146) rfl rfl ?_
            show Steps p.tables e below (T115.setTop (mkF m 147 #[.val (.ref a1), .val (.long q2), .second] [(.ref a1)])) _
            refine XS.aloadN X115.here hx rfl (hb hby d4_147) rfl rfl ?_
            show Steps p.tables e below (T115.setTop (mkF m 148 #[.val (.ref a1), .val (.long q2), .second] [(.ref a1), (.ref a1)])) _
            refine st153 _ ?_
            show Steps p.tables e below (T153.setTop (mkF m 151 #[.val (.ref a1), .val (.long q2), .second] [(.long v_above), (.ref a1)])) _
            refine XS.lloadN X153.here hx rfl (hb hby d4_151) rfl ?_
            show Steps p.tables e below (T153.setTop (mkF m 152 #[.val (.ref a1), .val (.long q2), .second] [(.long q2), (.long v_above), (.ref a1)])) _
            refine st154 _ ?_
            show Steps p.tables e below (T154.setTop (mkF m 155 #[.val (.ref a1), .val (.long q2), .second] [(.long (f7 v_above q2)), (.ref a1)])) _
            refine st156 _ ?_
            show Steps p.tables e below (T156.setTop (mkF m 158 #[.val (.ref a1), .val (.long q2), .second] [])) _
            refine XS.aloadN X156.here hx rfl (hb hby d4_158) rfl rfl ?_
            show Steps p.tables e below (T156.setTop (mkF m 159 #[.val (.ref a1), .val (.long q2), .second] [(.ref a1)])) _
            refine XS.dup X156.here hx rfl (hb hby d4_159) rfl rfl ?_
            show Steps p.tables e below (T156.setTop (mkF m 160 #[.val (.ref a1), .val (.long q2), .second] [(.ref a1), (.ref a1)])) _
            refine st160 _ ?_
            show Steps p.tables e below (T160.setTop (mkF m 163 #[.val (.ref a1), .val (.long q2), .second] [(.int v_count), (.ref a1)])) _
            refine XS.iconst X160.here hx rfl (hb hby d4_163) ?_
            show Steps p.tables e below (T160.setTop (mkF m 164 #[.val (.ref a1), .val (.long q2), .second] [(.int (1 : Int32)), (.int v_count), (.ref a1)])) _
            refine XS.iadd X160.here hx rfl (hb hby d4_164) rfl ?_
            show Steps p.tables e below (T160.setTop (mkF m 165 #[.val (.ref a1), .val (.long q2), .second] [(.int (v_count + (1 : Int32))), (.ref a1)])) _
            refine st162 _ ?_
            show Steps p.tables e below (T162.setTop (mkF m 168 #[.val (.ref a1), .val (.long q2), .second] [])) _
            refine XS.aloadN X162.here hx rfl (hb hby d4_168) rfl rfl ?_
            show Steps p.tables e below (T162.setTop (mkF m 169 #[.val (.ref a1), .val (.long q2), .second] [(.ref a1)])) _
            refine XS.dup X162.here hx rfl (hb hby d4_169) rfl rfl ?_
            show Steps p.tables e below (T162.setTop (mkF m 170 #[.val (.ref a1), .val (.long q2), .second] [(.ref a1), (.ref a1)])) _
            refine st166 _ ?_
            show Steps p.tables e below (T166.setTop (mkF m 173 #[.val (.ref a1), .val (.long q2), .second] [(.long v_sum), (.ref a1)])) _
            refine XS.lloadN X166.here hx rfl (hb hby d4_173) rfl ?_
            show Steps p.tables e below (T166.setTop (mkF m 174 #[.val (.ref a1), .val (.long q2), .second] [(.long q2), (.long v_sum), (.ref a1)])) _
            refine XS.ladd X166.here hx rfl (hb hby d4_174) rfl ?_
            show Steps p.tables e below (T166.setTop (mkF m 175 #[.val (.ref a1), .val (.long q2), .second] [(.long (v_sum + q2)), (.ref a1)])) _
            refine st168 _ ?_
            show Steps p.tables e below (T168.setTop (mkF m 178 #[.val (.ref a1), .val (.long q2), .second] [])) _
            exact X168.returnOut hx Bd.returns (hb hby d4_178) hr
          · show Q4 Z a1 q2 v_count v_sum v_max v_maxc v_below v_min v_minc v_above h0 n0 _ T168.heap _
            rw [e168]
            have fa171 : Exa Z h168 a1 "com/example/placecard/placecard/TableValues" := (fa167.wr W168)
            have fa172 : Fld Z h168 a1 "com/example/placecard/placecard/TableValues" "count" "I" (.int (v_count + (1 : Int32))) := (Fw162.other W168 (Or.inr (slot_ne (Or.inl (hw _ (List.mem_of_getElem? (i := 16) rfl))) (Or.inl (hw _ (List.mem_of_getElem? (i := 18) rfl))) (by decide) (t := .int) (t' := .long) (by decide) (by decide))))
            have lf173 : Fld Z h168 a1 "com/example/placecard/placecard/TableValues" "count" "I" (.int (f4_a1_count q2 v_count v_sum v_max v_maxc v_below v_min v_minc v_above)) := by rw [f4_a1_count, if_neg hc3, if_pos hc52, if_neg hc70, if_neg hc117]; exact fa172
            have lf174 : Fld Z h168 a1 "com/example/placecard/placecard/TableValues" "sum" "J" (.long (f4_a1_sum q2 v_count v_sum v_max v_maxc v_below v_min v_minc v_above)) := by rw [f4_a1_sum, if_neg hc3, if_pos hc52, if_neg hc70, if_neg hc117]; exact Fw168
            have fa175 : Fld Z h168 a1 "com/example/placecard/placecard/TableValues" "max" "J" (.long q2) := ((((Fw59.other W64 (Or.inr (slot_ne (Or.inl (hw _ (List.mem_of_getElem? (i := 20) rfl))) (Or.inl (hw _ (List.mem_of_getElem? (i := 22) rfl))) (by decide) (t := .long) (t' := .int) (by decide) (by decide)))).other W156 (Or.inr (slot_ne (Or.inl (hw _ (List.mem_of_getElem? (i := 20) rfl))) (Or.inl (hw _ (List.mem_of_getElem? (i := 32) rfl))) (by decide) (t := .long) (t' := .long) (by decide) (by decide)))).other W162 (Or.inr (slot_ne (Or.inl (hw _ (List.mem_of_getElem? (i := 20) rfl))) (Or.inl (hw _ (List.mem_of_getElem? (i := 16) rfl))) (by decide) (t := .long) (t' := .int) (by decide) (by decide)))).other W168 (Or.inr (slot_ne (Or.inl (hw _ (List.mem_of_getElem? (i := 20) rfl))) (Or.inl (hw _ (List.mem_of_getElem? (i := 18) rfl))) (by decide) (t := .long) (t' := .long) (by decide) (by decide))))
            have lf176 : Fld Z h168 a1 "com/example/placecard/placecard/TableValues" "max" "J" (.long (f4_a1_max q2 v_count v_sum v_max v_maxc v_below v_min v_minc v_above)) := by rw [f4_a1_max, if_neg hc3, if_pos hc52, if_neg hc70, if_neg hc117]; exact fa175
            have fa177 : Fld Z h168 a1 "com/example/placecard/placecard/TableValues" "maxCount" "I" (.int (1 : Int32)) := (((Fw64.other W156 (Or.inr (slot_ne (Or.inl (hw _ (List.mem_of_getElem? (i := 22) rfl))) (Or.inl (hw _ (List.mem_of_getElem? (i := 32) rfl))) (by decide) (t := .int) (t' := .long) (by decide) (by decide)))).other W162 (Or.inr (slot_ne (Or.inl (hw _ (List.mem_of_getElem? (i := 22) rfl))) (Or.inl (hw _ (List.mem_of_getElem? (i := 16) rfl))) (by decide) (t := .int) (t' := .int) (by decide) (by decide)))).other W168 (Or.inr (slot_ne (Or.inl (hw _ (List.mem_of_getElem? (i := 22) rfl))) (Or.inl (hw _ (List.mem_of_getElem? (i := 18) rfl))) (by decide) (t := .int) (t' := .long) (by decide) (by decide))))
            have lf178 : Fld Z h168 a1 "com/example/placecard/placecard/TableValues" "maxCount" "I" (.int (f4_a1_maxCount q2 v_count v_sum v_max v_maxc v_below v_min v_minc v_above)) := by rw [f4_a1_maxCount, if_neg hc3, if_pos hc52, if_neg hc70, if_neg hc117]; exact fa177
            have fa179 : Fld Z h168 a1 "com/example/placecard/placecard/TableValues" "belowMax" "J" (.long v_max) := (((((Fw54.other W59 (Or.inr (slot_ne (Or.inl (hw _ (List.mem_of_getElem? (i := 25) rfl))) (Or.inl (hw _ (List.mem_of_getElem? (i := 20) rfl))) (by decide) (t := .long) (t' := .long) (by decide) (by decide)))).other W64 (Or.inr (slot_ne (Or.inl (hw _ (List.mem_of_getElem? (i := 25) rfl))) (Or.inl (hw _ (List.mem_of_getElem? (i := 22) rfl))) (by decide) (t := .long) (t' := .int) (by decide) (by decide)))).other W156 (Or.inr (slot_ne (Or.inl (hw _ (List.mem_of_getElem? (i := 25) rfl))) (Or.inl (hw _ (List.mem_of_getElem? (i := 32) rfl))) (by decide) (t := .long) (t' := .long) (by decide) (by decide)))).other W162 (Or.inr (slot_ne (Or.inl (hw _ (List.mem_of_getElem? (i := 25) rfl))) (Or.inl (hw _ (List.mem_of_getElem? (i := 16) rfl))) (by decide) (t := .long) (t' := .int) (by decide) (by decide)))).other W168 (Or.inr (slot_ne (Or.inl (hw _ (List.mem_of_getElem? (i := 25) rfl))) (Or.inl (hw _ (List.mem_of_getElem? (i := 18) rfl))) (by decide) (t := .long) (t' := .long) (by decide) (by decide))))
            have lf180 : Fld Z h168 a1 "com/example/placecard/placecard/TableValues" "belowMax" "J" (.long (f4_a1_belowMax q2 v_count v_sum v_max v_maxc v_below v_min v_minc v_above)) := by rw [f4_a1_belowMax, if_neg hc3, if_pos hc52, if_neg hc70, if_neg hc117]; exact fa179
            have fa181 : Fld Z h168 a1 "com/example/placecard/placecard/TableValues" "min" "J" (.long v_min) := (((fa67.other W156 (Or.inr (slot_ne (Or.inl (hw _ (List.mem_of_getElem? (i := 27) rfl))) (Or.inl (hw _ (List.mem_of_getElem? (i := 32) rfl))) (by decide) (t := .long) (t' := .long) (by decide) (by decide)))).other W162 (Or.inr (slot_ne (Or.inl (hw _ (List.mem_of_getElem? (i := 27) rfl))) (Or.inl (hw _ (List.mem_of_getElem? (i := 16) rfl))) (by decide) (t := .long) (t' := .int) (by decide) (by decide)))).other W168 (Or.inr (slot_ne (Or.inl (hw _ (List.mem_of_getElem? (i := 27) rfl))) (Or.inl (hw _ (List.mem_of_getElem? (i := 18) rfl))) (by decide) (t := .long) (t' := .long) (by decide) (by decide))))
            have lf182 : Fld Z h168 a1 "com/example/placecard/placecard/TableValues" "min" "J" (.long (f4_a1_min q2 v_count v_sum v_max v_maxc v_below v_min v_minc v_above)) := by rw [f4_a1_min, if_neg hc3, if_pos hc52, if_neg hc70, if_neg hc117]; exact fa181
            have fa183 : Fld Z h168 a1 "com/example/placecard/placecard/TableValues" "minCount" "I" (.int v_minc) := ((((((F_a1_minCount.other W54 (Or.inr (slot_ne (Or.inl (hw _ (List.mem_of_getElem? (i := 29) rfl))) (Or.inl (hw _ (List.mem_of_getElem? (i := 25) rfl))) (by decide) (t := .int) (t' := .long) (by decide) (by decide)))).other W59 (Or.inr (slot_ne (Or.inl (hw _ (List.mem_of_getElem? (i := 29) rfl))) (Or.inl (hw _ (List.mem_of_getElem? (i := 20) rfl))) (by decide) (t := .int) (t' := .long) (by decide) (by decide)))).other W64 (Or.inr (slot_ne (Or.inl (hw _ (List.mem_of_getElem? (i := 29) rfl))) (Or.inl (hw _ (List.mem_of_getElem? (i := 22) rfl))) (by decide) (t := .int) (t' := .int) (by decide) (by decide)))).other W156 (Or.inr (slot_ne (Or.inl (hw _ (List.mem_of_getElem? (i := 29) rfl))) (Or.inl (hw _ (List.mem_of_getElem? (i := 32) rfl))) (by decide) (t := .int) (t' := .long) (by decide) (by decide)))).other W162 (Or.inr (slot_ne (Or.inl (hw _ (List.mem_of_getElem? (i := 29) rfl))) (Or.inl (hw _ (List.mem_of_getElem? (i := 16) rfl))) (by decide) (t := .int) (t' := .int) (by decide) (by decide)))).other W168 (Or.inr (slot_ne (Or.inl (hw _ (List.mem_of_getElem? (i := 29) rfl))) (Or.inl (hw _ (List.mem_of_getElem? (i := 18) rfl))) (by decide) (t := .int) (t' := .long) (by decide) (by decide))))
            have lf184 : Fld Z h168 a1 "com/example/placecard/placecard/TableValues" "minCount" "I" (.int (f4_a1_minCount q2 v_count v_sum v_max v_maxc v_below v_min v_minc v_above)) := by rw [f4_a1_minCount, if_neg hc3, if_pos hc52, if_neg hc70, if_neg hc117]; exact fa183
            have fa185 : Fld Z h168 a1 "com/example/placecard/placecard/TableValues" "aboveMin" "J" (.long (f7 v_above q2)) := ((Fw156.other W162 (Or.inr (slot_ne (Or.inl (hw _ (List.mem_of_getElem? (i := 32) rfl))) (Or.inl (hw _ (List.mem_of_getElem? (i := 16) rfl))) (by decide) (t := .long) (t' := .int) (by decide) (by decide)))).other W168 (Or.inr (slot_ne (Or.inl (hw _ (List.mem_of_getElem? (i := 32) rfl))) (Or.inl (hw _ (List.mem_of_getElem? (i := 18) rfl))) (by decide) (t := .long) (t' := .long) (by decide) (by decide))))
            have lf186 : Fld Z h168 a1 "com/example/placecard/placecard/TableValues" "aboveMin" "J" (.long (f4_a1_aboveMin q2 v_count v_sum v_max v_maxc v_below v_min v_minc v_above)) := by rw [f4_a1_aboveMin, if_neg hc3, if_pos hc52, if_neg hc70, if_neg hc117]; exact fa185
            exact ⟨rfl, N168, kp170, fa171, lf173, lf174, lf176, lf178, lf180, lf182, lf184, lf186⟩
    · obtain ⟨T187, X187, e187, st187⟩ := getF X50 hx hZ hown (host := "") (Or.inl (hw _ (List.mem_of_getElem? (i := 19) rfl))) Via.refl e50 F_a1_max (g := (mkF m 62 #[.val (.ref a1), .val (.long q2), .second] [(.ref a1), (.long q2)])) rfl rfl (hb hby d4_62)
      have pre188 : ∀ t, Steps p.tables e below (T187.setTop (mkF m 66 #[.val (.ref a1), .val (.long q2), .second] [(.int (lcmpW q2 v_max))])) t → Steps p.tables e below (s₁.setTop (entryFrame m #[(.ref a1), (.long q2)] 3)) t := fun t kt => by
        refine pre51 _ ?_
        show Steps p.tables e below (T50.setTop (mkF m 36 #[.val (.ref a1), .val (.long q2), .second] [(.int (lcmpW q2 v_max))])) _
        refine XS.ifYes X50.here hx rfl (pc0 := 36) (pc' := 60) rfl (hb hby d4_36) rfl ((if0 _ _).trans (flt (mt (lw_gt q2 v_max).mp hc52)).2.2.2) (by decide) (by decide) ?_
        show Steps p.tables e below (T50.setTop (mkF m 60 #[.val (.ref a1), .val (.long q2), .second] [])) _
        refine XS.lloadN X50.here hx rfl (hb hby d4_60) rfl ?_
        show Steps p.tables e below (T50.setTop (mkF m 61 #[.val (.ref a1), .val (.long q2), .second] [(.long q2)])) _
        refine XS.aloadN X50.here hx rfl (hb hby d4_61) rfl rfl ?_
        show Steps p.tables e below (T50.setTop (mkF m 62 #[.val (.ref a1), .val (.long q2), .second] [(.ref a1), (.long q2)])) _
        refine st187 _ ?_
        show Steps p.tables e below (T187.setTop (mkF m 65 #[.val (.ref a1), .val (.long q2), .second] [(.long v_max), (.long q2)])) _
        refine XS.lcmp X187.here hx rfl (hb hby d4_65) rfl ?_
        exact kt
      by_cases hc189 : q2 = v_max
      · obtain ⟨T190, X190, e190, st190⟩ := getF X187 hx hZ hown (host := "") (Or.inl (hw _ (List.mem_of_getElem? (i := 21) rfl))) Via.refl e187 F_a1_maxCount (g := (mkF m 71 #[.val (.ref a1), .val (.long q2), .second] [(.ref a1), (.ref a1)])) rfl rfl (hb hby d4_71)
        obtain ⟨T191, h191, X191, e191, W191, st191⟩ := putF X190 hx hZ hown (host := "") (Or.inl (hw _ (List.mem_of_getElem? (i := 21) rfl))) Via.refl e190 F_a1_maxCount E_a1 (Or.inl (hw _ (List.mem_of_getElem? (i := 22) rfl))) (hw _ (List.mem_of_getElem? (i := 2) rfl)) (ty := .int) (by decide) rfl rfl (g := (mkF m 76 #[.val (.ref a1), .val (.long q2), .second] [(.int (v_maxc + (1 : Int32))), (.ref a1)])) rfl rfl (hb hby d4_76)
        have Fw191 : Fld Z h191 a1 "com/example/placecard/placecard/TableValues" "maxCount" "I" (.int (v_maxc + (1 : Int32))) := F_a1_maxCount.same W191
        have zs192 : n0 ≤ h191.size := Nat.le_trans Z0 (Keep.of_wr W191).1
        have kp193 : Keep h0 h191 [a1] := (Keep.refl h0 [a1]).wr W191 (Or.inl (List.mem_of_getElem? (i := 0) rfl))
        have N191 := Fr.snoc X191 N0 g_a1
        have fa194 : Fld Z h191 a1 "com/example/placecard/placecard/TableValues" "min" "J" (.long v_min) := (F_a1_min.other W191 (Or.inr (slot_ne (Or.inl (hw _ (List.mem_of_getElem? (i := 27) rfl))) (Or.inl (hw _ (List.mem_of_getElem? (i := 22) rfl))) (by decide) (t := .long) (t' := .int) (by decide) (by decide))))
        obtain ⟨T195, X195, e195, st195⟩ := getF X191 hx hZ hown (host := "") (Or.inl (hw _ (List.mem_of_getElem? (i := 26) rfl))) Via.refl e191 fa194 (g := (mkF m 96 #[.val (.ref a1), .val (.long q2), .second] [(.ref a1), (.long q2)])) rfl rfl (hb hby d4_96)
        have pre196 : ∀ t, Steps p.tables e below (T195.setTop (mkF m 100 #[.val (.ref a1), .val (.long q2), .second] [(.int (lcmpW q2 v_min))])) t → Steps p.tables e below (s₁.setTop (entryFrame m #[(.ref a1), (.long q2)] 3)) t := fun t kt => by
          refine pre188 _ ?_
          show Steps p.tables e below (T187.setTop (mkF m 66 #[.val (.ref a1), .val (.long q2), .second] [(.int (lcmpW q2 v_max))])) _
          refine XS.ifNo X187.here hx rfl (hb hby d4_66) rfl ((if0 _ _).trans (teq ((lw_eq q2 v_max).mpr hc189)).2) ?_
          show Steps p.tables e below (T187.setTop (mkF m 69 #[.val (.ref a1), .val (.long q2), .second] [])) _
          refine XS.aloadN X187.here hx rfl (hb hby d4_69) rfl rfl ?_
          show Steps p.tables e below (T187.setTop (mkF m 70 #[.val (.ref a1), .val (.long q2), .second] [(.ref a1)])) _
          refine XS.dup X187.here hx rfl (hb hby d4_70) rfl rfl ?_
          show Steps p.tables e below (T187.setTop (mkF m 71 #[.val (.ref a1), .val (.long q2), .second] [(.ref a1), (.ref a1)])) _
          refine st190 _ ?_
          show Steps p.tables e below (T190.setTop (mkF m 74 #[.val (.ref a1), .val (.long q2), .second] [(.int v_maxc), (.ref a1)])) _
          refine XS.iconst X190.here hx rfl (hb hby d4_74) ?_
          show Steps p.tables e below (T190.setTop (mkF m 75 #[.val (.ref a1), .val (.long q2), .second] [(.int (1 : Int32)), (.int v_maxc), (.ref a1)])) _
          refine XS.iadd X190.here hx rfl (hb hby d4_75) rfl ?_
          show Steps p.tables e below (T190.setTop (mkF m 76 #[.val (.ref a1), .val (.long q2), .second] [(.int (v_maxc + (1 : Int32))), (.ref a1)])) _
          refine st191 _ ?_
          show Steps p.tables e below (T191.setTop (mkF m 79 #[.val (.ref a1), .val (.long q2), .second] [])) _
          refine XS.goto X191.here hx rfl (pc0 := 79) (pc' := 94) rfl (hb hby d4_79) (by decide) (by decide) ?_
          show Steps p.tables e below (T191.setTop (mkF m 94 #[.val (.ref a1), .val (.long q2), .second] [])) _
          refine XS.lloadN X191.here hx rfl (hb hby d4_94) rfl ?_
          show Steps p.tables e below (T191.setTop (mkF m 95 #[.val (.ref a1), .val (.long q2), .second] [(.long q2)])) _
          refine XS.aloadN X191.here hx rfl (hb hby d4_95) rfl rfl ?_
          show Steps p.tables e below (T191.setTop (mkF m 96 #[.val (.ref a1), .val (.long q2), .second] [(.ref a1), (.long q2)])) _
          refine st195 _ ?_
          show Steps p.tables e below (T195.setTop (mkF m 99 #[.val (.ref a1), .val (.long q2), .second] [(.long v_min), (.long q2)])) _
          refine XS.lcmp X195.here hx rfl (hb hby d4_99) rfl ?_
          exact kt
        by_cases hc197 : q2 < v_min
        · obtain ⟨T198, X198, e198, st198⟩ := getF X195 hx hZ hown (host := "") (Or.inl (hw _ (List.mem_of_getElem? (i := 26) rfl))) Via.refl e195 fa194 (g := (mkF m 105 #[.val (.ref a1), .val (.long q2), .second] [(.ref a1), (.ref a1)])) rfl rfl (hb hby d4_105)
          have fa199 : Fld Z h191 a1 "com/example/placecard/placecard/TableValues" "aboveMin" "J" (.long v_above) := (F_a1_aboveMin.other W191 (Or.inr (slot_ne (Or.inl (hw _ (List.mem_of_getElem? (i := 32) rfl))) (Or.inl (hw _ (List.mem_of_getElem? (i := 22) rfl))) (by decide) (t := .long) (t' := .int) (by decide) (by decide))))
          have fa200 : Exa Z h191 a1 "com/example/placecard/placecard/TableValues" := (E_a1.wr W191)
          obtain ⟨T201, h201, X201, e201, W201, st201⟩ := putF X198 hx hZ hown (host := "") (Or.inl (hw _ (List.mem_of_getElem? (i := 31) rfl))) Via.refl e198 fa199 fa200 (Or.inl (hw _ (List.mem_of_getElem? (i := 32) rfl))) (hw _ (List.mem_of_getElem? (i := 2) rfl)) (ty := .long) (by decide) rfl rfl (g := (mkF m 108 #[.val (.ref a1), .val (.long q2), .second] [(.long v_min), (.ref a1)])) rfl rfl (hb hby d4_108)
          have Fw201 : Fld Z h201 a1 "com/example/placecard/placecard/TableValues" "aboveMin" "J" (.long v_min) := fa199.same W201
          have zs202 : n0 ≤ h201.size := Nat.le_trans zs192 (Keep.of_wr W201).1
          have kp203 : Keep h0 h201 [a1] := kp193.wr W201 (Or.inl (List.mem_of_getElem? (i := 0) rfl))
          have N201 := Fr.snoc X201 N191 g_a1
          have fa204 : Fld Z h201 a1 "com/example/placecard/placecard/TableValues" "min" "J" (.long v_min) := (fa194.other W201 (Or.inr (slot_ne (Or.inl (hw _ (List.mem_of_getElem? (i := 27) rfl))) (Or.inl (hw _ (List.mem_of_getElem? (i := 32) rfl))) (by decide) (t := .long) (t' := .long) (by decide) (by decide))))
          have fa205 : Exa Z h201 a1 "com/example/placecard/placecard/TableValues" := (fa200.wr W201)
          obtain ⟨T206, h206, X206, e206, W206, st206⟩ := putF X201 hx hZ hown (host := "") (Or.inl (hw _ (List.mem_of_getElem? (i := 26) rfl))) Via.refl e201 fa204 fa205 (Or.inl (hw _ (List.mem_of_getElem? (i := 27) rfl))) (hw _ (List.mem_of_getElem? (i := 2) rfl)) (ty := .long) (by decide) rfl rfl (g := (mkF m 113 #[.val (.ref a1), .val (.long q2), .second] [(.long q2), (.ref a1)])) rfl rfl (hb hby d4_113)
          have Fw206 : Fld Z h206 a1 "com/example/placecard/placecard/TableValues" "min" "J" (.long q2) := fa204.same W206
          have zs207 : n0 ≤ h206.size := Nat.le_trans zs202 (Keep.of_wr W206).1
          have kp208 : Keep h0 h206 [a1] := kp203.wr W206 (Or.inl (List.mem_of_getElem? (i := 0) rfl))
          have N206 := Fr.snoc X206 N201 g_a1
          have fa209 : Fld Z h206 a1 "com/example/placecard/placecard/TableValues" "minCount" "I" (.int v_minc) := (((F_a1_minCount.other W191 (Or.inr (slot_ne (Or.inl (hw _ (List.mem_of_getElem? (i := 29) rfl))) (Or.inl (hw _ (List.mem_of_getElem? (i := 22) rfl))) (by decide) (t := .int) (t' := .int) (by decide) (by decide)))).other W201 (Or.inr (slot_ne (Or.inl (hw _ (List.mem_of_getElem? (i := 29) rfl))) (Or.inl (hw _ (List.mem_of_getElem? (i := 32) rfl))) (by decide) (t := .int) (t' := .long) (by decide) (by decide)))).other W206 (Or.inr (slot_ne (Or.inl (hw _ (List.mem_of_getElem? (i := 29) rfl))) (Or.inl (hw _ (List.mem_of_getElem? (i := 27) rfl))) (by decide) (t := .int) (t' := .long) (by decide) (by decide))))
          have fa210 : Exa Z h206 a1 "com/example/placecard/placecard/TableValues" := (fa205.wr W206)
          obtain ⟨T211, h211, X211, e211, W211, st211⟩ := putF X206 hx hZ hown (host := "") (Or.inl (hw _ (List.mem_of_getElem? (i := 28) rfl))) Via.refl e206 fa209 fa210 (Or.inl (hw _ (List.mem_of_getElem? (i := 29) rfl))) (hw _ (List.mem_of_getElem? (i := 2) rfl)) (ty := .int) (by decide) rfl rfl (g := (mkF m 118 #[.val (.ref a1), .val (.long q2), .second] [(.int (1 : Int32)), (.ref a1)])) rfl rfl (hb hby d4_118)
          have Fw211 : Fld Z h211 a1 "com/example/placecard/placecard/TableValues" "minCount" "I" (.int (1 : Int32)) := fa209.same W211
          have zs212 : n0 ≤ h211.size := Nat.le_trans zs207 (Keep.of_wr W211).1
          have kp213 : Keep h0 h211 [a1] := kp208.wr W211 (Or.inl (List.mem_of_getElem? (i := 0) rfl))
          have N211 := Fr.snoc X211 N206 g_a1
          have fa214 : Fld Z h211 a1 "com/example/placecard/placecard/TableValues" "count" "I" (.int v_count) := ((((F_a1_count.other W191 (Or.inr (slot_ne (Or.inl (hw _ (List.mem_of_getElem? (i := 16) rfl))) (Or.inl (hw _ (List.mem_of_getElem? (i := 22) rfl))) (by decide) (t := .int) (t' := .int) (by decide) (by decide)))).other W201 (Or.inr (slot_ne (Or.inl (hw _ (List.mem_of_getElem? (i := 16) rfl))) (Or.inl (hw _ (List.mem_of_getElem? (i := 32) rfl))) (by decide) (t := .int) (t' := .long) (by decide) (by decide)))).other W206 (Or.inr (slot_ne (Or.inl (hw _ (List.mem_of_getElem? (i := 16) rfl))) (Or.inl (hw _ (List.mem_of_getElem? (i := 27) rfl))) (by decide) (t := .int) (t' := .long) (by decide) (by decide)))).other W211 (Or.inr (slot_ne (Or.inl (hw _ (List.mem_of_getElem? (i := 16) rfl))) (Or.inl (hw _ (List.mem_of_getElem? (i := 29) rfl))) (by decide) (t := .int) (t' := .int) (by decide) (by decide))))
          obtain ⟨T215, X215, e215, st215⟩ := getF X211 hx hZ hown (host := "") (Or.inl (hw _ (List.mem_of_getElem? (i := 15) rfl))) Via.refl e211 fa214 (g := (mkF m 160 #[.val (.ref a1), .val (.long q2), .second] [(.ref a1), (.ref a1)])) rfl rfl (hb hby d4_160)
          have fa216 : Exa Z h211 a1 "com/example/placecard/placecard/TableValues" := (fa210.wr W211)
          obtain ⟨T217, h217, X217, e217, W217, st217⟩ := putF X215 hx hZ hown (host := "") (Or.inl (hw _ (List.mem_of_getElem? (i := 15) rfl))) Via.refl e215 fa214 fa216 (Or.inl (hw _ (List.mem_of_getElem? (i := 16) rfl))) (hw _ (List.mem_of_getElem? (i := 2) rfl)) (ty := .int) (by decide) rfl rfl (g := (mkF m 165 #[.val (.ref a1), .val (.long q2), .second] [(.int (v_count + (1 : Int32))), (.ref a1)])) rfl rfl (hb hby d4_165)
          have Fw217 : Fld Z h217 a1 "com/example/placecard/placecard/TableValues" "count" "I" (.int (v_count + (1 : Int32))) := fa214.same W217
          have zs218 : n0 ≤ h217.size := Nat.le_trans zs212 (Keep.of_wr W217).1
          have kp219 : Keep h0 h217 [a1] := kp213.wr W217 (Or.inl (List.mem_of_getElem? (i := 0) rfl))
          have N217 := Fr.snoc X217 N211 g_a1
          have fa220 : Fld Z h217 a1 "com/example/placecard/placecard/TableValues" "sum" "J" (.long v_sum) := (((((F_a1_sum.other W191 (Or.inr (slot_ne (Or.inl (hw _ (List.mem_of_getElem? (i := 18) rfl))) (Or.inl (hw _ (List.mem_of_getElem? (i := 22) rfl))) (by decide) (t := .long) (t' := .int) (by decide) (by decide)))).other W201 (Or.inr (slot_ne (Or.inl (hw _ (List.mem_of_getElem? (i := 18) rfl))) (Or.inl (hw _ (List.mem_of_getElem? (i := 32) rfl))) (by decide) (t := .long) (t' := .long) (by decide) (by decide)))).other W206 (Or.inr (slot_ne (Or.inl (hw _ (List.mem_of_getElem? (i := 18) rfl))) (Or.inl (hw _ (List.mem_of_getElem? (i := 27) rfl))) (by decide) (t := .long) (t' := .long) (by decide) (by decide)))).other W211 (Or.inr (slot_ne (Or.inl (hw _ (List.mem_of_getElem? (i := 18) rfl))) (Or.inl (hw _ (List.mem_of_getElem? (i := 29) rfl))) (by decide) (t := .long) (t' := .int) (by decide) (by decide)))).other W217 (Or.inr (slot_ne (Or.inl (hw _ (List.mem_of_getElem? (i := 18) rfl))) (Or.inl (hw _ (List.mem_of_getElem? (i := 16) rfl))) (by decide) (t := .long) (t' := .int) (by decide) (by decide))))
          obtain ⟨T221, X221, e221, st221⟩ := getF X217 hx hZ hown (host := "") (Or.inl (hw _ (List.mem_of_getElem? (i := 17) rfl))) Via.refl e217 fa220 (g := (mkF m 170 #[.val (.ref a1), .val (.long q2), .second] [(.ref a1), (.ref a1)])) rfl rfl (hb hby d4_170)
          have fa222 : Exa Z h217 a1 "com/example/placecard/placecard/TableValues" := (fa216.wr W217)
          obtain ⟨T223, h223, X223, e223, W223, st223⟩ := putF X221 hx hZ hown (host := "") (Or.inl (hw _ (List.mem_of_getElem? (i := 17) rfl))) Via.refl e221 fa220 fa222 (Or.inl (hw _ (List.mem_of_getElem? (i := 18) rfl))) (hw _ (List.mem_of_getElem? (i := 2) rfl)) (ty := .long) (by decide) rfl rfl (g := (mkF m 175 #[.val (.ref a1), .val (.long q2), .second] [(.long (v_sum + q2)), (.ref a1)])) rfl rfl (hb hby d4_175)
          have Fw223 : Fld Z h223 a1 "com/example/placecard/placecard/TableValues" "sum" "J" (.long (v_sum + q2)) := fa220.same W223
          have zs224 : n0 ≤ h223.size := Nat.le_trans zs218 (Keep.of_wr W223).1
          have kp225 : Keep h0 h223 [a1] := kp219.wr W223 (Or.inl (List.mem_of_getElem? (i := 0) rfl))
          have N223 := Fr.snoc X223 N217 g_a1
          obtain ⟨fs, hr, hrun, hended, hW, hsame⟩ := X223.leave (v := none) (fun _ => rfl)
          refine ⟨_, _, pre196 _ ?_, hrun, hended, _, _, rfl, ?_, ⟨_, rfl⟩, hW, hsame.mono (by decide) (by decide)⟩
          · show Steps p.tables e below (T195.setTop (mkF m 100 #[.val (.ref a1), .val (.long q2), .second] [(.int (lcmpW q2 v_min))])) _
            refine XS.ifNo X195.here hx rfl (hb hby d4_100) rfl ((if0 _ _).trans (tlt ((lw_lt q2 v_min).mpr hc197)).2.1) ?_
            show Steps p.tables e below (T195.setTop (mkF m 103 #[.val (.ref a1), .val (.long q2), .second] [])) _
            refine XS.aloadN X195.here hx rfl (hb hby d4_103) rfl rfl ?_
            show Steps p.tables e below (T195.setTop (mkF m 104 #[.val (.ref a1), .val (.long q2), .second] [(.ref a1)])) _
            refine XS.aloadN X195.here hx rfl (hb hby d4_104) rfl rfl ?_
            show Steps p.tables e below (T195.setTop (mkF m 105 #[.val (.ref a1), .val (.long q2), .second] [(.ref a1), (.ref a1)])) _
            refine st198 _ ?_
            show Steps p.tables e below (T198.setTop (mkF m 108 #[.val (.ref a1), .val (.long q2), .second] [(.long v_min), (.ref a1)])) _
            refine st201 _ ?_
            show Steps p.tables e below (T201.setTop (mkF m 111 #[.val (.ref a1), .val (.long q2), .second] [])) _
            refine XS.aloadN X201.here hx rfl (hb hby d4_111) rfl rfl ?_
            show Steps p.tables e below (T201.setTop (mkF m 112 #[.val (.ref a1), .val (.long q2), .second] [(.ref a1)])) _
            refine XS.lloadN X201.here hx rfl (hb hby d4_112) rfl ?_
            show Steps p.tables e below (T201.setTop (mkF m 113 #[.val (.ref a1), .val (.long q2), .second] [(.long q2), (.ref a1)])) _
            refine st206 _ ?_
            show Steps p.tables e below (T206.setTop (mkF m 116 #[.val (.ref a1), .val (.long q2), .second] [])) _
            refine XS.aloadN X206.here hx rfl (hb hby d4_116) rfl rfl ?_
            show Steps p.tables e below (T206.setTop (mkF m 117 #[.val (.ref a1), .val (.long q2), .second] [(.ref a1)])) _
            refine XS.iconst X206.here hx rfl (hb hby d4_117) ?_
            show Steps p.tables e below (T206.setTop (mkF m 118 #[.val (.ref a1), .val (.long q2), .second] [(.int (1 : Int32)), (.ref a1)])) _
            refine st211 _ ?_
            show Steps p.tables e below (T211.setTop (mkF m 121 #[.val (.ref a1), .val (.long q2), .second] [])) _
            refine XS.goto X211.here hx rfl (pc0 := 121) (pc' := 158) rfl (hb hby d4_121) (by decide) (by decide) ?_
            show Steps p.tables e below (T211.setTop (mkF m 158 #[.val (.ref a1), .val (.long q2), .second] [])) _
            refine XS.aloadN X211.here hx rfl (hb hby d4_158) rfl rfl ?_
            show Steps p.tables e below (T211.setTop (mkF m 159 #[.val (.ref a1), .val (.long q2), .second] [(.ref a1)])) _
            refine XS.dup X211.here hx rfl (hb hby d4_159) rfl rfl ?_
            show Steps p.tables e below (T211.setTop (mkF m 160 #[.val (.ref a1), .val (.long q2), .second] [(.ref a1), (.ref a1)])) _
            refine st215 _ ?_
            show Steps p.tables e below (T215.setTop (mkF m 163 #[.val (.ref a1), .val (.long q2), .second] [(.int v_count), (.ref a1)])) _
            refine XS.iconst X215.here hx rfl (hb hby d4_163) ?_
            show Steps p.tables e below (T215.setTop (mkF m 164 #[.val (.ref a1), .val (.long q2), .second] [(.int (1 : Int32)), (.int v_count), (.ref a1)])) _
            refine XS.iadd X215.here hx rfl (hb hby d4_164) rfl ?_
            show Steps p.tables e below (T215.setTop (mkF m 165 #[.val (.ref a1), .val (.long q2), .second] [(.int (v_count + (1 : Int32))), (.ref a1)])) _
            refine st217 _ ?_
            show Steps p.tables e below (T217.setTop (mkF m 168 #[.val (.ref a1), .val (.long q2), .second] [])) _
            refine XS.aloadN X217.here hx rfl (hb hby d4_168) rfl rfl ?_
            show Steps p.tables e below (T217.setTop (mkF m 169 #[.val (.ref a1), .val (.long q2), .second] [(.ref a1)])) _
            refine XS.dup X217.here hx rfl (hb hby d4_169) rfl rfl ?_
            show Steps p.tables e below (T217.setTop (mkF m 170 #[.val (.ref a1), .val (.long q2), .second] [(.ref a1), (.ref a1)])) _
            refine st221 _ ?_
            show Steps p.tables e below (T221.setTop (mkF m 173 #[.val (.ref a1), .val (.long q2), .second] [(.long v_sum), (.ref a1)])) _
            refine XS.lloadN X221.here hx rfl (hb hby d4_173) rfl ?_
            show Steps p.tables e below (T221.setTop (mkF m 174 #[.val (.ref a1), .val (.long q2), .second] [(.long q2), (.long v_sum), (.ref a1)])) _
            refine XS.ladd X221.here hx rfl (hb hby d4_174) rfl ?_
            show Steps p.tables e below (T221.setTop (mkF m 175 #[.val (.ref a1), .val (.long q2), .second] [(.long (v_sum + q2)), (.ref a1)])) _
            refine st223 _ ?_
            show Steps p.tables e below (T223.setTop (mkF m 178 #[.val (.ref a1), .val (.long q2), .second] [])) _
            exact X223.returnOut hx Bd.returns (hb hby d4_178) hr
          · show Q4 Z a1 q2 v_count v_sum v_max v_maxc v_below v_min v_minc v_above h0 n0 _ T223.heap _
            rw [e223]
            have fa226 : Exa Z h223 a1 "com/example/placecard/placecard/TableValues" := (fa222.wr W223)
            have fa227 : Fld Z h223 a1 "com/example/placecard/placecard/TableValues" "count" "I" (.int (v_count + (1 : Int32))) := (Fw217.other W223 (Or.inr (slot_ne (Or.inl (hw _ (List.mem_of_getElem? (i := 16) rfl))) (Or.inl (hw _ (List.mem_of_getElem? (i := 18) rfl))) (by decide) (t := .int) (t' := .long) (by decide) (by decide))))
            have lf228 : Fld Z h223 a1 "com/example/placecard/placecard/TableValues" "count" "I" (.int (f4_a1_count q2 v_count v_sum v_max v_maxc v_below v_min v_minc v_above)) := by rw [f4_a1_count, if_neg hc3, if_neg hc52, if_pos hc189, if_pos hc197]; exact fa227
            have lf229 : Fld Z h223 a1 "com/example/placecard/placecard/TableValues" "sum" "J" (.long (f4_a1_sum q2 v_count v_sum v_max v_maxc v_below v_min v_minc v_above)) := by rw [f4_a1_sum, if_neg hc3, if_neg hc52, if_pos hc189, if_pos hc197]; exact Fw223
            have fa230 : Fld Z h223 a1 "com/example/placecard/placecard/TableValues" "max" "J" (.long v_max) := ((((((F_a1_max.other W191 (Or.inr (slot_ne (Or.inl (hw _ (List.mem_of_getElem? (i := 20) rfl))) (Or.inl (hw _ (List.mem_of_getElem? (i := 22) rfl))) (by decide) (t := .long) (t' := .int) (by decide) (by decide)))).other W201 (Or.inr (slot_ne (Or.inl (hw _ (List.mem_of_getElem? (i := 20) rfl))) (Or.inl (hw _ (List.mem_of_getElem? (i := 32) rfl))) (by decide) (t := .long) (t' := .long) (by decide) (by decide)))).other W206 (Or.inr (slot_ne (Or.inl (hw _ (List.mem_of_getElem? (i := 20) rfl))) (Or.inl (hw _ (List.mem_of_getElem? (i := 27) rfl))) (by decide) (t := .long) (t' := .long) (by decide) (by decide)))).other W211 (Or.inr (slot_ne (Or.inl (hw _ (List.mem_of_getElem? (i := 20) rfl))) (Or.inl (hw _ (List.mem_of_getElem? (i := 29) rfl))) (by decide) (t := .long) (t' := .int) (by decide) (by decide)))).other W217 (Or.inr (slot_ne (Or.inl (hw _ (List.mem_of_getElem? (i := 20) rfl))) (Or.inl (hw _ (List.mem_of_getElem? (i := 16) rfl))) (by decide) (t := .long) (t' := .int) (by decide) (by decide)))).other W223 (Or.inr (slot_ne (Or.inl (hw _ (List.mem_of_getElem? (i := 20) rfl))) (Or.inl (hw _ (List.mem_of_getElem? (i := 18) rfl))) (by decide) (t := .long) (t' := .long) (by decide) (by decide))))
            have lf231 : Fld Z h223 a1 "com/example/placecard/placecard/TableValues" "max" "J" (.long (f4_a1_max q2 v_count v_sum v_max v_maxc v_below v_min v_minc v_above)) := by rw [f4_a1_max, if_neg hc3, if_neg hc52, if_pos hc189, if_pos hc197]; exact fa230
            have fa232 : Fld Z h223 a1 "com/example/placecard/placecard/TableValues" "maxCount" "I" (.int (v_maxc + (1 : Int32))) := (((((Fw191.other W201 (Or.inr (slot_ne (Or.inl (hw _ (List.mem_of_getElem? (i := 22) rfl))) (Or.inl (hw _ (List.mem_of_getElem? (i := 32) rfl))) (by decide) (t := .int) (t' := .long) (by decide) (by decide)))).other W206 (Or.inr (slot_ne (Or.inl (hw _ (List.mem_of_getElem? (i := 22) rfl))) (Or.inl (hw _ (List.mem_of_getElem? (i := 27) rfl))) (by decide) (t := .int) (t' := .long) (by decide) (by decide)))).other W211 (Or.inr (slot_ne (Or.inl (hw _ (List.mem_of_getElem? (i := 22) rfl))) (Or.inl (hw _ (List.mem_of_getElem? (i := 29) rfl))) (by decide) (t := .int) (t' := .int) (by decide) (by decide)))).other W217 (Or.inr (slot_ne (Or.inl (hw _ (List.mem_of_getElem? (i := 22) rfl))) (Or.inl (hw _ (List.mem_of_getElem? (i := 16) rfl))) (by decide) (t := .int) (t' := .int) (by decide) (by decide)))).other W223 (Or.inr (slot_ne (Or.inl (hw _ (List.mem_of_getElem? (i := 22) rfl))) (Or.inl (hw _ (List.mem_of_getElem? (i := 18) rfl))) (by decide) (t := .int) (t' := .long) (by decide) (by decide))))
            have lf233 : Fld Z h223 a1 "com/example/placecard/placecard/TableValues" "maxCount" "I" (.int (f4_a1_maxCount q2 v_count v_sum v_max v_maxc v_below v_min v_minc v_above)) := by rw [f4_a1_maxCount, if_neg hc3, if_neg hc52, if_pos hc189, if_pos hc197]; exact fa232
            have fa234 : Fld Z h223 a1 "com/example/placecard/placecard/TableValues" "belowMax" "J" (.long v_below) := ((((((F_a1_belowMax.other W191 (Or.inr (slot_ne (Or.inl (hw _ (List.mem_of_getElem? (i := 25) rfl))) (Or.inl (hw _ (List.mem_of_getElem? (i := 22) rfl))) (by decide) (t := .long) (t' := .int) (by decide) (by decide)))).other W201 (Or.inr (slot_ne (Or.inl (hw _ (List.mem_of_getElem? (i := 25) rfl))) (Or.inl (hw _ (List.mem_of_getElem? (i := 32) rfl))) (by decide) (t := .long) (t' := .long) (by decide) (by decide)))).other W206 (Or.inr (slot_ne (Or.inl (hw _ (List.mem_of_getElem? (i := 25) rfl))) (Or.inl (hw _ (List.mem_of_getElem? (i := 27) rfl))) (by decide) (t := .long) (t' := .long) (by decide) (by decide)))).other W211 (Or.inr (slot_ne (Or.inl (hw _ (List.mem_of_getElem? (i := 25) rfl))) (Or.inl (hw _ (List.mem_of_getElem? (i := 29) rfl))) (by decide) (t := .long) (t' := .int) (by decide) (by decide)))).other W217 (Or.inr (slot_ne (Or.inl (hw _ (List.mem_of_getElem? (i := 25) rfl))) (Or.inl (hw _ (List.mem_of_getElem? (i := 16) rfl))) (by decide) (t := .long) (t' := .int) (by decide) (by decide)))).other W223 (Or.inr (slot_ne (Or.inl (hw _ (List.mem_of_getElem? (i := 25) rfl))) (Or.inl (hw _ (List.mem_of_getElem? (i := 18) rfl))) (by decide) (t := .long) (t' := .long) (by decide) (by decide))))
            have lf235 : Fld Z h223 a1 "com/example/placecard/placecard/TableValues" "belowMax" "J" (.long (f4_a1_belowMax q2 v_count v_sum v_max v_maxc v_below v_min v_minc v_above)) := by rw [f4_a1_belowMax, if_neg hc3, if_neg hc52, if_pos hc189, if_pos hc197]; exact fa234
            have fa236 : Fld Z h223 a1 "com/example/placecard/placecard/TableValues" "min" "J" (.long q2) := (((Fw206.other W211 (Or.inr (slot_ne (Or.inl (hw _ (List.mem_of_getElem? (i := 27) rfl))) (Or.inl (hw _ (List.mem_of_getElem? (i := 29) rfl))) (by decide) (t := .long) (t' := .int) (by decide) (by decide)))).other W217 (Or.inr (slot_ne (Or.inl (hw _ (List.mem_of_getElem? (i := 27) rfl))) (Or.inl (hw _ (List.mem_of_getElem? (i := 16) rfl))) (by decide) (t := .long) (t' := .int) (by decide) (by decide)))).other W223 (Or.inr (slot_ne (Or.inl (hw _ (List.mem_of_getElem? (i := 27) rfl))) (Or.inl (hw _ (List.mem_of_getElem? (i := 18) rfl))) (by decide) (t := .long) (t' := .long) (by decide) (by decide))))
            have lf237 : Fld Z h223 a1 "com/example/placecard/placecard/TableValues" "min" "J" (.long (f4_a1_min q2 v_count v_sum v_max v_maxc v_below v_min v_minc v_above)) := by rw [f4_a1_min, if_neg hc3, if_neg hc52, if_pos hc189, if_pos hc197]; exact fa236
            have fa238 : Fld Z h223 a1 "com/example/placecard/placecard/TableValues" "minCount" "I" (.int (1 : Int32)) := ((Fw211.other W217 (Or.inr (slot_ne (Or.inl (hw _ (List.mem_of_getElem? (i := 29) rfl))) (Or.inl (hw _ (List.mem_of_getElem? (i := 16) rfl))) (by decide) (t := .int) (t' := .int) (by decide) (by decide)))).other W223 (Or.inr (slot_ne (Or.inl (hw _ (List.mem_of_getElem? (i := 29) rfl))) (Or.inl (hw _ (List.mem_of_getElem? (i := 18) rfl))) (by decide) (t := .int) (t' := .long) (by decide) (by decide))))
            have lf239 : Fld Z h223 a1 "com/example/placecard/placecard/TableValues" "minCount" "I" (.int (f4_a1_minCount q2 v_count v_sum v_max v_maxc v_below v_min v_minc v_above)) := by rw [f4_a1_minCount, if_neg hc3, if_neg hc52, if_pos hc189, if_pos hc197]; exact fa238
            have fa240 : Fld Z h223 a1 "com/example/placecard/placecard/TableValues" "aboveMin" "J" (.long v_min) := ((((Fw201.other W206 (Or.inr (slot_ne (Or.inl (hw _ (List.mem_of_getElem? (i := 32) rfl))) (Or.inl (hw _ (List.mem_of_getElem? (i := 27) rfl))) (by decide) (t := .long) (t' := .long) (by decide) (by decide)))).other W211 (Or.inr (slot_ne (Or.inl (hw _ (List.mem_of_getElem? (i := 32) rfl))) (Or.inl (hw _ (List.mem_of_getElem? (i := 29) rfl))) (by decide) (t := .long) (t' := .int) (by decide) (by decide)))).other W217 (Or.inr (slot_ne (Or.inl (hw _ (List.mem_of_getElem? (i := 32) rfl))) (Or.inl (hw _ (List.mem_of_getElem? (i := 16) rfl))) (by decide) (t := .long) (t' := .int) (by decide) (by decide)))).other W223 (Or.inr (slot_ne (Or.inl (hw _ (List.mem_of_getElem? (i := 32) rfl))) (Or.inl (hw _ (List.mem_of_getElem? (i := 18) rfl))) (by decide) (t := .long) (t' := .long) (by decide) (by decide))))
            have lf241 : Fld Z h223 a1 "com/example/placecard/placecard/TableValues" "aboveMin" "J" (.long (f4_a1_aboveMin q2 v_count v_sum v_max v_maxc v_below v_min v_minc v_above)) := by rw [f4_a1_aboveMin, if_neg hc3, if_neg hc52, if_pos hc189, if_pos hc197]; exact fa240
            exact ⟨rfl, N223, kp225, fa226, lf228, lf229, lf231, lf233, lf235, lf237, lf239, lf241⟩
        · obtain ⟨T242, X242, e242, st242⟩ := getF X195 hx hZ hown (host := "") (Or.inl (hw _ (List.mem_of_getElem? (i := 26) rfl))) Via.refl e195 fa194 (g := (mkF m 126 #[.val (.ref a1), .val (.long q2), .second] [(.ref a1), (.long q2)])) rfl rfl (hb hby d4_126)
          have pre243 : ∀ t, Steps p.tables e below (T242.setTop (mkF m 130 #[.val (.ref a1), .val (.long q2), .second] [(.int (lcmpW q2 v_min))])) t → Steps p.tables e below (s₁.setTop (entryFrame m #[(.ref a1), (.long q2)] 3)) t := fun t kt => by
            refine pre196 _ ?_
            show Steps p.tables e below (T195.setTop (mkF m 100 #[.val (.ref a1), .val (.long q2), .second] [(.int (lcmpW q2 v_min))])) _
            refine XS.ifYes X195.here hx rfl (pc0 := 100) (pc' := 124) rfl (hb hby d4_100) rfl ((if0 _ _).trans (flt (mt (lw_lt q2 v_min).mp hc197)).2.1) (by decide) (by decide) ?_
            show Steps p.tables e below (T195.setTop (mkF m 124 #[.val (.ref a1), .val (.long q2), .second] [])) _
            refine XS.lloadN X195.here hx rfl (hb hby d4_124) rfl ?_
            show Steps p.tables e below (T195.setTop (mkF m 125 #[.val (.ref a1), .val (.long q2), .second] [(.long q2)])) _
            refine XS.aloadN X195.here hx rfl (hb hby d4_125) rfl rfl ?_
            show Steps p.tables e below (T195.setTop (mkF m 126 #[.val (.ref a1), .val (.long q2), .second] [(.ref a1), (.long q2)])) _
            refine st242 _ ?_
            show Steps p.tables e below (T242.setTop (mkF m 129 #[.val (.ref a1), .val (.long q2), .second] [(.long v_min), (.long q2)])) _
            refine XS.lcmp X242.here hx rfl (hb hby d4_129) rfl ?_
            exact kt
          by_cases hc244 : q2 = v_min
          · have fa245 : Fld Z h191 a1 "com/example/placecard/placecard/TableValues" "minCount" "I" (.int v_minc) := (F_a1_minCount.other W191 (Or.inr (slot_ne (Or.inl (hw _ (List.mem_of_getElem? (i := 29) rfl))) (Or.inl (hw _ (List.mem_of_getElem? (i := 22) rfl))) (by decide) (t := .int) (t' := .int) (by decide) (by decide))))
            obtain ⟨T246, X246, e246, st246⟩ := getF X242 hx hZ hown (host := "") (Or.inl (hw _ (List.mem_of_getElem? (i := 28) rfl))) Via.refl e242 fa245 (g := (mkF m 135 #[.val (.ref a1), .val (.long q2), .second] [(.ref a1), (.ref a1)])) rfl rfl (hb hby d4_135)
            have fa247 : Exa Z h191 a1 "com/example/placecard/placecard/TableValues" := (E_a1.wr W191)
            obtain ⟨T248, h248, X248, e248, W248, st248⟩ := putF X246 hx hZ hown (host := "") (Or.inl (hw _ (List.mem_of_getElem? (i := 28) rfl))) Via.refl e246 fa245 fa247 (Or.inl (hw _ (List.mem_of_getElem? (i := 29) rfl))) (hw _ (List.mem_of_getElem? (i := 2) rfl)) (ty := .int) (by decide) rfl rfl (g := (mkF m 140 #[.val (.ref a1), .val (.long q2), .second] [(.int (v_minc + (1 : Int32))), (.ref a1)])) rfl rfl (hb hby d4_140)
            have Fw248 : Fld Z h248 a1 "com/example/placecard/placecard/TableValues" "minCount" "I" (.int (v_minc + (1 : Int32))) := fa245.same W248
            have zs249 : n0 ≤ h248.size := Nat.le_trans zs192 (Keep.of_wr W248).1
            have kp250 : Keep h0 h248 [a1] := kp193.wr W248 (Or.inl (List.mem_of_getElem? (i := 0) rfl))
            have N248 := Fr.snoc X248 N191 g_a1
            have fa251 : Fld Z h248 a1 "com/example/placecard/placecard/TableValues" "count" "I" (.int v_count) := ((F_a1_count.other W191 (Or.inr (slot_ne (Or.inl (hw _ (List.mem_of_getElem? (i := 16) rfl))) (Or.inl (hw _ (List.mem_of_getElem? (i := 22) rfl))) (by decide) (t := .int) (t' := .int) (by decide) (by decide)))).other W248 (Or.inr (slot_ne (Or.inl (hw _ (List.mem_of_getElem? (i := 16) rfl))) (Or.inl (hw _ (List.mem_of_getElem? (i := 29) rfl))) (by decide) (t := .int) (t' := .int) (by decide) (by decide))))
            obtain ⟨T252, X252, e252, st252⟩ := getF X248 hx hZ hown (host := "") (Or.inl (hw _ (List.mem_of_getElem? (i := 15) rfl))) Via.refl e248 fa251 (g := (mkF m 160 #[.val (.ref a1), .val (.long q2), .second] [(.ref a1), (.ref a1)])) rfl rfl (hb hby d4_160)
            have fa253 : Exa Z h248 a1 "com/example/placecard/placecard/TableValues" := (fa247.wr W248)
            obtain ⟨T254, h254, X254, e254, W254, st254⟩ := putF X252 hx hZ hown (host := "") (Or.inl (hw _ (List.mem_of_getElem? (i := 15) rfl))) Via.refl e252 fa251 fa253 (Or.inl (hw _ (List.mem_of_getElem? (i := 16) rfl))) (hw _ (List.mem_of_getElem? (i := 2) rfl)) (ty := .int) (by decide) rfl rfl (g := (mkF m 165 #[.val (.ref a1), .val (.long q2), .second] [(.int (v_count + (1 : Int32))), (.ref a1)])) rfl rfl (hb hby d4_165)
            have Fw254 : Fld Z h254 a1 "com/example/placecard/placecard/TableValues" "count" "I" (.int (v_count + (1 : Int32))) := fa251.same W254
            have zs255 : n0 ≤ h254.size := Nat.le_trans zs249 (Keep.of_wr W254).1
            have kp256 : Keep h0 h254 [a1] := kp250.wr W254 (Or.inl (List.mem_of_getElem? (i := 0) rfl))
            have N254 := Fr.snoc X254 N248 g_a1
            have fa257 : Fld Z h254 a1 "com/example/placecard/placecard/TableValues" "sum" "J" (.long v_sum) := (((F_a1_sum.other W191 (Or.inr (slot_ne (Or.inl (hw _ (List.mem_of_getElem? (i := 18) rfl))) (Or.inl (hw _ (List.mem_of_getElem? (i := 22) rfl))) (by decide) (t := .long) (t' := .int) (by decide) (by decide)))).other W248 (Or.inr (slot_ne (Or.inl (hw _ (List.mem_of_getElem? (i := 18) rfl))) (Or.inl (hw _ (List.mem_of_getElem? (i := 29) rfl))) (by decide) (t := .long) (t' := .int) (by decide) (by decide)))).other W254 (Or.inr (slot_ne (Or.inl (hw _ (List.mem_of_getElem? (i := 18) rfl))) (Or.inl (hw _ (List.mem_of_getElem? (i := 16) rfl))) (by decide) (t := .long) (t' := .int) (by decide) (by decide))))
            obtain ⟨T258, X258, e258, st258⟩ := getF X254 hx hZ hown (host := "") (Or.inl (hw _ (List.mem_of_getElem? (i := 17) rfl))) Via.refl e254 fa257 (g := (mkF m 170 #[.val (.ref a1), .val (.long q2), .second] [(.ref a1), (.ref a1)])) rfl rfl (hb hby d4_170)
            have fa259 : Exa Z h254 a1 "com/example/placecard/placecard/TableValues" := (fa253.wr W254)
            obtain ⟨T260, h260, X260, e260, W260, st260⟩ := putF X258 hx hZ hown (host := "") (Or.inl (hw _ (List.mem_of_getElem? (i := 17) rfl))) Via.refl e258 fa257 fa259 (Or.inl (hw _ (List.mem_of_getElem? (i := 18) rfl))) (hw _ (List.mem_of_getElem? (i := 2) rfl)) (ty := .long) (by decide) rfl rfl (g := (mkF m 175 #[.val (.ref a1), .val (.long q2), .second] [(.long (v_sum + q2)), (.ref a1)])) rfl rfl (hb hby d4_175)
            have Fw260 : Fld Z h260 a1 "com/example/placecard/placecard/TableValues" "sum" "J" (.long (v_sum + q2)) := fa257.same W260
            have zs261 : n0 ≤ h260.size := Nat.le_trans zs255 (Keep.of_wr W260).1
            have kp262 : Keep h0 h260 [a1] := kp256.wr W260 (Or.inl (List.mem_of_getElem? (i := 0) rfl))
            have N260 := Fr.snoc X260 N254 g_a1
            obtain ⟨fs, hr, hrun, hended, hW, hsame⟩ := X260.leave (v := none) (fun _ => rfl)
            refine ⟨_, _, pre243 _ ?_, hrun, hended, _, _, rfl, ?_, ⟨_, rfl⟩, hW, hsame.mono (by decide) (by decide)⟩
            · show Steps p.tables e below (T242.setTop (mkF m 130 #[.val (.ref a1), .val (.long q2), .second] [(.int (lcmpW q2 v_min))])) _
              refine XS.ifNo X242.here hx rfl (hb hby d4_130) rfl ((if0 _ _).trans (teq ((lw_eq q2 v_min).mpr hc244)).2) ?_
              show Steps p.tables e below (T242.setTop (mkF m 133 #[.val (.ref a1), .val (.long q2), .second] [])) _
              refine XS.aloadN X242.here hx rfl (hb hby d4_133) rfl rfl ?_
              show Steps p.tables e below (T242.setTop (mkF m 134 #[.val (.ref a1), .val (.long q2), .second] [(.ref a1)])) _
              refine XS.dup X242.here hx rfl (hb hby d4_134) rfl rfl ?_
              show Steps p.tables e below (T242.setTop (mkF m 135 #[.val (.ref a1), .val (.long q2), .second] [(.ref a1), (.ref a1)])) _
              refine st246 _ ?_
              show Steps p.tables e below (T246.setTop (mkF m 138 #[.val (.ref a1), .val (.long q2), .second] [(.int v_minc), (.ref a1)])) _
              refine XS.iconst X246.here hx rfl (hb hby d4_138) ?_
              show Steps p.tables e below (T246.setTop (mkF m 139 #[.val (.ref a1), .val (.long q2), .second] [(.int (1 : Int32)), (.int v_minc), (.ref a1)])) _
              refine XS.iadd X246.here hx rfl (hb hby d4_139) rfl ?_
              show Steps p.tables e below (T246.setTop (mkF m 140 #[.val (.ref a1), .val (.long q2), .second] [(.int (v_minc + (1 : Int32))), (.ref a1)])) _
              refine st248 _ ?_
              show Steps p.tables e below (T248.setTop (mkF m 143 #[.val (.ref a1), .val (.long q2), .second] [])) _
              refine XS.goto X248.here hx rfl (pc0 := 143) (pc' := 158) rfl (hb hby d4_143) (by decide) (by decide) ?_
              show Steps p.tables e below (T248.setTop (mkF m 158 #[.val (.ref a1), .val (.long q2), .second] [])) _
              refine XS.aloadN X248.here hx rfl (hb hby d4_158) rfl rfl ?_
              show Steps p.tables e below (T248.setTop (mkF m 159 #[.val (.ref a1), .val (.long q2), .second] [(.ref a1)])) _
              refine XS.dup X248.here hx rfl (hb hby d4_159) rfl rfl ?_
              show Steps p.tables e below (T248.setTop (mkF m 160 #[.val (.ref a1), .val (.long q2), .second] [(.ref a1), (.ref a1)])) _
              refine st252 _ ?_
              show Steps p.tables e below (T252.setTop (mkF m 163 #[.val (.ref a1), .val (.long q2), .second] [(.int v_count), (.ref a1)])) _
              refine XS.iconst X252.here hx rfl (hb hby d4_163) ?_
              show Steps p.tables e below (T252.setTop (mkF m 164 #[.val (.ref a1), .val (.long q2), .second] [(.int (1 : Int32)), (.int v_count), (.ref a1)])) _
              refine XS.iadd X252.here hx rfl (hb hby d4_164) rfl ?_
              show Steps p.tables e below (T252.setTop (mkF m 165 #[.val (.ref a1), .val (.long q2), .second] [(.int (v_count + (1 : Int32))), (.ref a1)])) _
              refine st254 _ ?_
              show Steps p.tables e below (T254.setTop (mkF m 168 #[.val (.ref a1), .val (.long q2), .second] [])) _
              refine XS.aloadN X254.here hx rfl (hb hby d4_168) rfl rfl ?_
              show Steps p.tables e below (T254.setTop (mkF m 169 #[.val (.ref a1), .val (.long q2), .second] [(.ref a1)])) _
              refine XS.dup X254.here hx rfl (hb hby d4_169) rfl rfl ?_
              show Steps p.tables e below (T254.setTop (mkF m 170 #[.val (.ref a1), .val (.long q2), .second] [(.ref a1), (.ref a1)])) _
              refine st258 _ ?_
              show Steps p.tables e below (T258.setTop (mkF m 173 #[.val (.ref a1), .val (.long q2), .second] [(.long v_sum), (.ref a1)])) _
              refine XS.lloadN X258.here hx rfl (hb hby d4_173) rfl ?_
              show Steps p.tables e below (T258.setTop (mkF m 174 #[.val (.ref a1), .val (.long q2), .second] [(.long q2), (.long v_sum), (.ref a1)])) _
              refine XS.ladd X258.here hx rfl (hb hby d4_174) rfl ?_
              show Steps p.tables e below (T258.setTop (mkF m 175 #[.val (.ref a1), .val (.long q2), .second] [(.long (v_sum + q2)), (.ref a1)])) _
              refine st260 _ ?_
              show Steps p.tables e below (T260.setTop (mkF m 178 #[.val (.ref a1), .val (.long q2), .second] [])) _
              exact X260.returnOut hx Bd.returns (hb hby d4_178) hr
            · show Q4 Z a1 q2 v_count v_sum v_max v_maxc v_below v_min v_minc v_above h0 n0 _ T260.heap _
              rw [e260]
              have fa263 : Exa Z h260 a1 "com/example/placecard/placecard/TableValues" := (fa259.wr W260)
              have fa264 : Fld Z h260 a1 "com/example/placecard/placecard/TableValues" "count" "I" (.int (v_count + (1 : Int32))) := (Fw254.other W260 (Or.inr (slot_ne (Or.inl (hw _ (List.mem_of_getElem? (i := 16) rfl))) (Or.inl (hw _ (List.mem_of_getElem? (i := 18) rfl))) (by decide) (t := .int) (t' := .long) (by decide) (by decide))))
              have lf265 : Fld Z h260 a1 "com/example/placecard/placecard/TableValues" "count" "I" (.int (f4_a1_count q2 v_count v_sum v_max v_maxc v_below v_min v_minc v_above)) := by rw [f4_a1_count, if_neg hc3, if_neg hc52, if_pos hc189, if_neg hc197, if_pos hc244]; exact fa264
              have lf266 : Fld Z h260 a1 "com/example/placecard/placecard/TableValues" "sum" "J" (.long (f4_a1_sum q2 v_count v_sum v_max v_maxc v_below v_min v_minc v_above)) := by rw [f4_a1_sum, if_neg hc3, if_neg hc52, if_pos hc189, if_neg hc197, if_pos hc244]; exact Fw260
              have fa267 : Fld Z h260 a1 "com/example/placecard/placecard/TableValues" "max" "J" (.long v_max) := ((((F_a1_max.other W191 (Or.inr (slot_ne (Or.inl (hw _ (List.mem_of_getElem? (i := 20) rfl))) (Or.inl (hw _ (List.mem_of_getElem? (i := 22) rfl))) (by decide) (t := .long) (t' := .int) (by decide) (by decide)))).other W248 (Or.inr (slot_ne (Or.inl (hw _ (List.mem_of_getElem? (i := 20) rfl))) (Or.inl (hw _ (List.mem_of_getElem? (i := 29) rfl))) (by decide) (t := .long) (t' := .int) (by decide) (by decide)))).other W254 (Or.inr (slot_ne (Or.inl (hw _ (List.mem_of_getElem? (i := 20) rfl))) (Or.inl (hw _ (List.mem_of_getElem? (i := 16) rfl))) (by decide) (t := .long) (t' := .int) (by decide) (by decide)))).other W260 (Or.inr (slot_ne (Or.inl (hw _ (List.mem_of_getElem? (i := 20) rfl))) (Or.inl (hw _ (List.mem_of_getElem? (i := 18) rfl))) (by decide) (t := .long) (t' := .long) (by decide) (by decide))))
              have lf268 : Fld Z h260 a1 "com/example/placecard/placecard/TableValues" "max" "J" (.long (f4_a1_max q2 v_count v_sum v_max v_maxc v_below v_min v_minc v_above)) := by rw [f4_a1_max, if_neg hc3, if_neg hc52, if_pos hc189, if_neg hc197, if_pos hc244]; exact fa267
              have fa269 : Fld Z h260 a1 "com/example/placecard/placecard/TableValues" "maxCount" "I" (.int (v_maxc + (1 : Int32))) := (((Fw191.other W248 (Or.inr (slot_ne (Or.inl (hw _ (List.mem_of_getElem? (i := 22) rfl))) (Or.inl (hw _ (List.mem_of_getElem? (i := 29) rfl))) (by decide) (t := .int) (t' := .int) (by decide) (by decide)))).other W254 (Or.inr (slot_ne (Or.inl (hw _ (List.mem_of_getElem? (i := 22) rfl))) (Or.inl (hw _ (List.mem_of_getElem? (i := 16) rfl))) (by decide) (t := .int) (t' := .int) (by decide) (by decide)))).other W260 (Or.inr (slot_ne (Or.inl (hw _ (List.mem_of_getElem? (i := 22) rfl))) (Or.inl (hw _ (List.mem_of_getElem? (i := 18) rfl))) (by decide) (t := .int) (t' := .long) (by decide) (by decide))))
              have lf270 : Fld Z h260 a1 "com/example/placecard/placecard/TableValues" "maxCount" "I" (.int (f4_a1_maxCount q2 v_count v_sum v_max v_maxc v_below v_min v_minc v_above)) := by rw [f4_a1_maxCount, if_neg hc3, if_neg hc52, if_pos hc189, if_neg hc197, if_pos hc244]; exact fa269
              have fa271 : Fld Z h260 a1 "com/example/placecard/placecard/TableValues" "belowMax" "J" (.long v_below) := ((((F_a1_belowMax.other W191 (Or.inr (slot_ne (Or.inl (hw _ (List.mem_of_getElem? (i := 25) rfl))) (Or.inl (hw _ (List.mem_of_getElem? (i := 22) rfl))) (by decide) (t := .long) (t' := .int) (by decide) (by decide)))).other W248 (Or.inr (slot_ne (Or.inl (hw _ (List.mem_of_getElem? (i := 25) rfl))) (Or.inl (hw _ (List.mem_of_getElem? (i := 29) rfl))) (by decide) (t := .long) (t' := .int) (by decide) (by decide)))).other W254 (Or.inr (slot_ne (Or.inl (hw _ (List.mem_of_getElem? (i := 25) rfl))) (Or.inl (hw _ (List.mem_of_getElem? (i := 16) rfl))) (by decide) (t := .long) (t' := .int) (by decide) (by decide)))).other W260 (Or.inr (slot_ne (Or.inl (hw _ (List.mem_of_getElem? (i := 25) rfl))) (Or.inl (hw _ (List.mem_of_getElem? (i := 18) rfl))) (by decide) (t := .long) (t' := .long) (by decide) (by decide))))
              have lf272 : Fld Z h260 a1 "com/example/placecard/placecard/TableValues" "belowMax" "J" (.long (f4_a1_belowMax q2 v_count v_sum v_max v_maxc v_below v_min v_minc v_above)) := by rw [f4_a1_belowMax, if_neg hc3, if_neg hc52, if_pos hc189, if_neg hc197, if_pos hc244]; exact fa271
              have fa273 : Fld Z h260 a1 "com/example/placecard/placecard/TableValues" "min" "J" (.long v_min) := (((fa194.other W248 (Or.inr (slot_ne (Or.inl (hw _ (List.mem_of_getElem? (i := 27) rfl))) (Or.inl (hw _ (List.mem_of_getElem? (i := 29) rfl))) (by decide) (t := .long) (t' := .int) (by decide) (by decide)))).other W254 (Or.inr (slot_ne (Or.inl (hw _ (List.mem_of_getElem? (i := 27) rfl))) (Or.inl (hw _ (List.mem_of_getElem? (i := 16) rfl))) (by decide) (t := .long) (t' := .int) (by decide) (by decide)))).other W260 (Or.inr (slot_ne (Or.inl (hw _ (List.mem_of_getElem? (i := 27) rfl))) (Or.inl (hw _ (List.mem_of_getElem? (i := 18) rfl))) (by decide) (t := .long) (t' := .long) (by decide) (by decide))))
              have lf274 : Fld Z h260 a1 "com/example/placecard/placecard/TableValues" "min" "J" (.long (f4_a1_min q2 v_count v_sum v_max v_maxc v_below v_min v_minc v_above)) := by rw [f4_a1_min, if_neg hc3, if_neg hc52, if_pos hc189, if_neg hc197, if_pos hc244]; exact fa273
              have fa275 : Fld Z h260 a1 "com/example/placecard/placecard/TableValues" "minCount" "I" (.int (v_minc + (1 : Int32))) := ((Fw248.other W254 (Or.inr (slot_ne (Or.inl (hw _ (List.mem_of_getElem? (i := 29) rfl))) (Or.inl (hw _ (List.mem_of_getElem? (i := 16) rfl))) (by decide) (t := .int) (t' := .int) (by decide) (by decide)))).other W260 (Or.inr (slot_ne (Or.inl (hw _ (List.mem_of_getElem? (i := 29) rfl))) (Or.inl (hw _ (List.mem_of_getElem? (i := 18) rfl))) (by decide) (t := .int) (t' := .long) (by decide) (by decide))))
              have lf276 : Fld Z h260 a1 "com/example/placecard/placecard/TableValues" "minCount" "I" (.int (f4_a1_minCount q2 v_count v_sum v_max v_maxc v_below v_min v_minc v_above)) := by rw [f4_a1_minCount, if_neg hc3, if_neg hc52, if_pos hc189, if_neg hc197, if_pos hc244]; exact fa275
              have fa277 : Fld Z h260 a1 "com/example/placecard/placecard/TableValues" "aboveMin" "J" (.long v_above) := ((((F_a1_aboveMin.other W191 (Or.inr (slot_ne (Or.inl (hw _ (List.mem_of_getElem? (i := 32) rfl))) (Or.inl (hw _ (List.mem_of_getElem? (i := 22) rfl))) (by decide) (t := .long) (t' := .int) (by decide) (by decide)))).other W248 (Or.inr (slot_ne (Or.inl (hw _ (List.mem_of_getElem? (i := 32) rfl))) (Or.inl (hw _ (List.mem_of_getElem? (i := 29) rfl))) (by decide) (t := .long) (t' := .int) (by decide) (by decide)))).other W254 (Or.inr (slot_ne (Or.inl (hw _ (List.mem_of_getElem? (i := 32) rfl))) (Or.inl (hw _ (List.mem_of_getElem? (i := 16) rfl))) (by decide) (t := .long) (t' := .int) (by decide) (by decide)))).other W260 (Or.inr (slot_ne (Or.inl (hw _ (List.mem_of_getElem? (i := 32) rfl))) (Or.inl (hw _ (List.mem_of_getElem? (i := 18) rfl))) (by decide) (t := .long) (t' := .long) (by decide) (by decide))))
              have lf278 : Fld Z h260 a1 "com/example/placecard/placecard/TableValues" "aboveMin" "J" (.long (f4_a1_aboveMin q2 v_count v_sum v_max v_maxc v_below v_min v_minc v_above)) := by rw [f4_a1_aboveMin, if_neg hc3, if_neg hc52, if_pos hc189, if_neg hc197, if_pos hc244]; exact fa277
              exact ⟨rfl, N260, kp262, fa263, lf265, lf266, lf268, lf270, lf272, lf274, lf276, lf278⟩
          · have fa279 : Fld Z h191 a1 "com/example/placecard/placecard/TableValues" "aboveMin" "J" (.long v_above) := (F_a1_aboveMin.other W191 (Or.inr (slot_ne (Or.inl (hw _ (List.mem_of_getElem? (i := 32) rfl))) (Or.inl (hw _ (List.mem_of_getElem? (i := 22) rfl))) (by decide) (t := .long) (t' := .int) (by decide) (by decide))))
            obtain ⟨T280, X280, e280, st280⟩ := getF X242 hx hZ hown (host := "") (Or.inl (hw _ (List.mem_of_getElem? (i := 31) rfl))) Via.refl e242 fa279 (g := (mkF m 148 #[.val (.ref a1), .val (.long q2), .second] [(.ref a1), (.ref a1)])) rfl rfl (hb hby d4_148)
            obtain ⟨_, _, ⟨T281, L281, k281, n281⟩, -, X281, ⟨Lc281, hQ281, lz281, yz281, zz281⟩, st281⟩ := Jvm.LawKit.callS X280 hx (y := (⟨"java/lang/Math", "min", "(JJ)J"⟩ : MethodName)) hown (mvT hZ (hw _ (List.mem_of_getElem? (i := 47) rfl))) (mvT hZ (hw _ (List.mem_of_getElem? (i := 48) rfl))) (mvT hZ (hw _ (List.mem_of_getElem? (i := 40) rfl))) (mvT hZ (hw _ (List.mem_of_getElem? (i := 49) rfl))) (by decide) (backOf (W := 1) (rm7 l Z a0 hw [] v_above q2 h191 n0 zs192 ) hZ (hw _ (List.mem_of_getElem? (i := 49) rfl)) (hw _ (List.mem_of_getElem? (i := 40) rfl)) (by decide) (by decide)) (g := (mkF m 152 #[.val (.ref a1), .val (.long q2), .second] [(.long q2), (.long v_above), (.ref a1)])) rfl (by rw [hml]; rfl) (argsL := [(.long v_above), (.long q2)]) (rest := [(.ref a1)]) (lenOf pd_4_2 rfl) rfl (by show 2 * 0 + _ ≤ _; exact Nat.le_of_eq rfl) (hb hby d4_152) (fun _ _ => ⟨rfl, e280, (by decide : 0 + 0 ≤ _), (by decide : 0 + 0 ≤ _)⟩)
            dsimp only [Pt.U, Pt.locs, Pt.cells, Pt.slots] at X281 lz281 yz281 zz281 st281 hQ281
            subst lz281 yz281 zz281
            obtain ⟨rfl, N281q, e281⟩ := hQ281
            have N281 := Fr.app N191 N281q
            have fa282 : Exa Z h191 a1 "com/example/placecard/placecard/TableValues" := (E_a1.wr W191)
            obtain ⟨T283, h283, X283, e283, W283, st283⟩ := putF X281 hx hZ hown (host := "") (Or.inl (hw _ (List.mem_of_getElem? (i := 31) rfl))) Via.refl e281 fa279 fa282 (Or.inl (hw _ (List.mem_of_getElem? (i := 32) rfl))) (hw _ (List.mem_of_getElem? (i := 2) rfl)) (ty := .long) (by decide) rfl rfl (g := (mkF m 155 #[.val (.ref a1), .val (.long q2), .second] [(.long (f7 v_above q2)), (.ref a1)])) rfl rfl (hb hby d4_155)
            have Fw283 : Fld Z h283 a1 "com/example/placecard/placecard/TableValues" "aboveMin" "J" (.long (f7 v_above q2)) := fa279.same W283
            have zs284 : n0 ≤ h283.size := Nat.le_trans zs192 (Keep.of_wr W283).1
            have kp285 : Keep h0 h283 [a1] := kp193.wr W283 (Or.inl (List.mem_of_getElem? (i := 0) rfl))
            have N283 := Fr.snoc X283 N281 g_a1
            have fa286 : Fld Z h283 a1 "com/example/placecard/placecard/TableValues" "count" "I" (.int v_count) := ((F_a1_count.other W191 (Or.inr (slot_ne (Or.inl (hw _ (List.mem_of_getElem? (i := 16) rfl))) (Or.inl (hw _ (List.mem_of_getElem? (i := 22) rfl))) (by decide) (t := .int) (t' := .int) (by decide) (by decide)))).other W283 (Or.inr (slot_ne (Or.inl (hw _ (List.mem_of_getElem? (i := 16) rfl))) (Or.inl (hw _ (List.mem_of_getElem? (i := 32) rfl))) (by decide) (t := .int) (t' := .long) (by decide) (by decide))))
            obtain ⟨T287, X287, e287, st287⟩ := getF X283 hx hZ hown (host := "") (Or.inl (hw _ (List.mem_of_getElem? (i := 15) rfl))) Via.refl e283 fa286 (g := (mkF m 160 #[.val (.ref a1), .val (.long q2), .second] [(.ref a1), (.ref a1)])) rfl rfl (hb hby d4_160)
            have fa288 : Exa Z h283 a1 "com/example/placecard/placecard/TableValues" := (fa282.wr W283)
            obtain ⟨T289, h289, X289, e289, W289, st289⟩ := putF X287 hx hZ hown (host := "") (Or.inl (hw _ (List.mem_of_getElem? (i := 15) rfl))) Via.refl e287 fa286 fa288 (Or.inl (hw _ (List.mem_of_getElem? (i := 16) rfl))) (hw _ (List.mem_of_getElem? (i := 2) rfl)) (ty := .int) (by decide) rfl rfl (g := (mkF m 165 #[.val (.ref a1), .val (.long q2), .second] [(.int (v_count + (1 : Int32))), (.ref a1)])) rfl rfl (hb hby d4_165)
            have Fw289 : Fld Z h289 a1 "com/example/placecard/placecard/TableValues" "count" "I" (.int (v_count + (1 : Int32))) := fa286.same W289
            have zs290 : n0 ≤ h289.size := Nat.le_trans zs284 (Keep.of_wr W289).1
            have kp291 : Keep h0 h289 [a1] := kp285.wr W289 (Or.inl (List.mem_of_getElem? (i := 0) rfl))
            have N289 := Fr.snoc X289 N283 g_a1
            have fa292 : Fld Z h289 a1 "com/example/placecard/placecard/TableValues" "sum" "J" (.long v_sum) := (((F_a1_sum.other W191 (Or.inr (slot_ne (Or.inl (hw _ (List.mem_of_getElem? (i := 18) rfl))) (Or.inl (hw _ (List.mem_of_getElem? (i := 22) rfl))) (by decide) (t := .long) (t' := .int) (by decide) (by decide)))).other W283 (Or.inr (slot_ne (Or.inl (hw _ (List.mem_of_getElem? (i := 18) rfl))) (Or.inl (hw _ (List.mem_of_getElem? (i := 32) rfl))) (by decide) (t := .long) (t' := .long) (by decide) (by decide)))).other W289 (Or.inr (slot_ne (Or.inl (hw _ (List.mem_of_getElem? (i := 18) rfl))) (Or.inl (hw _ (List.mem_of_getElem? (i := 16) rfl))) (by decide) (t := .long) (t' := .int) (by decide) (by decide))))
            obtain ⟨T293, X293, e293, st293⟩ := getF X289 hx hZ hown (host := "") (Or.inl (hw _ (List.mem_of_getElem? (i := 17) rfl))) Via.refl e289 fa292 (g := (mkF m 170 #[.val (.ref a1), .val (.long q2), .second] [(.ref a1), (.ref a1)])) rfl rfl (hb hby d4_170)
            have fa294 : Exa Z h289 a1 "com/example/placecard/placecard/TableValues" := (fa288.wr W289)
            obtain ⟨T295, h295, X295, e295, W295, st295⟩ := putF X293 hx hZ hown (host := "") (Or.inl (hw _ (List.mem_of_getElem? (i := 17) rfl))) Via.refl e293 fa292 fa294 (Or.inl (hw _ (List.mem_of_getElem? (i := 18) rfl))) (hw _ (List.mem_of_getElem? (i := 2) rfl)) (ty := .long) (by decide) rfl rfl (g := (mkF m 175 #[.val (.ref a1), .val (.long q2), .second] [(.long (v_sum + q2)), (.ref a1)])) rfl rfl (hb hby d4_175)
            have Fw295 : Fld Z h295 a1 "com/example/placecard/placecard/TableValues" "sum" "J" (.long (v_sum + q2)) := fa292.same W295
            have zs296 : n0 ≤ h295.size := Nat.le_trans zs290 (Keep.of_wr W295).1
            have kp297 : Keep h0 h295 [a1] := kp291.wr W295 (Or.inl (List.mem_of_getElem? (i := 0) rfl))
            have N295 := Fr.snoc X295 N289 g_a1
            obtain ⟨fs, hr, hrun, hended, hW, hsame⟩ := X295.leave (v := none) (fun _ => rfl)
            refine ⟨_, _, pre243 _ ?_, hrun, hended, _, _, rfl, ?_, ⟨_, rfl⟩, hW, hsame.mono (by decide) (by decide)⟩
            · show Steps p.tables e below (T242.setTop (mkF m 130 #[.val (.ref a1), .val (.long q2), .second] [(.int (lcmpW q2 v_min))])) _
              refine XS.ifYes X242.here hx rfl (pc0 := 130) (pc' := 146) rfl (hb hby d4_130) rfl ((if0 _ _).trans (feq (mt (lw_eq q2 v_min).mp hc244)).2) (by decide) (by decide) ?_
              show Steps p.tables e below (T242.setTop (mkF m 146 #[.val (.ref a1), .val (.long q2), .second] [])) _
              refine XS.aloadN X242.here hx rfl (hb hby d4_146) rfl rfl ?_
              show Steps p.tables e below (T242.setTop (mkF m 147 #[.val (.ref a1), .val (.long q2), .second] [(.ref a1)])) _
              refine XS.aloadN X242.here hx rfl (hb hby d4_147) rfl rfl ?_
              show Steps p.tables e below (T242.setTop (mkF m 148 #[.val (.ref a1), .val (.long q2), .second] [(.ref a1), (.ref a1)])) _
              refine st280 _ ?_
              show Steps p.tables e below (T280.setTop (mkF m 151 #[.val (.ref a1), .val (.long q2), .second] [(.long v_above), (.ref a1)])) _
              refine XS.lloadN X280.here hx rfl (hb hby d4_151) rfl ?_
              show Steps p.tables e below (T280.setTop (mkF m 152 #[.val (.ref a1), .val (.long q2), .second] [(.long q2), (.long v_above), (.ref a1)])) _
              refine st281 _ ?_
              show Steps p.tables e below (T281.setTop (mkF m 155 #[.val (.ref a1), .val (.long q2), .second] [(.long (f7 v_above q2)), (.ref a1)])) _
              refine st283 _ ?_
              show Steps p.tables e below (T283.setTop (mkF m 158 #[.val (.ref a1), .val (.long q2), .second] [])) _
              refine XS.aloadN X283.here hx rfl (hb hby d4_158) rfl rfl ?_
              show Steps p.tables e below (T283.setTop (mkF m 159 #[.val (.ref a1), .val (.long q2), .second] [(.ref a1)])) _
              refine XS.dup X283.here hx rfl (hb hby d4_159) rfl rfl ?_
              show Steps p.tables e below (T283.setTop (mkF m 160 #[.val (.ref a1), .val (.long q2), .second] [(.ref a1), (.ref a1)])) _
              refine st287 _ ?_
              show Steps p.tables e below (T287.setTop (mkF m 163 #[.val (.ref a1), .val (.long q2), .second] [(.int v_count), (.ref a1)])) _
              refine XS.iconst X287.here hx rfl (hb hby d4_163) ?_
              show Steps p.tables e below (T287.setTop (mkF m 164 #[.val (.ref a1), .val (.long q2), .second] [(.int (1 : Int32)), (.int v_count), (.ref a1)])) _
              refine XS.iadd X287.here hx rfl (hb hby d4_164) rfl ?_
              show Steps p.tables e below (T287.setTop (mkF m 165 #[.val (.ref a1), .val (.long q2), .second] [(.int (v_count + (1 : Int32))), (.ref a1)])) _
              refine st289 _ ?_
              show Steps p.tables e below (T289.setTop (mkF m 168 #[.val (.ref a1), .val (.long q2), .second] [])) _
              refine XS.aloadN X289.here hx rfl (hb hby d4_168) rfl rfl ?_
              show Steps p.tables e below (T289.setTop (mkF m 169 #[.val (.ref a1), .val (.long q2), .second] [(.ref a1)])) _
              refine XS.dup X289.here hx rfl (hb hby d4_169) rfl rfl ?_
              show Steps p.tables e below (T289.setTop (mkF m 170 #[.val (.ref a1), .val (.long q2), .second] [(.ref a1), (.ref a1)])) _
              refine st293 _ ?_
              show Steps p.tables e below (T293.setTop (mkF m 173 #[.val (.ref a1), .val (.long q2), .second] [(.long v_sum), (.ref a1)])) _
              refine XS.lloadN X293.here hx rfl (hb hby d4_173) rfl ?_
              show Steps p.tables e below (T293.setTop (mkF m 174 #[.val (.ref a1), .val (.long q2), .second] [(.long q2), (.long v_sum), (.ref a1)])) _
              refine XS.ladd X293.here hx rfl (hb hby d4_174) rfl ?_
              show Steps p.tables e below (T293.setTop (mkF m 175 #[.val (.ref a1), .val (.long q2), .second] [(.long (v_sum + q2)), (.ref a1)])) _
              refine st295 _ ?_
              show Steps p.tables e below (T295.setTop (mkF m 178 #[.val (.ref a1), .val (.long q2), .second] [])) _
              exact X295.returnOut hx Bd.returns (hb hby d4_178) hr
            · show Q4 Z a1 q2 v_count v_sum v_max v_maxc v_below v_min v_minc v_above h0 n0 _ T295.heap _
              rw [e295]
              have fa298 : Exa Z h295 a1 "com/example/placecard/placecard/TableValues" := (fa294.wr W295)
              have fa299 : Fld Z h295 a1 "com/example/placecard/placecard/TableValues" "count" "I" (.int (v_count + (1 : Int32))) := (Fw289.other W295 (Or.inr (slot_ne (Or.inl (hw _ (List.mem_of_getElem? (i := 16) rfl))) (Or.inl (hw _ (List.mem_of_getElem? (i := 18) rfl))) (by decide) (t := .int) (t' := .long) (by decide) (by decide))))
              have lf300 : Fld Z h295 a1 "com/example/placecard/placecard/TableValues" "count" "I" (.int (f4_a1_count q2 v_count v_sum v_max v_maxc v_below v_min v_minc v_above)) := by rw [f4_a1_count, if_neg hc3, if_neg hc52, if_pos hc189, if_neg hc197, if_neg hc244]; exact fa299
              have lf301 : Fld Z h295 a1 "com/example/placecard/placecard/TableValues" "sum" "J" (.long (f4_a1_sum q2 v_count v_sum v_max v_maxc v_below v_min v_minc v_above)) := by rw [f4_a1_sum, if_neg hc3, if_neg hc52, if_pos hc189, if_neg hc197, if_neg hc244]; exact Fw295
              have fa302 : Fld Z h295 a1 "com/example/placecard/placecard/TableValues" "max" "J" (.long v_max) := ((((F_a1_max.other W191 (Or.inr (slot_ne (Or.inl (hw _ (List.mem_of_getElem? (i := 20) rfl))) (Or.inl (hw _ (List.mem_of_getElem? (i := 22) rfl))) (by decide) (t := .long) (t' := .int) (by decide) (by decide)))).other W283 (Or.inr (slot_ne (Or.inl (hw _ (List.mem_of_getElem? (i := 20) rfl))) (Or.inl (hw _ (List.mem_of_getElem? (i := 32) rfl))) (by decide) (t := .long) (t' := .long) (by decide) (by decide)))).other W289 (Or.inr (slot_ne (Or.inl (hw _ (List.mem_of_getElem? (i := 20) rfl))) (Or.inl (hw _ (List.mem_of_getElem? (i := 16) rfl))) (by decide) (t := .long) (t' := .int) (by decide) (by decide)))).other W295 (Or.inr (slot_ne (Or.inl (hw _ (List.mem_of_getElem? (i := 20) rfl))) (Or.inl (hw _ (List.mem_of_getElem? (i := 18) rfl))) (by decide) (t := .long) (t' := .long) (by decide) (by decide))))
              have lf303 : Fld Z h295 a1 "com/example/placecard/placecard/TableValues" "max" "J" (.long (f4_a1_max q2 v_count v_sum v_max v_maxc v_below v_min v_minc v_above)) := by rw [f4_a1_max, if_neg hc3, if_neg hc52, if_pos hc189, if_neg hc197, if_neg hc244]; exact fa302
              have fa304 : Fld Z h295 a1 "com/example/placecard/placecard/TableValues" "maxCount" "I" (.int (v_maxc + (1 : Int32))) := (((Fw191.other W283 (Or.inr (slot_ne (Or.inl (hw _ (List.mem_of_getElem? (i := 22) rfl))) (Or.inl (hw _ (List.mem_of_getElem? (i := 32) rfl))) (by decide) (t := .int) (t' := .long) (by decide) (by decide)))).other W289 (Or.inr (slot_ne (Or.inl (hw _ (List.mem_of_getElem? (i := 22) rfl))) (Or.inl (hw _ (List.mem_of_getElem? (i := 16) rfl))) (by decide) (t := .int) (t' := .int) (by decide) (by decide)))).other W295 (Or.inr (slot_ne (Or.inl (hw _ (List.mem_of_getElem? (i := 22) rfl))) (Or.inl (hw _ (List.mem_of_getElem? (i := 18) rfl))) (by decide) (t := .int) (t' := .long) (by decide) (by decide))))
              have lf305 : Fld Z h295 a1 "com/example/placecard/placecard/TableValues" "maxCount" "I" (.int (f4_a1_maxCount q2 v_count v_sum v_max v_maxc v_below v_min v_minc v_above)) := by rw [f4_a1_maxCount, if_neg hc3, if_neg hc52, if_pos hc189, if_neg hc197, if_neg hc244]; exact fa304
              have fa306 : Fld Z h295 a1 "com/example/placecard/placecard/TableValues" "belowMax" "J" (.long v_below) := ((((F_a1_belowMax.other W191 (Or.inr (slot_ne (Or.inl (hw _ (List.mem_of_getElem? (i := 25) rfl))) (Or.inl (hw _ (List.mem_of_getElem? (i := 22) rfl))) (by decide) (t := .long) (t' := .int) (by decide) (by decide)))).other W283 (Or.inr (slot_ne (Or.inl (hw _ (List.mem_of_getElem? (i := 25) rfl))) (Or.inl (hw _ (List.mem_of_getElem? (i := 32) rfl))) (by decide) (t := .long) (t' := .long) (by decide) (by decide)))).other W289 (Or.inr (slot_ne (Or.inl (hw _ (List.mem_of_getElem? (i := 25) rfl))) (Or.inl (hw _ (List.mem_of_getElem? (i := 16) rfl))) (by decide) (t := .long) (t' := .int) (by decide) (by decide)))).other W295 (Or.inr (slot_ne (Or.inl (hw _ (List.mem_of_getElem? (i := 25) rfl))) (Or.inl (hw _ (List.mem_of_getElem? (i := 18) rfl))) (by decide) (t := .long) (t' := .long) (by decide) (by decide))))
              have lf307 : Fld Z h295 a1 "com/example/placecard/placecard/TableValues" "belowMax" "J" (.long (f4_a1_belowMax q2 v_count v_sum v_max v_maxc v_below v_min v_minc v_above)) := by rw [f4_a1_belowMax, if_neg hc3, if_neg hc52, if_pos hc189, if_neg hc197, if_neg hc244]; exact fa306
              have fa308 : Fld Z h295 a1 "com/example/placecard/placecard/TableValues" "min" "J" (.long v_min) := (((fa194.other W283 (Or.inr (slot_ne (Or.inl (hw _ (List.mem_of_getElem? (i := 27) rfl))) (Or.inl (hw _ (List.mem_of_getElem? (i := 32) rfl))) (by decide) (t := .long) (t' := .long) (by decide) (by decide)))).other W289 (Or.inr (slot_ne (Or.inl (hw _ (List.mem_of_getElem? (i := 27) rfl))) (Or.inl (hw _ (List.mem_of_getElem? (i := 16) rfl))) (by decide) (t := .long) (t' := .int) (by decide) (by decide)))).other W295 (Or.inr (slot_ne (Or.inl (hw _ (List.mem_of_getElem? (i := 27) rfl))) (Or.inl (hw _ (List.mem_of_getElem? (i := 18) rfl))) (by decide) (t := .long) (t' := .long) (by decide) (by decide))))
              have lf309 : Fld Z h295 a1 "com/example/placecard/placecard/TableValues" "min" "J" (.long (f4_a1_min q2 v_count v_sum v_max v_maxc v_below v_min v_minc v_above)) := by rw [f4_a1_min, if_neg hc3, if_neg hc52, if_pos hc189, if_neg hc197, if_neg hc244]; exact fa308
              have fa310 : Fld Z h295 a1 "com/example/placecard/placecard/TableValues" "minCount" "I" (.int v_minc) := ((((F_a1_minCount.other W191 (Or.inr (slot_ne (Or.inl (hw _ (List.mem_of_getElem? (i := 29) rfl))) (Or.inl (hw _ (List.mem_of_getElem? (i := 22) rfl))) (by decide) (t := .int) (t' := .int) (by decide) (by decide)))).other W283 (Or.inr (slot_ne (Or.inl (hw _ (List.mem_of_getElem? (i := 29) rfl))) (Or.inl (hw _ (List.mem_of_getElem? (i := 32) rfl))) (by decide) (t := .int) (t' := .long) (by decide) (by decide)))).other W289 (Or.inr (slot_ne (Or.inl (hw _ (List.mem_of_getElem? (i := 29) rfl))) (Or.inl (hw _ (List.mem_of_getElem? (i := 16) rfl))) (by decide) (t := .int) (t' := .int) (by decide) (by decide)))).other W295 (Or.inr (slot_ne (Or.inl (hw _ (List.mem_of_getElem? (i := 29) rfl))) (Or.inl (hw _ (List.mem_of_getElem? (i := 18) rfl))) (by decide) (t := .int) (t' := .long) (by decide) (by decide))))
              have lf311 : Fld Z h295 a1 "com/example/placecard/placecard/TableValues" "minCount" "I" (.int (f4_a1_minCount q2 v_count v_sum v_max v_maxc v_below v_min v_minc v_above)) := by rw [f4_a1_minCount, if_neg hc3, if_neg hc52, if_pos hc189, if_neg hc197, if_neg hc244]; exact fa310
              have fa312 : Fld Z h295 a1 "com/example/placecard/placecard/TableValues" "aboveMin" "J" (.long (f7 v_above q2)) := ((Fw283.other W289 (Or.inr (slot_ne (Or.inl (hw _ (List.mem_of_getElem? (i := 32) rfl))) (Or.inl (hw _ (List.mem_of_getElem? (i := 16) rfl))) (by decide) (t := .long) (t' := .int) (by decide) (by decide)))).other W295 (Or.inr (slot_ne (Or.inl (hw _ (List.mem_of_getElem? (i := 32) rfl))) (Or.inl (hw _ (List.mem_of_getElem? (i := 18) rfl))) (by decide) (t := .long) (t' := .long) (by decide) (by decide))))
              have lf313 : Fld Z h295 a1 "com/example/placecard/placecard/TableValues" "aboveMin" "J" (.long (f4_a1_aboveMin q2 v_count v_sum v_max v_maxc v_below v_min v_minc v_above)) := by rw [f4_a1_aboveMin, if_neg hc3, if_neg hc52, if_pos hc189, if_neg hc197, if_neg hc244]; exact fa312
              exact ⟨rfl, N295, kp297, fa298, lf300, lf301, lf303, lf305, lf307, lf309, lf311, lf313⟩
      · obtain ⟨T314, X314, e314, st314⟩ := getF X187 hx hZ hown (host := "") (Or.inl (hw _ (List.mem_of_getElem? (i := 24) rfl))) Via.refl e187 F_a1_belowMax (g := (mkF m 84 #[.val (.ref a1), .val (.long q2), .second] [(.ref a1), (.ref a1)])) rfl rfl (hb hby d4_84)
        obtain ⟨_, _, ⟨T315, L315, k315, n315⟩, -, X315, ⟨Lc315, hQ315, lz315, yz315, zz315⟩, st315⟩ := Jvm.LawKit.callS X314 hx (y := (⟨"java/lang/Math", "max", "(JJ)J"⟩ : MethodName)) hown (mvT hZ (hw _ (List.mem_of_getElem? (i := 38) rfl))) (mvT hZ (hw _ (List.mem_of_getElem? (i := 39) rfl))) (mvT hZ (hw _ (List.mem_of_getElem? (i := 40) rfl))) (mvT hZ (hw _ (List.mem_of_getElem? (i := 41) rfl))) (by decide) (backOf (W := 1) (rm5 l Z a0 hw [] v_below q2 h0 n0 Z0 ) hZ (hw _ (List.mem_of_getElem? (i := 41) rfl)) (hw _ (List.mem_of_getElem? (i := 40) rfl)) (by decide) (by decide)) (g := (mkF m 88 #[.val (.ref a1), .val (.long q2), .second] [(.long q2), (.long v_below), (.ref a1)])) rfl (by rw [hml]; rfl) (argsL := [(.long v_below), (.long q2)]) (rest := [(.ref a1)]) (lenOf pd_4_2 rfl) rfl (by show 2 * 0 + _ ≤ _; exact Nat.le_of_eq rfl) (hb hby d4_88) (fun _ _ => ⟨rfl, e314, (by decide : 0 + 0 ≤ _), (by decide : 0 + 0 ≤ _)⟩)
        dsimp only [Pt.U, Pt.locs, Pt.cells, Pt.slots] at X315 lz315 yz315 zz315 st315 hQ315
        subst lz315 yz315 zz315
        obtain ⟨rfl, N315q, e315⟩ := hQ315
        have N315 := Fr.app N0 N315q
        obtain ⟨T316, h316, X316, e316, W316, st316⟩ := putF X315 hx hZ hown (host := "") (Or.inl (hw _ (List.mem_of_getElem? (i := 24) rfl))) Via.refl e315 F_a1_belowMax E_a1 (Or.inl (hw _ (List.mem_of_getElem? (i := 25) rfl))) (hw _ (List.mem_of_getElem? (i := 2) rfl)) (ty := .long) (by decide) rfl rfl (g := (mkF m 91 #[.val (.ref a1), .val (.long q2), .second] [(.long (f5 v_below q2)), (.ref a1)])) rfl rfl (hb hby d4_91)
        have Fw316 : Fld Z h316 a1 "com/example/placecard/placecard/TableValues" "belowMax" "J" (.long (f5 v_below q2)) := F_a1_belowMax.same W316
        have zs317 : n0 ≤ h316.size := Nat.le_trans Z0 (Keep.of_wr W316).1
        have kp318 : Keep h0 h316 [a1] := (Keep.refl h0 [a1]).wr W316 (Or.inl (List.mem_of_getElem? (i := 0) rfl))
        have N316 := Fr.snoc X316 N315 g_a1
        have fa319 : Fld Z h316 a1 "com/example/placecard/placecard/TableValues" "min" "J" (.long v_min) := (F_a1_min.other W316 (Or.inr (slot_ne (Or.inl (hw _ (List.mem_of_getElem? (i := 27) rfl))) (Or.inl (hw _ (List.mem_of_getElem? (i := 25) rfl))) (by decide) (t := .long) (t' := .long) (by decide) (by decide))))
        obtain ⟨T320, X320, e320, st320⟩ := getF X316 hx hZ hown (host := "") (Or.inl (hw _ (List.mem_of_getElem? (i := 26) rfl))) Via.refl e316 fa319 (g := (mkF m 96 #[.val (.ref a1), .val (.long q2), .second] [(.ref a1), (.long q2)])) rfl rfl (hb hby d4_96)
        have pre321 : ∀ t, Steps p.tables e below (T320.setTop (mkF m 100 #[.val (.ref a1), .val (.long q2), .second] [(.int (lcmpW q2 v_min))])) t → Steps p.tables e below (s₁.setTop (entryFrame m #[(.ref a1), (.long q2)] 3)) t := fun t kt => by
          refine pre188 _ ?_
          show Steps p.tables e below (T187.setTop (mkF m 66 #[.val (.ref a1), .val (.long q2), .second] [(.int (lcmpW q2 v_max))])) _
          refine XS.ifYes X187.here hx rfl (pc0 := 66) (pc' := 82) rfl (hb hby d4_66) rfl ((if0 _ _).trans (feq (mt (lw_eq q2 v_max).mp hc189)).2) (by decide) (by decide) ?_
          show Steps p.tables e below (T187.setTop (mkF m 82 #[.val (.ref a1), .val (.long q2), .second] [])) _
          refine XS.aloadN X187.here hx rfl (hb hby d4_82) rfl rfl ?_
          show Steps p.tables e below (T187.setTop (mkF m 83 #[.val (.ref a1), .val (.long q2), .second] [(.ref a1)])) _
          refine XS.aloadN X187.here hx rfl (hb hby d4_83) rfl rfl ?_
          show Steps p.tables e below (T187.setTop (mkF m 84 #[.val (.ref a1), .val (.long q2), .second] [(.ref a1), (.ref a1)])) _
          refine st314 _ ?_
          show Steps p.tables e below (T314.setTop (mkF m 87 #[.val (.ref a1), .val (.long q2), .second] [(.long v_below), (.ref a1)])) _
          refine XS.lloadN X314.here hx rfl (hb hby d4_87) rfl ?_
          show Steps p.tables e below (T314.setTop (mkF m 88 #[.val (.ref a1), .val (.long q2), .second] [(.long q2), (.long v_below), (.ref a1)])) _
          refine st315 _ ?_
          show Steps p.tables e below (T315.setTop (mkF m 91 #[.val (.ref a1), .val (.long q2), .second] [(.long (f5 v_below q2)), (.ref a1)])) _
          refine st316 _ ?_
          show Steps p.tables e below (T316.setTop (mkF m 94 #[.val (.ref a1), .val (.long q2), .second] [])) _
          refine XS.lloadN X316.here hx rfl (hb hby d4_94) rfl ?_
          show Steps p.tables e below (T316.setTop (mkF m 95 #[.val (.ref a1), .val (.long q2), .second] [(.long q2)])) _
          refine XS.aloadN X316.here hx rfl (hb hby d4_95) rfl rfl ?_
          show Steps p.tables e below (T316.setTop (mkF m 96 #[.val (.ref a1), .val (.long q2), .second] [(.ref a1), (.long q2)])) _
          refine st320 _ ?_
          show Steps p.tables e below (T320.setTop (mkF m 99 #[.val (.ref a1), .val (.long q2), .second] [(.long v_min), (.long q2)])) _
          refine XS.lcmp X320.here hx rfl (hb hby d4_99) rfl ?_
          exact kt
        by_cases hc322 : q2 < v_min
        · obtain ⟨T323, X323, e323, st323⟩ := getF X320 hx hZ hown (host := "") (Or.inl (hw _ (List.mem_of_getElem? (i := 26) rfl))) Via.refl e320 fa319 (g := (mkF m 105 #[.val (.ref a1), .val (.long q2), .second] [(.ref a1), (.ref a1)])) rfl rfl (hb hby d4_105)
          have fa324 : Fld Z h316 a1 "com/example/placecard/placecard/TableValues" "aboveMin" "J" (.long v_above) := (F_a1_aboveMin.other W316 (Or.inr (slot_ne (Or.inl (hw _ (List.mem_of_getElem? (i := 32) rfl))) (Or.inl (hw _ (List.mem_of_getElem? (i := 25) rfl))) (by decide) (t := .long) (t' := .long) (by decide) (by decide))))
          have fa325 : Exa Z h316 a1 "com/example/placecard/placecard/TableValues" := (E_a1.wr W316)
          obtain ⟨T326, h326, X326, e326, W326, st326⟩ := putF X323 hx hZ hown (host := "") (Or.inl (hw _ (List.mem_of_getElem? (i := 31) rfl))) Via.refl e323 fa324 fa325 (Or.inl (hw _ (List.mem_of_getElem? (i := 32) rfl))) (hw _ (List.mem_of_getElem? (i := 2) rfl)) (ty := .long) (by decide) rfl rfl (g := (mkF m 108 #[.val (.ref a1), .val (.long q2), .second] [(.long v_min), (.ref a1)])) rfl rfl (hb hby d4_108)
          have Fw326 : Fld Z h326 a1 "com/example/placecard/placecard/TableValues" "aboveMin" "J" (.long v_min) := fa324.same W326
          have zs327 : n0 ≤ h326.size := Nat.le_trans zs317 (Keep.of_wr W326).1
          have kp328 : Keep h0 h326 [a1] := kp318.wr W326 (Or.inl (List.mem_of_getElem? (i := 0) rfl))
          have N326 := Fr.snoc X326 N316 g_a1
          have fa329 : Fld Z h326 a1 "com/example/placecard/placecard/TableValues" "min" "J" (.long v_min) := (fa319.other W326 (Or.inr (slot_ne (Or.inl (hw _ (List.mem_of_getElem? (i := 27) rfl))) (Or.inl (hw _ (List.mem_of_getElem? (i := 32) rfl))) (by decide) (t := .long) (t' := .long) (by decide) (by decide))))
          have fa330 : Exa Z h326 a1 "com/example/placecard/placecard/TableValues" := (fa325.wr W326)
          obtain ⟨T331, h331, X331, e331, W331, st331⟩ := putF X326 hx hZ hown (host := "") (Or.inl (hw _ (List.mem_of_getElem? (i := 26) rfl))) Via.refl e326 fa329 fa330 (Or.inl (hw _ (List.mem_of_getElem? (i := 27) rfl))) (hw _ (List.mem_of_getElem? (i := 2) rfl)) (ty := .long) (by decide) rfl rfl (g := (mkF m 113 #[.val (.ref a1), .val (.long q2), .second] [(.long q2), (.ref a1)])) rfl rfl (hb hby d4_113)
          have Fw331 : Fld Z h331 a1 "com/example/placecard/placecard/TableValues" "min" "J" (.long q2) := fa329.same W331
          have zs332 : n0 ≤ h331.size := Nat.le_trans zs327 (Keep.of_wr W331).1
          have kp333 : Keep h0 h331 [a1] := kp328.wr W331 (Or.inl (List.mem_of_getElem? (i := 0) rfl))
          have N331 := Fr.snoc X331 N326 g_a1
          have fa334 : Fld Z h331 a1 "com/example/placecard/placecard/TableValues" "minCount" "I" (.int v_minc) := (((F_a1_minCount.other W316 (Or.inr (slot_ne (Or.inl (hw _ (List.mem_of_getElem? (i := 29) rfl))) (Or.inl (hw _ (List.mem_of_getElem? (i := 25) rfl))) (by decide) (t := .int) (t' := .long) (by decide) (by decide)))).other W326 (Or.inr (slot_ne (Or.inl (hw _ (List.mem_of_getElem? (i := 29) rfl))) (Or.inl (hw _ (List.mem_of_getElem? (i := 32) rfl))) (by decide) (t := .int) (t' := .long) (by decide) (by decide)))).other W331 (Or.inr (slot_ne (Or.inl (hw _ (List.mem_of_getElem? (i := 29) rfl))) (Or.inl (hw _ (List.mem_of_getElem? (i := 27) rfl))) (by decide) (t := .int) (t' := .long) (by decide) (by decide))))
          have fa335 : Exa Z h331 a1 "com/example/placecard/placecard/TableValues" := (fa330.wr W331)
          obtain ⟨T336, h336, X336, e336, W336, st336⟩ := putF X331 hx hZ hown (host := "") (Or.inl (hw _ (List.mem_of_getElem? (i := 28) rfl))) Via.refl e331 fa334 fa335 (Or.inl (hw _ (List.mem_of_getElem? (i := 29) rfl))) (hw _ (List.mem_of_getElem? (i := 2) rfl)) (ty := .int) (by decide) rfl rfl (g := (mkF m 118 #[.val (.ref a1), .val (.long q2), .second] [(.int (1 : Int32)), (.ref a1)])) rfl rfl (hb hby d4_118)
          have Fw336 : Fld Z h336 a1 "com/example/placecard/placecard/TableValues" "minCount" "I" (.int (1 : Int32)) := fa334.same W336
          have zs337 : n0 ≤ h336.size := Nat.le_trans zs332 (Keep.of_wr W336).1
          have kp338 : Keep h0 h336 [a1] := kp333.wr W336 (Or.inl (List.mem_of_getElem? (i := 0) rfl))
          have N336 := Fr.snoc X336 N331 g_a1
          have fa339 : Fld Z h336 a1 "com/example/placecard/placecard/TableValues" "count" "I" (.int v_count) := ((((F_a1_count.other W316 (Or.inr (slot_ne (Or.inl (hw _ (List.mem_of_getElem? (i := 16) rfl))) (Or.inl (hw _ (List.mem_of_getElem? (i := 25) rfl))) (by decide) (t := .int) (t' := .long) (by decide) (by decide)))).other W326 (Or.inr (slot_ne (Or.inl (hw _ (List.mem_of_getElem? (i := 16) rfl))) (Or.inl (hw _ (List.mem_of_getElem? (i := 32) rfl))) (by decide) (t := .int) (t' := .long) (by decide) (by decide)))).other W331 (Or.inr (slot_ne (Or.inl (hw _ (List.mem_of_getElem? (i := 16) rfl))) (Or.inl (hw _ (List.mem_of_getElem? (i := 27) rfl))) (by decide) (t := .int) (t' := .long) (by decide) (by decide)))).other W336 (Or.inr (slot_ne (Or.inl (hw _ (List.mem_of_getElem? (i := 16) rfl))) (Or.inl (hw _ (List.mem_of_getElem? (i := 29) rfl))) (by decide) (t := .int) (t' := .int) (by decide) (by decide))))
          obtain ⟨T340, X340, e340, st340⟩ := getF X336 hx hZ hown (host := "") (Or.inl (hw _ (List.mem_of_getElem? (i := 15) rfl))) Via.refl e336 fa339 (g := (mkF m 160 #[.val (.ref a1), .val (.long q2), .second] [(.ref a1), (.ref a1)])) rfl rfl (hb hby d4_160)
          have fa341 : Exa Z h336 a1 "com/example/placecard/placecard/TableValues" := (fa335.wr W336)
          obtain ⟨T342, h342, X342, e342, W342, st342⟩ := putF X340 hx hZ hown (host := "") (Or.inl (hw _ (List.mem_of_getElem? (i := 15) rfl))) Via.refl e340 fa339 fa341 (Or.inl (hw _ (List.mem_of_getElem? (i := 16) rfl))) (hw _ (List.mem_of_getElem? (i := 2) rfl)) (ty := .int) (by decide) rfl rfl (g := (mkF m 165 #[.val (.ref a1), .val (.long q2), .second] [(.int (v_count + (1 : Int32))), (.ref a1)])) rfl rfl (hb hby d4_165)
          have Fw342 : Fld Z h342 a1 "com/example/placecard/placecard/TableValues" "count" "I" (.int (v_count + (1 : Int32))) := fa339.same W342
          have zs343 : n0 ≤ h342.size := Nat.le_trans zs337 (Keep.of_wr W342).1
          have kp344 : Keep h0 h342 [a1] := kp338.wr W342 (Or.inl (List.mem_of_getElem? (i := 0) rfl))
          have N342 := Fr.snoc X342 N336 g_a1
          have fa345 : Fld Z h342 a1 "com/example/placecard/placecard/TableValues" "sum" "J" (.long v_sum) := (((((F_a1_sum.other W316 (Or.inr (slot_ne (Or.inl (hw _ (List.mem_of_getElem? (i := 18) rfl))) (Or.inl (hw _ (List.mem_of_getElem? (i := 25) rfl))) (by decide) (t := .long) (t' := .long) (by decide) (by decide)))).other W326 (Or.inr (slot_ne (Or.inl (hw _ (List.mem_of_getElem? (i := 18) rfl))) (Or.inl (hw _ (List.mem_of_getElem? (i := 32) rfl))) (by decide) (t := .long) (t' := .long) (by decide) (by decide)))).other W331 (Or.inr (slot_ne (Or.inl (hw _ (List.mem_of_getElem? (i := 18) rfl))) (Or.inl (hw _ (List.mem_of_getElem? (i := 27) rfl))) (by decide) (t := .long) (t' := .long) (by decide) (by decide)))).other W336 (Or.inr (slot_ne (Or.inl (hw _ (List.mem_of_getElem? (i := 18) rfl))) (Or.inl (hw _ (List.mem_of_getElem? (i := 29) rfl))) (by decide) (t := .long) (t' := .int) (by decide) (by decide)))).other W342 (Or.inr (slot_ne (Or.inl (hw _ (List.mem_of_getElem? (i := 18) rfl))) (Or.inl (hw _ (List.mem_of_getElem? (i := 16) rfl))) (by decide) (t := .long) (t' := .int) (by decide) (by decide))))
          obtain ⟨T346, X346, e346, st346⟩ := getF X342 hx hZ hown (host := "") (Or.inl (hw _ (List.mem_of_getElem? (i := 17) rfl))) Via.refl e342 fa345 (g := (mkF m 170 #[.val (.ref a1), .val (.long q2), .second] [(.ref a1), (.ref a1)])) rfl rfl (hb hby d4_170)
          have fa347 : Exa Z h342 a1 "com/example/placecard/placecard/TableValues" := (fa341.wr W342)
          obtain ⟨T348, h348, X348, e348, W348, st348⟩ := putF X346 hx hZ hown (host := "") (Or.inl (hw _ (List.mem_of_getElem? (i := 17) rfl))) Via.refl e346 fa345 fa347 (Or.inl (hw _ (List.mem_of_getElem? (i := 18) rfl))) (hw _ (List.mem_of_getElem? (i := 2) rfl)) (ty := .long) (by decide) rfl rfl (g := (mkF m 175 #[.val (.ref a1), .val (.long q2), .second] [(.long (v_sum + q2)), (.ref a1)])) rfl rfl (hb hby d4_175)
          have Fw348 : Fld Z h348 a1 "com/example/placecard/placecard/TableValues" "sum" "J" (.long (v_sum + q2)) := fa345.same W348
          have zs349 : n0 ≤ h348.size := Nat.le_trans zs343 (Keep.of_wr W348).1
          have kp350 : Keep h0 h348 [a1] := kp344.wr W348 (Or.inl (List.mem_of_getElem? (i := 0) rfl))
          have N348 := Fr.snoc X348 N342 g_a1
          obtain ⟨fs, hr, hrun, hended, hW, hsame⟩ := X348.leave (v := none) (fun _ => rfl)
          refine ⟨_, _, pre321 _ ?_, hrun, hended, _, _, rfl, ?_, ⟨_, rfl⟩, hW, hsame.mono (by decide) (by decide)⟩
          · show Steps p.tables e below (T320.setTop (mkF m 100 #[.val (.ref a1), .val (.long q2), .second] [(.int (lcmpW q2 v_min))])) _
            refine XS.ifNo X320.here hx rfl (hb hby d4_100) rfl ((if0 _ _).trans (tlt ((lw_lt q2 v_min).mpr hc322)).2.1) ?_
            show Steps p.tables e below (T320.setTop (mkF m 103 #[.val (.ref a1), .val (.long q2), .second] [])) _
            refine XS.aloadN X320.here hx rfl (hb hby d4_103) rfl rfl ?_
            show Steps p.tables e below (T320.setTop (mkF m 104 #[.val (.ref a1), .val (.long q2), .second] [(.ref a1)])) _
            refine XS.aloadN X320.here hx rfl (hb hby d4_104) rfl rfl ?_
            show Steps p.tables e below (T320.setTop (mkF m 105 #[.val (.ref a1), .val (.long q2), .second] [(.ref a1), (.ref a1)])) _
            refine st323 _ ?_
            show Steps p.tables e below (T323.setTop (mkF m 108 #[.val (.ref a1), .val (.long q2), .second] [(.long v_min), (.ref a1)])) _
            refine st326 _ ?_
            show Steps p.tables e below (T326.setTop (mkF m 111 #[.val (.ref a1), .val (.long q2), .second] [])) _
            refine XS.aloadN X326.here hx rfl (hb hby d4_111) rfl rfl ?_
            show Steps p.tables e below (T326.setTop (mkF m 112 #[.val (.ref a1), .val (.long q2), .second] [(.ref a1)])) _
            refine XS.lloadN X326.here hx rfl (hb hby d4_112) rfl ?_
            show Steps p.tables e below (T326.setTop (mkF m 113 #[.val (.ref a1), .val (.long q2), .second] [(.long q2), (.ref a1)])) _
            refine st331 _ ?_
            show Steps p.tables e below (T331.setTop (mkF m 116 #[.val (.ref a1), .val (.long q2), .second] [])) _
            refine XS.aloadN X331.here hx rfl (hb hby d4_116) rfl rfl ?_
            show Steps p.tables e below (T331.setTop (mkF m 117 #[.val (.ref a1), .val (.long q2), .second] [(.ref a1)])) _
            refine XS.iconst X331.here hx rfl (hb hby d4_117) ?_
            show Steps p.tables e below (T331.setTop (mkF m 118 #[.val (.ref a1), .val (.long q2), .second] [(.int (1 : Int32)), (.ref a1)])) _
            refine st336 _ ?_
            show Steps p.tables e below (T336.setTop (mkF m 121 #[.val (.ref a1), .val (.long q2), .second] [])) _
            refine XS.goto X336.here hx rfl (pc0 := 121) (pc' := 158) rfl (hb hby d4_121) (by decide) (by decide) ?_
            show Steps p.tables e below (T336.setTop (mkF m 158 #[.val (.ref a1), .val (.long q2), .second] [])) _
            refine XS.aloadN X336.here hx rfl (hb hby d4_158) rfl rfl ?_
            show Steps p.tables e below (T336.setTop (mkF m 159 #[.val (.ref a1), .val (.long q2), .second] [(.ref a1)])) _
            refine XS.dup X336.here hx rfl (hb hby d4_159) rfl rfl ?_
            show Steps p.tables e below (T336.setTop (mkF m 160 #[.val (.ref a1), .val (.long q2), .second] [(.ref a1), (.ref a1)])) _
            refine st340 _ ?_
            show Steps p.tables e below (T340.setTop (mkF m 163 #[.val (.ref a1), .val (.long q2), .second] [(.int v_count), (.ref a1)])) _
            refine XS.iconst X340.here hx rfl (hb hby d4_163) ?_
            show Steps p.tables e below (T340.setTop (mkF m 164 #[.val (.ref a1), .val (.long q2), .second] [(.int (1 : Int32)), (.int v_count), (.ref a1)])) _
            refine XS.iadd X340.here hx rfl (hb hby d4_164) rfl ?_
            show Steps p.tables e below (T340.setTop (mkF m 165 #[.val (.ref a1), .val (.long q2), .second] [(.int (v_count + (1 : Int32))), (.ref a1)])) _
            refine st342 _ ?_
            show Steps p.tables e below (T342.setTop (mkF m 168 #[.val (.ref a1), .val (.long q2), .second] [])) _
            refine XS.aloadN X342.here hx rfl (hb hby d4_168) rfl rfl ?_
            show Steps p.tables e below (T342.setTop (mkF m 169 #[.val (.ref a1), .val (.long q2), .second] [(.ref a1)])) _
            refine XS.dup X342.here hx rfl (hb hby d4_169) rfl rfl ?_
            show Steps p.tables e below (T342.setTop (mkF m 170 #[.val (.ref a1), .val (.long q2), .second] [(.ref a1), (.ref a1)])) _
            refine st346 _ ?_
            show Steps p.tables e below (T346.setTop (mkF m 173 #[.val (.ref a1), .val (.long q2), .second] [(.long v_sum), (.ref a1)])) _
            refine XS.lloadN X346.here hx rfl (hb hby d4_173) rfl ?_
            show Steps p.tables e below (T346.setTop (mkF m 174 #[.val (.ref a1), .val (.long q2), .second] [(.long q2), (.long v_sum), (.ref a1)])) _
            refine XS.ladd X346.here hx rfl (hb hby d4_174) rfl ?_
            show Steps p.tables e below (T346.setTop (mkF m 175 #[.val (.ref a1), .val (.long q2), .second] [(.long (v_sum + q2)), (.ref a1)])) _
            refine st348 _ ?_
            show Steps p.tables e below (T348.setTop (mkF m 178 #[.val (.ref a1), .val (.long q2), .second] [])) _
            exact X348.returnOut hx Bd.returns (hb hby d4_178) hr
          · show Q4 Z a1 q2 v_count v_sum v_max v_maxc v_below v_min v_minc v_above h0 n0 _ T348.heap _
            rw [e348]
            have fa351 : Exa Z h348 a1 "com/example/placecard/placecard/TableValues" := (fa347.wr W348)
            have fa352 : Fld Z h348 a1 "com/example/placecard/placecard/TableValues" "count" "I" (.int (v_count + (1 : Int32))) := (Fw342.other W348 (Or.inr (slot_ne (Or.inl (hw _ (List.mem_of_getElem? (i := 16) rfl))) (Or.inl (hw _ (List.mem_of_getElem? (i := 18) rfl))) (by decide) (t := .int) (t' := .long) (by decide) (by decide))))
            have lf353 : Fld Z h348 a1 "com/example/placecard/placecard/TableValues" "count" "I" (.int (f4_a1_count q2 v_count v_sum v_max v_maxc v_below v_min v_minc v_above)) := by rw [f4_a1_count, if_neg hc3, if_neg hc52, if_neg hc189, if_pos hc322]; exact fa352
            have lf354 : Fld Z h348 a1 "com/example/placecard/placecard/TableValues" "sum" "J" (.long (f4_a1_sum q2 v_count v_sum v_max v_maxc v_below v_min v_minc v_above)) := by rw [f4_a1_sum, if_neg hc3, if_neg hc52, if_neg hc189, if_pos hc322]; exact Fw348
            have fa355 : Fld Z h348 a1 "com/example/placecard/placecard/TableValues" "max" "J" (.long v_max) := ((((((F_a1_max.other W316 (Or.inr (slot_ne (Or.inl (hw _ (List.mem_of_getElem? (i := 20) rfl))) (Or.inl (hw _ (List.mem_of_getElem? (i := 25) rfl))) (by decide) (t := .long) (t' := .long) (by decide) (by decide)))).other W326 (Or.inr (slot_ne (Or.inl (hw _ (List.mem_of_getElem? (i := 20) rfl))) (Or.inl (hw _ (List.mem_of_getElem? (i := 32) rfl))) (by decide) (t := .long) (t' := .long) (by decide) (by decide)))).other W331 (Or.inr (slot_ne (Or.inl (hw _ (List.mem_of_getElem? (i := 20) rfl))) (Or.inl (hw _ (List.mem_of_getElem? (i := 27) rfl))) (by decide) (t := .long) (t' := .long) (by decide) (by decide)))).other W336 (Or.inr (slot_ne (Or.inl (hw _ (List.mem_of_getElem? (i := 20) rfl))) (Or.inl (hw _ (List.mem_of_getElem? (i := 29) rfl))) (by decide) (t := .long) (t' := .int) (by decide) (by decide)))).other W342 (Or.inr (slot_ne (Or.inl (hw _ (List.mem_of_getElem? (i := 20) rfl))) (Or.inl (hw _ (List.mem_of_getElem? (i := 16) rfl))) (by decide) (t := .long) (t' := .int) (by decide) (by decide)))).other W348 (Or.inr (slot_ne (Or.inl (hw _ (List.mem_of_getElem? (i := 20) rfl))) (Or.inl (hw _ (List.mem_of_getElem? (i := 18) rfl))) (by decide) (t := .long) (t' := .long) (by decide) (by decide))))
            have lf356 : Fld Z h348 a1 "com/example/placecard/placecard/TableValues" "max" "J" (.long (f4_a1_max q2 v_count v_sum v_max v_maxc v_below v_min v_minc v_above)) := by rw [f4_a1_max, if_neg hc3, if_neg hc52, if_neg hc189, if_pos hc322]; exact fa355
            have fa357 : Fld Z h348 a1 "com/example/placecard/placecard/TableValues" "maxCount" "I" (.int v_maxc) := ((((((F_a1_maxCount.other W316 (Or.inr (slot_ne (Or.inl (hw _ (List.mem_of_getElem? (i := 22) rfl))) (Or.inl (hw _ (List.mem_of_getElem? (i := 25) rfl))) (by decide) (t := .int) (t' := .long) (by decide) (by decide)))).other W326 (Or.inr (slot_ne (Or.inl (hw _ (List.mem_of_getElem? (i := 22) rfl))) (Or.inl (hw _ (List.mem_of_getElem? (i := 32) rfl))) (by decide) (t := .int) (t' := .long) (by decide) (by decide)))).other W331 (Or.inr (slot_ne (Or.inl (hw _ (List.mem_of_getElem? (i := 22) rfl))) (Or.inl (hw _ (List.mem_of_getElem? (i := 27) rfl))) (by decide) (t := .int) (t' := .long) (by decide) (by decide)))).other W336 (Or.inr (slot_ne (Or.inl (hw _ (List.mem_of_getElem? (i := 22) rfl))) (Or.inl (hw _ (List.mem_of_getElem? (i := 29) rfl))) (by decide) (t := .int) (t' := .int) (by decide) (by decide)))).other W342 (Or.inr (slot_ne (Or.inl (hw _ (List.mem_of_getElem? (i := 22) rfl))) (Or.inl (hw _ (List.mem_of_getElem? (i := 16) rfl))) (by decide) (t := .int) (t' := .int) (by decide) (by decide)))).other W348 (Or.inr (slot_ne (Or.inl (hw _ (List.mem_of_getElem? (i := 22) rfl))) (Or.inl (hw _ (List.mem_of_getElem? (i := 18) rfl))) (by decide) (t := .int) (t' := .long) (by decide) (by decide))))
            have lf358 : Fld Z h348 a1 "com/example/placecard/placecard/TableValues" "maxCount" "I" (.int (f4_a1_maxCount q2 v_count v_sum v_max v_maxc v_below v_min v_minc v_above)) := by rw [f4_a1_maxCount, if_neg hc3, if_neg hc52, if_neg hc189, if_pos hc322]; exact fa357
            have fa359 : Fld Z h348 a1 "com/example/placecard/placecard/TableValues" "belowMax" "J" (.long (f5 v_below q2)) := (((((Fw316.other W326 (Or.inr (slot_ne (Or.inl (hw _ (List.mem_of_getElem? (i := 25) rfl))) (Or.inl (hw _ (List.mem_of_getElem? (i := 32) rfl))) (by decide) (t := .long) (t' := .long) (by decide) (by decide)))).other W331 (Or.inr (slot_ne (Or.inl (hw _ (List.mem_of_getElem? (i := 25) rfl))) (Or.inl (hw _ (List.mem_of_getElem? (i := 27) rfl))) (by decide) (t := .long) (t' := .long) (by decide) (by decide)))).other W336 (Or.inr (slot_ne (Or.inl (hw _ (List.mem_of_getElem? (i := 25) rfl))) (Or.inl (hw _ (List.mem_of_getElem? (i := 29) rfl))) (by decide) (t := .long) (t' := .int) (by decide) (by decide)))).other W342 (Or.inr (slot_ne (Or.inl (hw _ (List.mem_of_getElem? (i := 25) rfl))) (Or.inl (hw _ (List.mem_of_getElem? (i := 16) rfl))) (by decide) (t := .long) (t' := .int) (by decide) (by decide)))).other W348 (Or.inr (slot_ne (Or.inl (hw _ (List.mem_of_getElem? (i := 25) rfl))) (Or.inl (hw _ (List.mem_of_getElem? (i := 18) rfl))) (by decide) (t := .long) (t' := .long) (by decide) (by decide))))
            have lf360 : Fld Z h348 a1 "com/example/placecard/placecard/TableValues" "belowMax" "J" (.long (f4_a1_belowMax q2 v_count v_sum v_max v_maxc v_below v_min v_minc v_above)) := by rw [f4_a1_belowMax, if_neg hc3, if_neg hc52, if_neg hc189, if_pos hc322]; exact fa359
            have fa361 : Fld Z h348 a1 "com/example/placecard/placecard/TableValues" "min" "J" (.long q2) := (((Fw331.other W336 (Or.inr (slot_ne (Or.inl (hw _ (List.mem_of_getElem? (i := 27) rfl))) (Or.inl (hw _ (List.mem_of_getElem? (i := 29) rfl))) (by decide) (t := .long) (t' := .int) (by decide) (by decide)))).other W342 (Or.inr (slot_ne (Or.inl (hw _ (List.mem_of_getElem? (i := 27) rfl))) (Or.inl (hw _ (List.mem_of_getElem? (i := 16) rfl))) (by decide) (t := .long) (t' := .int) (by decide) (by decide)))).other W348 (Or.inr (slot_ne (Or.inl (hw _ (List.mem_of_getElem? (i := 27) rfl))) (Or.inl (hw _ (List.mem_of_getElem? (i := 18) rfl))) (by decide) (t := .long) (t' := .long) (by decide) (by decide))))
            have lf362 : Fld Z h348 a1 "com/example/placecard/placecard/TableValues" "min" "J" (.long (f4_a1_min q2 v_count v_sum v_max v_maxc v_below v_min v_minc v_above)) := by rw [f4_a1_min, if_neg hc3, if_neg hc52, if_neg hc189, if_pos hc322]; exact fa361
            have fa363 : Fld Z h348 a1 "com/example/placecard/placecard/TableValues" "minCount" "I" (.int (1 : Int32)) := ((Fw336.other W342 (Or.inr (slot_ne (Or.inl (hw _ (List.mem_of_getElem? (i := 29) rfl))) (Or.inl (hw _ (List.mem_of_getElem? (i := 16) rfl))) (by decide) (t := .int) (t' := .int) (by decide) (by decide)))).other W348 (Or.inr (slot_ne (Or.inl (hw _ (List.mem_of_getElem? (i := 29) rfl))) (Or.inl (hw _ (List.mem_of_getElem? (i := 18) rfl))) (by decide) (t := .int) (t' := .long) (by decide) (by decide))))
            have lf364 : Fld Z h348 a1 "com/example/placecard/placecard/TableValues" "minCount" "I" (.int (f4_a1_minCount q2 v_count v_sum v_max v_maxc v_below v_min v_minc v_above)) := by rw [f4_a1_minCount, if_neg hc3, if_neg hc52, if_neg hc189, if_pos hc322]; exact fa363
            have fa365 : Fld Z h348 a1 "com/example/placecard/placecard/TableValues" "aboveMin" "J" (.long v_min) := ((((Fw326.other W331 (Or.inr (slot_ne (Or.inl (hw _ (List.mem_of_getElem? (i := 32) rfl))) (Or.inl (hw _ (List.mem_of_getElem? (i := 27) rfl))) (by decide) (t := .long) (t' := .long) (by decide) (by decide)))).other W336 (Or.inr (slot_ne (Or.inl (hw _ (List.mem_of_getElem? (i := 32) rfl))) (Or.inl (hw _ (List.mem_of_getElem? (i := 29) rfl))) (by decide) (t := .long) (t' := .int) (by decide) (by decide)))).other W342 (Or.inr (slot_ne (Or.inl (hw _ (List.mem_of_getElem? (i := 32) rfl))) (Or.inl (hw _ (List.mem_of_getElem? (i := 16) rfl))) (by decide) (t := .long) (t' := .int) (by decide) (by decide)))).other W348 (Or.inr (slot_ne (Or.inl (hw _ (List.mem_of_getElem? (i := 32) rfl))) (Or.inl (hw _ (List.mem_of_getElem? (i := 18) rfl))) (by decide) (t := .long) (t' := .long) (by decide) (by decide))))
            have lf366 : Fld Z h348 a1 "com/example/placecard/placecard/TableValues" "aboveMin" "J" (.long (f4_a1_aboveMin q2 v_count v_sum v_max v_maxc v_below v_min v_minc v_above)) := by rw [f4_a1_aboveMin, if_neg hc3, if_neg hc52, if_neg hc189, if_pos hc322]; exact fa365
            exact ⟨rfl, N348, kp350, fa351, lf353, lf354, lf356, lf358, lf360, lf362, lf364, lf366⟩
        · obtain ⟨T367, X367, e367, st367⟩ := getF X320 hx hZ hown (host := "") (Or.inl (hw _ (List.mem_of_getElem? (i := 26) rfl))) Via.refl e320 fa319 (g := (mkF m 126 #[.val (.ref a1), .val (.long q2), .second] [(.ref a1), (.long q2)])) rfl rfl (hb hby d4_126)
          have pre368 : ∀ t, Steps p.tables e below (T367.setTop (mkF m 130 #[.val (.ref a1), .val (.long q2), .second] [(.int (lcmpW q2 v_min))])) t → Steps p.tables e below (s₁.setTop (entryFrame m #[(.ref a1), (.long q2)] 3)) t := fun t kt => by
            refine pre321 _ ?_
            show Steps p.tables e below (T320.setTop (mkF m 100 #[.val (.ref a1), .val (.long q2), .second] [(.int (lcmpW q2 v_min))])) _
            refine XS.ifYes X320.here hx rfl (pc0 := 100) (pc' := 124) rfl (hb hby d4_100) rfl ((if0 _ _).trans (flt (mt (lw_lt q2 v_min).mp hc322)).2.1) (by decide) (by decide) ?_
            show Steps p.tables e below (T320.setTop (mkF m 124 #[.val (.ref a1), .val (.long q2), .second] [])) _
            refine XS.lloadN X320.here hx rfl (hb hby d4_124) rfl ?_
            show Steps p.tables e below (T320.setTop (mkF m 125 #[.val (.ref a1), .val (.long q2), .second] [(.long q2)])) _
            refine XS.aloadN X320.here hx rfl (hb hby d4_125) rfl rfl ?_
            show Steps p.tables e below (T320.setTop (mkF m 126 #[.val (.ref a1), .val (.long q2), .second] [(.ref a1), (.long q2)])) _
            refine st367 _ ?_
            show Steps p.tables e below (T367.setTop (mkF m 129 #[.val (.ref a1), .val (.long q2), .second] [(.long v_min), (.long q2)])) _
            refine XS.lcmp X367.here hx rfl (hb hby d4_129) rfl ?_
            exact kt
          by_cases hc369 : q2 = v_min
          · have fa370 : Fld Z h316 a1 "com/example/placecard/placecard/TableValues" "minCount" "I" (.int v_minc) := (F_a1_minCount.other W316 (Or.inr (slot_ne (Or.inl (hw _ (List.mem_of_getElem? (i := 29) rfl))) (Or.inl (hw _ (List.mem_of_getElem? (i := 25) rfl))) (by decide) (t := .int) (t' := .long) (by decide) (by decide))))
            obtain ⟨T371, X371, e371, st371⟩ := getF X367 hx hZ hown (host := "") (Or.inl (hw _ (List.mem_of_getElem? (i := 28) rfl))) Via.refl e367 fa370 (g := (mkF m 135 #[.val (.ref a1), .val (.long q2), .second] [(.ref a1), (.ref a1)])) rfl rfl (hb hby d4_135)
            have fa372 : Exa Z h316 a1 "com/example/placecard/placecard/TableValues" := (E_a1.wr W316)
            obtain ⟨T373, h373, X373, e373, W373, st373⟩ := putF X371 hx hZ hown (host := "") (Or.inl (hw _ (List.mem_of_getElem? (i := 28) rfl))) Via.refl e371 fa370 fa372 (Or.inl (hw _ (List.mem_of_getElem? (i := 29) rfl))) (hw _ (List.mem_of_getElem? (i := 2) rfl)) (ty := .int) (by decide) rfl rfl (g := (mkF m 140 #[.val (.ref a1), .val (.long q2), .second] [(.int (v_minc + (1 : Int32))), (.ref a1)])) rfl rfl (hb hby d4_140)
            have Fw373 : Fld Z h373 a1 "com/example/placecard/placecard/TableValues" "minCount" "I" (.int (v_minc + (1 : Int32))) := fa370.same W373
            have zs374 : n0 ≤ h373.size := Nat.le_trans zs317 (Keep.of_wr W373).1
            have kp375 : Keep h0 h373 [a1] := kp318.wr W373 (Or.inl (List.mem_of_getElem? (i := 0) rfl))
            have N373 := Fr.snoc X373 N316 g_a1
            have fa376 : Fld Z h373 a1 "com/example/placecard/placecard/TableValues" "count" "I" (.int v_count) := ((F_a1_count.other W316 (Or.inr (slot_ne (Or.inl (hw _ (List.mem_of_getElem? (i := 16) rfl))) (Or.inl (hw _ (List.mem_of_getElem? (i := 25) rfl))) (by decide) (t := .int) (t' := .long) (by decide) (by decide)))).other W373 (Or.inr (slot_ne (Or.inl (hw _ (List.mem_of_getElem? (i := 16) rfl))) (Or.inl (hw _ (List.mem_of_getElem? (i := 29) rfl))) (by decide) (t := .int) (t' := .int) (by decide) (by decide))))
            obtain ⟨T377, X377, e377, st377⟩ := getF X373 hx hZ hown (host := "") (Or.inl (hw _ (List.mem_of_getElem? (i := 15) rfl))) Via.refl e373 fa376 (g := (mkF m 160 #[.val (.ref a1), .val (.long q2), .second] [(.ref a1), (.ref a1)])) rfl rfl (hb hby d4_160)
            have fa378 : Exa Z h373 a1 "com/example/placecard/placecard/TableValues" := (fa372.wr W373)
            obtain ⟨T379, h379, X379, e379, W379, st379⟩ := putF X377 hx hZ hown (host := "") (Or.inl (hw _ (List.mem_of_getElem? (i := 15) rfl))) Via.refl e377 fa376 fa378 (Or.inl (hw _ (List.mem_of_getElem? (i := 16) rfl))) (hw _ (List.mem_of_getElem? (i := 2) rfl)) (ty := .int) (by decide) rfl rfl (g := (mkF m 165 #[.val (.ref a1), .val (.long q2), .second] [(.int (v_count + (1 : Int32))), (.ref a1)])) rfl rfl (hb hby d4_165)
            have Fw379 : Fld Z h379 a1 "com/example/placecard/placecard/TableValues" "count" "I" (.int (v_count + (1 : Int32))) := fa376.same W379
            have zs380 : n0 ≤ h379.size := Nat.le_trans zs374 (Keep.of_wr W379).1
            have kp381 : Keep h0 h379 [a1] := kp375.wr W379 (Or.inl (List.mem_of_getElem? (i := 0) rfl))
            have N379 := Fr.snoc X379 N373 g_a1
            have fa382 : Fld Z h379 a1 "com/example/placecard/placecard/TableValues" "sum" "J" (.long v_sum) := (((F_a1_sum.other W316 (Or.inr (slot_ne (Or.inl (hw _ (List.mem_of_getElem? (i := 18) rfl))) (Or.inl (hw _ (List.mem_of_getElem? (i := 25) rfl))) (by decide) (t := .long) (t' := .long) (by decide) (by decide)))).other W373 (Or.inr (slot_ne (Or.inl (hw _ (List.mem_of_getElem? (i := 18) rfl))) (Or.inl (hw _ (List.mem_of_getElem? (i := 29) rfl))) (by decide) (t := .long) (t' := .int) (by decide) (by decide)))).other W379 (Or.inr (slot_ne (Or.inl (hw _ (List.mem_of_getElem? (i := 18) rfl))) (Or.inl (hw _ (List.mem_of_getElem? (i := 16) rfl))) (by decide) (t := .long) (t' := .int) (by decide) (by decide))))
            obtain ⟨T383, X383, e383, st383⟩ := getF X379 hx hZ hown (host := "") (Or.inl (hw _ (List.mem_of_getElem? (i := 17) rfl))) Via.refl e379 fa382 (g := (mkF m 170 #[.val (.ref a1), .val (.long q2), .second] [(.ref a1), (.ref a1)])) rfl rfl (hb hby d4_170)
            have fa384 : Exa Z h379 a1 "com/example/placecard/placecard/TableValues" := (fa378.wr W379)
            obtain ⟨T385, h385, X385, e385, W385, st385⟩ := putF X383 hx hZ hown (host := "") (Or.inl (hw _ (List.mem_of_getElem? (i := 17) rfl))) Via.refl e383 fa382 fa384 (Or.inl (hw _ (List.mem_of_getElem? (i := 18) rfl))) (hw _ (List.mem_of_getElem? (i := 2) rfl)) (ty := .long) (by decide) rfl rfl (g := (mkF m 175 #[.val (.ref a1), .val (.long q2), .second] [(.long (v_sum + q2)), (.ref a1)])) rfl rfl (hb hby d4_175)
            have Fw385 : Fld Z h385 a1 "com/example/placecard/placecard/TableValues" "sum" "J" (.long (v_sum + q2)) := fa382.same W385
            have zs386 : n0 ≤ h385.size := Nat.le_trans zs380 (Keep.of_wr W385).1
            have kp387 : Keep h0 h385 [a1] := kp381.wr W385 (Or.inl (List.mem_of_getElem? (i := 0) rfl))
            have N385 := Fr.snoc X385 N379 g_a1
            obtain ⟨fs, hr, hrun, hended, hW, hsame⟩ := X385.leave (v := none) (fun _ => rfl)
            refine ⟨_, _, pre368 _ ?_, hrun, hended, _, _, rfl, ?_, ⟨_, rfl⟩, hW, hsame.mono (by decide) (by decide)⟩
            · show Steps p.tables e below (T367.setTop (mkF m 130 #[.val (.ref a1), .val (.long q2), .second] [(.int (lcmpW q2 v_min))])) _
              refine XS.ifNo X367.here hx rfl (hb hby d4_130) rfl ((if0 _ _).trans (teq ((lw_eq q2 v_min).mpr hc369)).2) ?_
              show Steps p.tables e below (T367.setTop (mkF m 133 #[.val (.ref a1), .val (.long q2), .second] [])) _
              refine XS.aloadN X367.here hx rfl (hb hby d4_133) rfl rfl ?_
              show Steps p.tables e below (T367.setTop (mkF m 134 #[.val (.ref a1), .val (.long q2), .second] [(.ref a1)])) _
              refine XS.dup X367.here hx rfl (hb hby d4_134) rfl rfl ?_
              show Steps p.tables e below (T367.setTop (mkF m 135 #[.val (.ref a1), .val (.long q2), .second] [(.ref a1), (.ref a1)])) _
              refine st371 _ ?_
              show Steps p.tables e below (T371.setTop (mkF m 138 #[.val (.ref a1), .val (.long q2), .second] [(.int v_minc), (.ref a1)])) _
              refine XS.iconst X371.here hx rfl (hb hby d4_138) ?_
              show Steps p.tables e below (T371.setTop (mkF m 139 #[.val (.ref a1), .val (.long q2), .second] [(.int (1 : Int32)), (.int v_minc), (.ref a1)])) _
              refine XS.iadd X371.here hx rfl (hb hby d4_139) rfl ?_
              show Steps p.tables e below (T371.setTop (mkF m 140 #[.val (.ref a1), .val (.long q2), .second] [(.int (v_minc + (1 : Int32))), (.ref a1)])) _
              refine st373 _ ?_
              show Steps p.tables e below (T373.setTop (mkF m 143 #[.val (.ref a1), .val (.long q2), .second] [])) _
              refine XS.goto X373.here hx rfl (pc0 := 143) (pc' := 158) rfl (hb hby d4_143) (by decide) (by decide) ?_
              show Steps p.tables e below (T373.setTop (mkF m 158 #[.val (.ref a1), .val (.long q2), .second] [])) _
              refine XS.aloadN X373.here hx rfl (hb hby d4_158) rfl rfl ?_
              show Steps p.tables e below (T373.setTop (mkF m 159 #[.val (.ref a1), .val (.long q2), .second] [(.ref a1)])) _
              refine XS.dup X373.here hx rfl (hb hby d4_159) rfl rfl ?_
              show Steps p.tables e below (T373.setTop (mkF m 160 #[.val (.ref a1), .val (.long q2), .second] [(.ref a1), (.ref a1)])) _
              refine st377 _ ?_
              show Steps p.tables e below (T377.setTop (mkF m 163 #[.val (.ref a1), .val (.long q2), .second] [(.int v_count), (.ref a1)])) _
              refine XS.iconst X377.here hx rfl (hb hby d4_163) ?_
              show Steps p.tables e below (T377.setTop (mkF m 164 #[.val (.ref a1), .val (.long q2), .second] [(.int (1 : Int32)), (.int v_count), (.ref a1)])) _
              refine XS.iadd X377.here hx rfl (hb hby d4_164) rfl ?_
              show Steps p.tables e below (T377.setTop (mkF m 165 #[.val (.ref a1), .val (.long q2), .second] [(.int (v_count + (1 : Int32))), (.ref a1)])) _
              refine st379 _ ?_
              show Steps p.tables e below (T379.setTop (mkF m 168 #[.val (.ref a1), .val (.long q2), .second] [])) _
              refine XS.aloadN X379.here hx rfl (hb hby d4_168) rfl rfl ?_
              show Steps p.tables e below (T379.setTop (mkF m 169 #[.val (.ref a1), .val (.long q2), .second] [(.ref a1)])) _
              refine XS.dup X379.here hx rfl (hb hby d4_169) rfl rfl ?_
              show Steps p.tables e below (T379.setTop (mkF m 170 #[.val (.ref a1), .val (.long q2), .second] [(.ref a1), (.ref a1)])) _
              refine st383 _ ?_
              show Steps p.tables e below (T383.setTop (mkF m 173 #[.val (.ref a1), .val (.long q2), .second] [(.long v_sum), (.ref a1)])) _
              refine XS.lloadN X383.here hx rfl (hb hby d4_173) rfl ?_
              show Steps p.tables e below (T383.setTop (mkF m 174 #[.val (.ref a1), .val (.long q2), .second] [(.long q2), (.long v_sum), (.ref a1)])) _
              refine XS.ladd X383.here hx rfl (hb hby d4_174) rfl ?_
              show Steps p.tables e below (T383.setTop (mkF m 175 #[.val (.ref a1), .val (.long q2), .second] [(.long (v_sum + q2)), (.ref a1)])) _
              refine st385 _ ?_
              show Steps p.tables e below (T385.setTop (mkF m 178 #[.val (.ref a1), .val (.long q2), .second] [])) _
              exact X385.returnOut hx Bd.returns (hb hby d4_178) hr
            · show Q4 Z a1 q2 v_count v_sum v_max v_maxc v_below v_min v_minc v_above h0 n0 _ T385.heap _
              rw [e385]
              have fa388 : Exa Z h385 a1 "com/example/placecard/placecard/TableValues" := (fa384.wr W385)
              have fa389 : Fld Z h385 a1 "com/example/placecard/placecard/TableValues" "count" "I" (.int (v_count + (1 : Int32))) := (Fw379.other W385 (Or.inr (slot_ne (Or.inl (hw _ (List.mem_of_getElem? (i := 16) rfl))) (Or.inl (hw _ (List.mem_of_getElem? (i := 18) rfl))) (by decide) (t := .int) (t' := .long) (by decide) (by decide))))
              have lf390 : Fld Z h385 a1 "com/example/placecard/placecard/TableValues" "count" "I" (.int (f4_a1_count q2 v_count v_sum v_max v_maxc v_below v_min v_minc v_above)) := by rw [f4_a1_count, if_neg hc3, if_neg hc52, if_neg hc189, if_neg hc322, if_pos hc369]; exact fa389
              have lf391 : Fld Z h385 a1 "com/example/placecard/placecard/TableValues" "sum" "J" (.long (f4_a1_sum q2 v_count v_sum v_max v_maxc v_below v_min v_minc v_above)) := by rw [f4_a1_sum, if_neg hc3, if_neg hc52, if_neg hc189, if_neg hc322, if_pos hc369]; exact Fw385
              have fa392 : Fld Z h385 a1 "com/example/placecard/placecard/TableValues" "max" "J" (.long v_max) := ((((F_a1_max.other W316 (Or.inr (slot_ne (Or.inl (hw _ (List.mem_of_getElem? (i := 20) rfl))) (Or.inl (hw _ (List.mem_of_getElem? (i := 25) rfl))) (by decide) (t := .long) (t' := .long) (by decide) (by decide)))).other W373 (Or.inr (slot_ne (Or.inl (hw _ (List.mem_of_getElem? (i := 20) rfl))) (Or.inl (hw _ (List.mem_of_getElem? (i := 29) rfl))) (by decide) (t := .long) (t' := .int) (by decide) (by decide)))).other W379 (Or.inr (slot_ne (Or.inl (hw _ (List.mem_of_getElem? (i := 20) rfl))) (Or.inl (hw _ (List.mem_of_getElem? (i := 16) rfl))) (by decide) (t := .long) (t' := .int) (by decide) (by decide)))).other W385 (Or.inr (slot_ne (Or.inl (hw _ (List.mem_of_getElem? (i := 20) rfl))) (Or.inl (hw _ (List.mem_of_getElem? (i := 18) rfl))) (by decide) (t := .long) (t' := .long) (by decide) (by decide))))
              have lf393 : Fld Z h385 a1 "com/example/placecard/placecard/TableValues" "max" "J" (.long (f4_a1_max q2 v_count v_sum v_max v_maxc v_below v_min v_minc v_above)) := by rw [f4_a1_max, if_neg hc3, if_neg hc52, if_neg hc189, if_neg hc322, if_pos hc369]; exact fa392
              have fa394 : Fld Z h385 a1 "com/example/placecard/placecard/TableValues" "maxCount" "I" (.int v_maxc) := ((((F_a1_maxCount.other W316 (Or.inr (slot_ne (Or.inl (hw _ (List.mem_of_getElem? (i := 22) rfl))) (Or.inl (hw _ (List.mem_of_getElem? (i := 25) rfl))) (by decide) (t := .int) (t' := .long) (by decide) (by decide)))).other W373 (Or.inr (slot_ne (Or.inl (hw _ (List.mem_of_getElem? (i := 22) rfl))) (Or.inl (hw _ (List.mem_of_getElem? (i := 29) rfl))) (by decide) (t := .int) (t' := .int) (by decide) (by decide)))).other W379 (Or.inr (slot_ne (Or.inl (hw _ (List.mem_of_getElem? (i := 22) rfl))) (Or.inl (hw _ (List.mem_of_getElem? (i := 16) rfl))) (by decide) (t := .int) (t' := .int) (by decide) (by decide)))).other W385 (Or.inr (slot_ne (Or.inl (hw _ (List.mem_of_getElem? (i := 22) rfl))) (Or.inl (hw _ (List.mem_of_getElem? (i := 18) rfl))) (by decide) (t := .int) (t' := .long) (by decide) (by decide))))
              have lf395 : Fld Z h385 a1 "com/example/placecard/placecard/TableValues" "maxCount" "I" (.int (f4_a1_maxCount q2 v_count v_sum v_max v_maxc v_below v_min v_minc v_above)) := by rw [f4_a1_maxCount, if_neg hc3, if_neg hc52, if_neg hc189, if_neg hc322, if_pos hc369]; exact fa394
              have fa396 : Fld Z h385 a1 "com/example/placecard/placecard/TableValues" "belowMax" "J" (.long (f5 v_below q2)) := (((Fw316.other W373 (Or.inr (slot_ne (Or.inl (hw _ (List.mem_of_getElem? (i := 25) rfl))) (Or.inl (hw _ (List.mem_of_getElem? (i := 29) rfl))) (by decide) (t := .long) (t' := .int) (by decide) (by decide)))).other W379 (Or.inr (slot_ne (Or.inl (hw _ (List.mem_of_getElem? (i := 25) rfl))) (Or.inl (hw _ (List.mem_of_getElem? (i := 16) rfl))) (by decide) (t := .long) (t' := .int) (by decide) (by decide)))).other W385 (Or.inr (slot_ne (Or.inl (hw _ (List.mem_of_getElem? (i := 25) rfl))) (Or.inl (hw _ (List.mem_of_getElem? (i := 18) rfl))) (by decide) (t := .long) (t' := .long) (by decide) (by decide))))
              have lf397 : Fld Z h385 a1 "com/example/placecard/placecard/TableValues" "belowMax" "J" (.long (f4_a1_belowMax q2 v_count v_sum v_max v_maxc v_below v_min v_minc v_above)) := by rw [f4_a1_belowMax, if_neg hc3, if_neg hc52, if_neg hc189, if_neg hc322, if_pos hc369]; exact fa396
              have fa398 : Fld Z h385 a1 "com/example/placecard/placecard/TableValues" "min" "J" (.long v_min) := (((fa319.other W373 (Or.inr (slot_ne (Or.inl (hw _ (List.mem_of_getElem? (i := 27) rfl))) (Or.inl (hw _ (List.mem_of_getElem? (i := 29) rfl))) (by decide) (t := .long) (t' := .int) (by decide) (by decide)))).other W379 (Or.inr (slot_ne (Or.inl (hw _ (List.mem_of_getElem? (i := 27) rfl))) (Or.inl (hw _ (List.mem_of_getElem? (i := 16) rfl))) (by decide) (t := .long) (t' := .int) (by decide) (by decide)))).other W385 (Or.inr (slot_ne (Or.inl (hw _ (List.mem_of_getElem? (i := 27) rfl))) (Or.inl (hw _ (List.mem_of_getElem? (i := 18) rfl))) (by decide) (t := .long) (t' := .long) (by decide) (by decide))))
              have lf399 : Fld Z h385 a1 "com/example/placecard/placecard/TableValues" "min" "J" (.long (f4_a1_min q2 v_count v_sum v_max v_maxc v_below v_min v_minc v_above)) := by rw [f4_a1_min, if_neg hc3, if_neg hc52, if_neg hc189, if_neg hc322, if_pos hc369]; exact fa398
              have fa400 : Fld Z h385 a1 "com/example/placecard/placecard/TableValues" "minCount" "I" (.int (v_minc + (1 : Int32))) := ((Fw373.other W379 (Or.inr (slot_ne (Or.inl (hw _ (List.mem_of_getElem? (i := 29) rfl))) (Or.inl (hw _ (List.mem_of_getElem? (i := 16) rfl))) (by decide) (t := .int) (t' := .int) (by decide) (by decide)))).other W385 (Or.inr (slot_ne (Or.inl (hw _ (List.mem_of_getElem? (i := 29) rfl))) (Or.inl (hw _ (List.mem_of_getElem? (i := 18) rfl))) (by decide) (t := .int) (t' := .long) (by decide) (by decide))))
              have lf401 : Fld Z h385 a1 "com/example/placecard/placecard/TableValues" "minCount" "I" (.int (f4_a1_minCount q2 v_count v_sum v_max v_maxc v_below v_min v_minc v_above)) := by rw [f4_a1_minCount, if_neg hc3, if_neg hc52, if_neg hc189, if_neg hc322, if_pos hc369]; exact fa400
              have fa402 : Fld Z h385 a1 "com/example/placecard/placecard/TableValues" "aboveMin" "J" (.long v_above) := ((((F_a1_aboveMin.other W316 (Or.inr (slot_ne (Or.inl (hw _ (List.mem_of_getElem? (i := 32) rfl))) (Or.inl (hw _ (List.mem_of_getElem? (i := 25) rfl))) (by decide) (t := .long) (t' := .long) (by decide) (by decide)))).other W373 (Or.inr (slot_ne (Or.inl (hw _ (List.mem_of_getElem? (i := 32) rfl))) (Or.inl (hw _ (List.mem_of_getElem? (i := 29) rfl))) (by decide) (t := .long) (t' := .int) (by decide) (by decide)))).other W379 (Or.inr (slot_ne (Or.inl (hw _ (List.mem_of_getElem? (i := 32) rfl))) (Or.inl (hw _ (List.mem_of_getElem? (i := 16) rfl))) (by decide) (t := .long) (t' := .int) (by decide) (by decide)))).other W385 (Or.inr (slot_ne (Or.inl (hw _ (List.mem_of_getElem? (i := 32) rfl))) (Or.inl (hw _ (List.mem_of_getElem? (i := 18) rfl))) (by decide) (t := .long) (t' := .long) (by decide) (by decide))))
              have lf403 : Fld Z h385 a1 "com/example/placecard/placecard/TableValues" "aboveMin" "J" (.long (f4_a1_aboveMin q2 v_count v_sum v_max v_maxc v_below v_min v_minc v_above)) := by rw [f4_a1_aboveMin, if_neg hc3, if_neg hc52, if_neg hc189, if_neg hc322, if_pos hc369]; exact fa402
              exact ⟨rfl, N385, kp387, fa388, lf390, lf391, lf393, lf395, lf397, lf399, lf401, lf403⟩
          · have fa404 : Fld Z h316 a1 "com/example/placecard/placecard/TableValues" "aboveMin" "J" (.long v_above) := (F_a1_aboveMin.other W316 (Or.inr (slot_ne (Or.inl (hw _ (List.mem_of_getElem? (i := 32) rfl))) (Or.inl (hw _ (List.mem_of_getElem? (i := 25) rfl))) (by decide) (t := .long) (t' := .long) (by decide) (by decide))))
            obtain ⟨T405, X405, e405, st405⟩ := getF X367 hx hZ hown (host := "") (Or.inl (hw _ (List.mem_of_getElem? (i := 31) rfl))) Via.refl e367 fa404 (g := (mkF m 148 #[.val (.ref a1), .val (.long q2), .second] [(.ref a1), (.ref a1)])) rfl rfl (hb hby d4_148)
            obtain ⟨_, _, ⟨T406, L406, k406, n406⟩, -, X406, ⟨Lc406, hQ406, lz406, yz406, zz406⟩, st406⟩ := Jvm.LawKit.callS X405 hx (y := (⟨"java/lang/Math", "min", "(JJ)J"⟩ : MethodName)) hown (mvT hZ (hw _ (List.mem_of_getElem? (i := 47) rfl))) (mvT hZ (hw _ (List.mem_of_getElem? (i := 48) rfl))) (mvT hZ (hw _ (List.mem_of_getElem? (i := 40) rfl))) (mvT hZ (hw _ (List.mem_of_getElem? (i := 49) rfl))) (by decide) (backOf (W := 1) (rm7 l Z a0 hw [] v_above q2 h316 n0 zs317 ) hZ (hw _ (List.mem_of_getElem? (i := 49) rfl)) (hw _ (List.mem_of_getElem? (i := 40) rfl)) (by decide) (by decide)) (g := (mkF m 152 #[.val (.ref a1), .val (.long q2), .second] [(.long q2), (.long v_above), (.ref a1)])) rfl (by rw [hml]; rfl) (argsL := [(.long v_above), (.long q2)]) (rest := [(.ref a1)]) (lenOf pd_4_2 rfl) rfl (by show 2 * 0 + _ ≤ _; exact Nat.le_of_eq rfl) (hb hby d4_152) (fun _ _ => ⟨rfl, e405, (by decide : 0 + 0 ≤ _), (by decide : 0 + 0 ≤ _)⟩)
            dsimp only [Pt.U, Pt.locs, Pt.cells, Pt.slots] at X406 lz406 yz406 zz406 st406 hQ406
            subst lz406 yz406 zz406
            obtain ⟨rfl, N406q, e406⟩ := hQ406
            have N406 := Fr.app N316 N406q
            have fa407 : Exa Z h316 a1 "com/example/placecard/placecard/TableValues" := (E_a1.wr W316)
            obtain ⟨T408, h408, X408, e408, W408, st408⟩ := putF X406 hx hZ hown (host := "") (Or.inl (hw _ (List.mem_of_getElem? (i := 31) rfl))) Via.refl e406 fa404 fa407 (Or.inl (hw _ (List.mem_of_getElem? (i := 32) rfl))) (hw _ (List.mem_of_getElem? (i := 2) rfl)) (ty := .long) (by decide) rfl rfl (g := (mkF m 155 #[.val (.ref a1), .val (.long q2), .second] [(.long (f7 v_above q2)), (.ref a1)])) rfl rfl (hb hby d4_155)
            have Fw408 : Fld Z h408 a1 "com/example/placecard/placecard/TableValues" "aboveMin" "J" (.long (f7 v_above q2)) := fa404.same W408
            have zs409 : n0 ≤ h408.size := Nat.le_trans zs317 (Keep.of_wr W408).1
            have kp410 : Keep h0 h408 [a1] := kp318.wr W408 (Or.inl (List.mem_of_getElem? (i := 0) rfl))
            have N408 := Fr.snoc X408 N406 g_a1
            have fa411 : Fld Z h408 a1 "com/example/placecard/placecard/TableValues" "count" "I" (.int v_count) := ((F_a1_count.other W316 (Or.inr (slot_ne (Or.inl (hw _ (List.mem_of_getElem? (i := 16) rfl))) (Or.inl (hw _ (List.mem_of_getElem? (i := 25) rfl))) (by decide) (t := .int) (t' := .long) (by decide) (by decide)))).other W408 (Or.inr (slot_ne (Or.inl (hw _ (List.mem_of_getElem? (i := 16) rfl))) (Or.inl (hw _ (List.mem_of_getElem? (i := 32) rfl))) (by decide) (t := .int) (t' := .long) (by decide) (by decide))))
            obtain ⟨T412, X412, e412, st412⟩ := getF X408 hx hZ hown (host := "") (Or.inl (hw _ (List.mem_of_getElem? (i := 15) rfl))) Via.refl e408 fa411 (g := (mkF m 160 #[.val (.ref a1), .val (.long q2), .second] [(.ref a1), (.ref a1)])) rfl rfl (hb hby d4_160)
            have fa413 : Exa Z h408 a1 "com/example/placecard/placecard/TableValues" := (fa407.wr W408)
            obtain ⟨T414, h414, X414, e414, W414, st414⟩ := putF X412 hx hZ hown (host := "") (Or.inl (hw _ (List.mem_of_getElem? (i := 15) rfl))) Via.refl e412 fa411 fa413 (Or.inl (hw _ (List.mem_of_getElem? (i := 16) rfl))) (hw _ (List.mem_of_getElem? (i := 2) rfl)) (ty := .int) (by decide) rfl rfl (g := (mkF m 165 #[.val (.ref a1), .val (.long q2), .second] [(.int (v_count + (1 : Int32))), (.ref a1)])) rfl rfl (hb hby d4_165)
            have Fw414 : Fld Z h414 a1 "com/example/placecard/placecard/TableValues" "count" "I" (.int (v_count + (1 : Int32))) := fa411.same W414
            have zs415 : n0 ≤ h414.size := Nat.le_trans zs409 (Keep.of_wr W414).1
            have kp416 : Keep h0 h414 [a1] := kp410.wr W414 (Or.inl (List.mem_of_getElem? (i := 0) rfl))
            have N414 := Fr.snoc X414 N408 g_a1
            have fa417 : Fld Z h414 a1 "com/example/placecard/placecard/TableValues" "sum" "J" (.long v_sum) := (((F_a1_sum.other W316 (Or.inr (slot_ne (Or.inl (hw _ (List.mem_of_getElem? (i := 18) rfl))) (Or.inl (hw _ (List.mem_of_getElem? (i := 25) rfl))) (by decide) (t := .long) (t' := .long) (by decide) (by decide)))).other W408 (Or.inr (slot_ne (Or.inl (hw _ (List.mem_of_getElem? (i := 18) rfl))) (Or.inl (hw _ (List.mem_of_getElem? (i := 32) rfl))) (by decide) (t := .long) (t' := .long) (by decide) (by decide)))).other W414 (Or.inr (slot_ne (Or.inl (hw _ (List.mem_of_getElem? (i := 18) rfl))) (Or.inl (hw _ (List.mem_of_getElem? (i := 16) rfl))) (by decide) (t := .long) (t' := .int) (by decide) (by decide))))
            obtain ⟨T418, X418, e418, st418⟩ := getF X414 hx hZ hown (host := "") (Or.inl (hw _ (List.mem_of_getElem? (i := 17) rfl))) Via.refl e414 fa417 (g := (mkF m 170 #[.val (.ref a1), .val (.long q2), .second] [(.ref a1), (.ref a1)])) rfl rfl (hb hby d4_170)
            have fa419 : Exa Z h414 a1 "com/example/placecard/placecard/TableValues" := (fa413.wr W414)
            obtain ⟨T420, h420, X420, e420, W420, st420⟩ := putF X418 hx hZ hown (host := "") (Or.inl (hw _ (List.mem_of_getElem? (i := 17) rfl))) Via.refl e418 fa417 fa419 (Or.inl (hw _ (List.mem_of_getElem? (i := 18) rfl))) (hw _ (List.mem_of_getElem? (i := 2) rfl)) (ty := .long) (by decide) rfl rfl (g := (mkF m 175 #[.val (.ref a1), .val (.long q2), .second] [(.long (v_sum + q2)), (.ref a1)])) rfl rfl (hb hby d4_175)
            have Fw420 : Fld Z h420 a1 "com/example/placecard/placecard/TableValues" "sum" "J" (.long (v_sum + q2)) := fa417.same W420
            have zs421 : n0 ≤ h420.size := Nat.le_trans zs415 (Keep.of_wr W420).1
            have kp422 : Keep h0 h420 [a1] := kp416.wr W420 (Or.inl (List.mem_of_getElem? (i := 0) rfl))
            have N420 := Fr.snoc X420 N414 g_a1
            obtain ⟨fs, hr, hrun, hended, hW, hsame⟩ := X420.leave (v := none) (fun _ => rfl)
            refine ⟨_, _, pre368 _ ?_, hrun, hended, _, _, rfl, ?_, ⟨_, rfl⟩, hW, hsame.mono (by decide) (by decide)⟩
            · show Steps p.tables e below (T367.setTop (mkF m 130 #[.val (.ref a1), .val (.long q2), .second] [(.int (lcmpW q2 v_min))])) _
              refine XS.ifYes X367.here hx rfl (pc0 := 130) (pc' := 146) rfl (hb hby d4_130) rfl ((if0 _ _).trans (feq (mt (lw_eq q2 v_min).mp hc369)).2) (by decide) (by decide) ?_
              show Steps p.tables e below (T367.setTop (mkF m 146 #[.val (.ref a1), .val (.long q2), .second] [])) _
              refine XS.aloadN X367.here hx rfl (hb hby d4_146) rfl rfl ?_
              show Steps p.tables e below (T367.setTop (mkF m 147 #[.val (.ref a1), .val (.long q2), .second] [(.ref a1)])) _
              refine XS.aloadN X367.here hx rfl (hb hby d4_147) rfl rfl ?_
              show Steps p.tables e below (T367.setTop (mkF m 148 #[.val (.ref a1), .val (.long q2), .second] [(.ref a1), (.ref a1)])) _
              refine st405 _ ?_
              show Steps p.tables e below (T405.setTop (mkF m 151 #[.val (.ref a1), .val (.long q2), .second] [(.long v_above), (.ref a1)])) _
              refine XS.lloadN X405.here hx rfl (hb hby d4_151) rfl ?_
              show Steps p.tables e below (T405.setTop (mkF m 152 #[.val (.ref a1), .val (.long q2), .second] [(.long q2), (.long v_above), (.ref a1)])) _
              refine st406 _ ?_
              show Steps p.tables e below (T406.setTop (mkF m 155 #[.val (.ref a1), .val (.long q2), .second] [(.long (f7 v_above q2)), (.ref a1)])) _
              refine st408 _ ?_
              show Steps p.tables e below (T408.setTop (mkF m 158 #[.val (.ref a1), .val (.long q2), .second] [])) _
              refine XS.aloadN X408.here hx rfl (hb hby d4_158) rfl rfl ?_
              show Steps p.tables e below (T408.setTop (mkF m 159 #[.val (.ref a1), .val (.long q2), .second] [(.ref a1)])) _
              refine XS.dup X408.here hx rfl (hb hby d4_159) rfl rfl ?_
              show Steps p.tables e below (T408.setTop (mkF m 160 #[.val (.ref a1), .val (.long q2), .second] [(.ref a1), (.ref a1)])) _
              refine st412 _ ?_
              show Steps p.tables e below (T412.setTop (mkF m 163 #[.val (.ref a1), .val (.long q2), .second] [(.int v_count), (.ref a1)])) _
              refine XS.iconst X412.here hx rfl (hb hby d4_163) ?_
              show Steps p.tables e below (T412.setTop (mkF m 164 #[.val (.ref a1), .val (.long q2), .second] [(.int (1 : Int32)), (.int v_count), (.ref a1)])) _
              refine XS.iadd X412.here hx rfl (hb hby d4_164) rfl ?_
              show Steps p.tables e below (T412.setTop (mkF m 165 #[.val (.ref a1), .val (.long q2), .second] [(.int (v_count + (1 : Int32))), (.ref a1)])) _
              refine st414 _ ?_
              show Steps p.tables e below (T414.setTop (mkF m 168 #[.val (.ref a1), .val (.long q2), .second] [])) _
              refine XS.aloadN X414.here hx rfl (hb hby d4_168) rfl rfl ?_
              show Steps p.tables e below (T414.setTop (mkF m 169 #[.val (.ref a1), .val (.long q2), .second] [(.ref a1)])) _
              refine XS.dup X414.here hx rfl (hb hby d4_169) rfl rfl ?_
              show Steps p.tables e below (T414.setTop (mkF m 170 #[.val (.ref a1), .val (.long q2), .second] [(.ref a1), (.ref a1)])) _
              refine st418 _ ?_
              show Steps p.tables e below (T418.setTop (mkF m 173 #[.val (.ref a1), .val (.long q2), .second] [(.long v_sum), (.ref a1)])) _
              refine XS.lloadN X418.here hx rfl (hb hby d4_173) rfl ?_
              show Steps p.tables e below (T418.setTop (mkF m 174 #[.val (.ref a1), .val (.long q2), .second] [(.long q2), (.long v_sum), (.ref a1)])) _
              refine XS.ladd X418.here hx rfl (hb hby d4_174) rfl ?_
              show Steps p.tables e below (T418.setTop (mkF m 175 #[.val (.ref a1), .val (.long q2), .second] [(.long (v_sum + q2)), (.ref a1)])) _
              refine st420 _ ?_
              show Steps p.tables e below (T420.setTop (mkF m 178 #[.val (.ref a1), .val (.long q2), .second] [])) _
              exact X420.returnOut hx Bd.returns (hb hby d4_178) hr
            · show Q4 Z a1 q2 v_count v_sum v_max v_maxc v_below v_min v_minc v_above h0 n0 _ T420.heap _
              rw [e420]
              have fa423 : Exa Z h420 a1 "com/example/placecard/placecard/TableValues" := (fa419.wr W420)
              have fa424 : Fld Z h420 a1 "com/example/placecard/placecard/TableValues" "count" "I" (.int (v_count + (1 : Int32))) := (Fw414.other W420 (Or.inr (slot_ne (Or.inl (hw _ (List.mem_of_getElem? (i := 16) rfl))) (Or.inl (hw _ (List.mem_of_getElem? (i := 18) rfl))) (by decide) (t := .int) (t' := .long) (by decide) (by decide))))
              have lf425 : Fld Z h420 a1 "com/example/placecard/placecard/TableValues" "count" "I" (.int (f4_a1_count q2 v_count v_sum v_max v_maxc v_below v_min v_minc v_above)) := by rw [f4_a1_count, if_neg hc3, if_neg hc52, if_neg hc189, if_neg hc322, if_neg hc369]; exact fa424
              have lf426 : Fld Z h420 a1 "com/example/placecard/placecard/TableValues" "sum" "J" (.long (f4_a1_sum q2 v_count v_sum v_max v_maxc v_below v_min v_minc v_above)) := by rw [f4_a1_sum, if_neg hc3, if_neg hc52, if_neg hc189, if_neg hc322, if_neg hc369]; exact Fw420
              have fa427 : Fld Z h420 a1 "com/example/placecard/placecard/TableValues" "max" "J" (.long v_max) := ((((F_a1_max.other W316 (Or.inr (slot_ne (Or.inl (hw _ (List.mem_of_getElem? (i := 20) rfl))) (Or.inl (hw _ (List.mem_of_getElem? (i := 25) rfl))) (by decide) (t := .long) (t' := .long) (by decide) (by decide)))).other W408 (Or.inr (slot_ne (Or.inl (hw _ (List.mem_of_getElem? (i := 20) rfl))) (Or.inl (hw _ (List.mem_of_getElem? (i := 32) rfl))) (by decide) (t := .long) (t' := .long) (by decide) (by decide)))).other W414 (Or.inr (slot_ne (Or.inl (hw _ (List.mem_of_getElem? (i := 20) rfl))) (Or.inl (hw _ (List.mem_of_getElem? (i := 16) rfl))) (by decide) (t := .long) (t' := .int) (by decide) (by decide)))).other W420 (Or.inr (slot_ne (Or.inl (hw _ (List.mem_of_getElem? (i := 20) rfl))) (Or.inl (hw _ (List.mem_of_getElem? (i := 18) rfl))) (by decide) (t := .long) (t' := .long) (by decide) (by decide))))
              have lf428 : Fld Z h420 a1 "com/example/placecard/placecard/TableValues" "max" "J" (.long (f4_a1_max q2 v_count v_sum v_max v_maxc v_below v_min v_minc v_above)) := by rw [f4_a1_max, if_neg hc3, if_neg hc52, if_neg hc189, if_neg hc322, if_neg hc369]; exact fa427
              have fa429 : Fld Z h420 a1 "com/example/placecard/placecard/TableValues" "maxCount" "I" (.int v_maxc) := ((((F_a1_maxCount.other W316 (Or.inr (slot_ne (Or.inl (hw _ (List.mem_of_getElem? (i := 22) rfl))) (Or.inl (hw _ (List.mem_of_getElem? (i := 25) rfl))) (by decide) (t := .int) (t' := .long) (by decide) (by decide)))).other W408 (Or.inr (slot_ne (Or.inl (hw _ (List.mem_of_getElem? (i := 22) rfl))) (Or.inl (hw _ (List.mem_of_getElem? (i := 32) rfl))) (by decide) (t := .int) (t' := .long) (by decide) (by decide)))).other W414 (Or.inr (slot_ne (Or.inl (hw _ (List.mem_of_getElem? (i := 22) rfl))) (Or.inl (hw _ (List.mem_of_getElem? (i := 16) rfl))) (by decide) (t := .int) (t' := .int) (by decide) (by decide)))).other W420 (Or.inr (slot_ne (Or.inl (hw _ (List.mem_of_getElem? (i := 22) rfl))) (Or.inl (hw _ (List.mem_of_getElem? (i := 18) rfl))) (by decide) (t := .int) (t' := .long) (by decide) (by decide))))
              have lf430 : Fld Z h420 a1 "com/example/placecard/placecard/TableValues" "maxCount" "I" (.int (f4_a1_maxCount q2 v_count v_sum v_max v_maxc v_below v_min v_minc v_above)) := by rw [f4_a1_maxCount, if_neg hc3, if_neg hc52, if_neg hc189, if_neg hc322, if_neg hc369]; exact fa429
              have fa431 : Fld Z h420 a1 "com/example/placecard/placecard/TableValues" "belowMax" "J" (.long (f5 v_below q2)) := (((Fw316.other W408 (Or.inr (slot_ne (Or.inl (hw _ (List.mem_of_getElem? (i := 25) rfl))) (Or.inl (hw _ (List.mem_of_getElem? (i := 32) rfl))) (by decide) (t := .long) (t' := .long) (by decide) (by decide)))).other W414 (Or.inr (slot_ne (Or.inl (hw _ (List.mem_of_getElem? (i := 25) rfl))) (Or.inl (hw _ (List.mem_of_getElem? (i := 16) rfl))) (by decide) (t := .long) (t' := .int) (by decide) (by decide)))).other W420 (Or.inr (slot_ne (Or.inl (hw _ (List.mem_of_getElem? (i := 25) rfl))) (Or.inl (hw _ (List.mem_of_getElem? (i := 18) rfl))) (by decide) (t := .long) (t' := .long) (by decide) (by decide))))
              have lf432 : Fld Z h420 a1 "com/example/placecard/placecard/TableValues" "belowMax" "J" (.long (f4_a1_belowMax q2 v_count v_sum v_max v_maxc v_below v_min v_minc v_above)) := by rw [f4_a1_belowMax, if_neg hc3, if_neg hc52, if_neg hc189, if_neg hc322, if_neg hc369]; exact fa431
              have fa433 : Fld Z h420 a1 "com/example/placecard/placecard/TableValues" "min" "J" (.long v_min) := (((fa319.other W408 (Or.inr (slot_ne (Or.inl (hw _ (List.mem_of_getElem? (i := 27) rfl))) (Or.inl (hw _ (List.mem_of_getElem? (i := 32) rfl))) (by decide) (t := .long) (t' := .long) (by decide) (by decide)))).other W414 (Or.inr (slot_ne (Or.inl (hw _ (List.mem_of_getElem? (i := 27) rfl))) (Or.inl (hw _ (List.mem_of_getElem? (i := 16) rfl))) (by decide) (t := .long) (t' := .int) (by decide) (by decide)))).other W420 (Or.inr (slot_ne (Or.inl (hw _ (List.mem_of_getElem? (i := 27) rfl))) (Or.inl (hw _ (List.mem_of_getElem? (i := 18) rfl))) (by decide) (t := .long) (t' := .long) (by decide) (by decide))))
              have lf434 : Fld Z h420 a1 "com/example/placecard/placecard/TableValues" "min" "J" (.long (f4_a1_min q2 v_count v_sum v_max v_maxc v_below v_min v_minc v_above)) := by rw [f4_a1_min, if_neg hc3, if_neg hc52, if_neg hc189, if_neg hc322, if_neg hc369]; exact fa433
              have fa435 : Fld Z h420 a1 "com/example/placecard/placecard/TableValues" "minCount" "I" (.int v_minc) := ((((F_a1_minCount.other W316 (Or.inr (slot_ne (Or.inl (hw _ (List.mem_of_getElem? (i := 29) rfl))) (Or.inl (hw _ (List.mem_of_getElem? (i := 25) rfl))) (by decide) (t := .int) (t' := .long) (by decide) (by decide)))).other W408 (Or.inr (slot_ne (Or.inl (hw _ (List.mem_of_getElem? (i := 29) rfl))) (Or.inl (hw _ (List.mem_of_getElem? (i := 32) rfl))) (by decide) (t := .int) (t' := .long) (by decide) (by decide)))).other W414 (Or.inr (slot_ne (Or.inl (hw _ (List.mem_of_getElem? (i := 29) rfl))) (Or.inl (hw _ (List.mem_of_getElem? (i := 16) rfl))) (by decide) (t := .int) (t' := .int) (by decide) (by decide)))).other W420 (Or.inr (slot_ne (Or.inl (hw _ (List.mem_of_getElem? (i := 29) rfl))) (Or.inl (hw _ (List.mem_of_getElem? (i := 18) rfl))) (by decide) (t := .int) (t' := .long) (by decide) (by decide))))
              have lf436 : Fld Z h420 a1 "com/example/placecard/placecard/TableValues" "minCount" "I" (.int (f4_a1_minCount q2 v_count v_sum v_max v_maxc v_below v_min v_minc v_above)) := by rw [f4_a1_minCount, if_neg hc3, if_neg hc52, if_neg hc189, if_neg hc322, if_neg hc369]; exact fa435
              have fa437 : Fld Z h420 a1 "com/example/placecard/placecard/TableValues" "aboveMin" "J" (.long (f7 v_above q2)) := ((Fw408.other W414 (Or.inr (slot_ne (Or.inl (hw _ (List.mem_of_getElem? (i := 32) rfl))) (Or.inl (hw _ (List.mem_of_getElem? (i := 16) rfl))) (by decide) (t := .long) (t' := .int) (by decide) (by decide)))).other W420 (Or.inr (slot_ne (Or.inl (hw _ (List.mem_of_getElem? (i := 32) rfl))) (Or.inl (hw _ (List.mem_of_getElem? (i := 18) rfl))) (by decide) (t := .long) (t' := .long) (by decide) (by decide))))
              have lf438 : Fld Z h420 a1 "com/example/placecard/placecard/TableValues" "aboveMin" "J" (.long (f4_a1_aboveMin q2 v_count v_sum v_max v_maxc v_below v_min v_minc v_above)) := by rw [f4_a1_aboveMin, if_neg hc3, if_neg hc52, if_neg hc189, if_neg hc322, if_neg hc369]; exact fa437
              exact ⟨rfl, N420, kp422, fa423, lf425, lf426, lf428, lf430, lf432, lf434, lf436, lf438⟩
theorem d6_0 : decode prog_44_method_5_code 0 = .ok (.lload_n 1, 1) := by decide +kernel
theorem d6_1 : decode prog_44_method_5_code 1 = .ok (.aload_n 0, 1) := by decide +kernel
theorem d6_2 : decode prog_44_method_5_code 2 = .ok (.getfield 17, 3) := by decide +kernel
theorem d6_5 : decode prog_44_method_5_code 5 = .ok (.lcmp, 1) := by decide +kernel
theorem d6_6 : decode prog_44_method_5_code 6 = .ok (.ifCond .ne 18, 3) := by decide +kernel
theorem d6_9 : decode prog_44_method_5_code 9 = .ok (.aload_n 0, 1) := by decide +kernel
theorem d6_10 : decode prog_44_method_5_code 10 = .ok (.getfield 20, 3) := by decide +kernel
theorem d6_13 : decode prog_44_method_5_code 13 = .ok (.iconst 1, 1) := by decide +kernel
theorem d6_14 : decode prog_44_method_5_code 14 = .ok (.if_icmp .ne 10, 3) := by decide +kernel
theorem d6_17 : decode prog_44_method_5_code 17 = .ok (.aload_n 0, 1) := by decide +kernel
theorem d6_18 : decode prog_44_method_5_code 18 = .ok (.getfield 27, 3) := by decide +kernel
theorem d6_21 : decode prog_44_method_5_code 21 = .ok (.goto 7, 3) := by decide +kernel
theorem d6_24 : decode prog_44_method_5_code 24 = .ok (.aload_n 0, 1) := by decide +kernel
theorem d6_25 : decode prog_44_method_5_code 25 = .ok (.getfield 17, 3) := by decide +kernel
theorem d6_28 : decode prog_44_method_5_code 28 = .ok (.lreturn, 1) := by decide +kernel
theorem pn_6 : plainName "com/example/placecard/placecard/TableValues" = true := by first | (simp [plainName, overriddenIn]; done) | decide +kernel
theorem ef_6 (m : MethodId) (x0 : Addr) (x1 : Int64) : entryFrame m #[(.ref x0), (.long x1)] 3 = mkF m 0 #[.val (.ref x0), .val (.long x1), .second] [] := by first | (simp [entryFrame, mkF, argsToLocals, Value.category]; done) | rfl

def f6 (q2 : Int64) (v_count : Int32) (v_sum : Int64) (v_max : Int64) (v_maxc : Int32) (v_below : Int64) (v_min : Int64) (v_minc : Int32) (v_above : Int64) : Int64 := (if q2 = v_max then (if v_maxc = (1 : Int32) then v_below else v_max) else v_max)
def Q6 (Z : State) (a1 : Addr) (q2 : Int64) (v_count : Int32) (v_sum : Int64) (v_max : Int64) (v_maxc : Int32) (v_below : Int64) (v_min : Int64) (v_minc : Int32) (v_above : Int64) (h0 : Heap) (n0 : Nat) (v : Option Value) (h : Heap) (L : List Loc) : Prop := v = some (.long (f6 q2 v_count v_sum v_max v_maxc v_below v_min v_minc v_above)) ∧ Fr n0 L ∧ h = h0
set_option maxRecDepth 65536 in
set_option maxHeartbeats 40000000 in
theorem rm6 (l : Launch) (Z : State) (a0 : Array Value) (hw : ∀ d ∈ tables_1, d.before a0 Z = true) (ws : List Jvm.Cond) (a1 : Addr) (q2 : Int64) (v_count : Int32) (v_sum : Int64) (v_max : Int64) (v_maxc : Int32) (v_below : Int64) (v_min : Int64) (v_minc : Int32) (v_above : Int64) (h0 : Heap) (n0 : Nat) (Z0 : n0 ≤ h0.size) (E_a1 : Exa Z h0 a1 "com/example/placecard/placecard/TableValues") (F_a1_count : Fld Z h0 a1 "com/example/placecard/placecard/TableValues" "count" "I" (.int v_count)) (F_a1_sum : Fld Z h0 a1 "com/example/placecard/placecard/TableValues" "sum" "J" (.long v_sum)) (F_a1_max : Fld Z h0 a1 "com/example/placecard/placecard/TableValues" "max" "J" (.long v_max)) (F_a1_maxCount : Fld Z h0 a1 "com/example/placecard/placecard/TableValues" "maxCount" "I" (.int v_maxc)) (F_a1_belowMax : Fld Z h0 a1 "com/example/placecard/placecard/TableValues" "belowMax" "J" (.long v_below)) (F_a1_min : Fld Z h0 a1 "com/example/placecard/placecard/TableValues" "min" "J" (.long v_min)) (F_a1_minCount : Fld Z h0 a1 "com/example/placecard/placecard/TableValues" "minCount" "I" (.int v_minc)) (F_a1_aboveMin : Fld Z h0 a1 "com/example/placecard/placecard/TableValues" "aboveMin" "J" (.long v_above)) :
    MetFree l (⟨"com/example/placecard/placecard/TableValues", "maxWithout", "(J)J"⟩ : MethodName) (head1 (Jvm.Cond.code (⟨"com/example/placecard/placecard/TableValues", "maxWithout", "(J)J"⟩ : MethodName) prog_44_method_5_code 3 (some .long) :: ws) ({ frames := 0, cells := 0, slots := 0, locals := 0 } : Room)) (fun a U => a = #[(.ref a1), (.long q2)] ∧ Z.Warmed39 U.vm ∧ U.heap = h0) (fun _ _ _ _ _ => True) (fun _ U o U' => ∃ v L, o = .returned v ∧ Q6 Z a1 q2 v_count v_sum v_max v_maxc v_below v_min v_minc v_above h0 n0 v U'.heap L ∧ FrameEnd U o U' L ({ frames := 0, cells := 0, slots := 0, locals := 0 } : Room).cells ({ frames := 0, cells := 0, slots := 0, locals := 0 } : Room).slots) := by
  refine MetFree.of_bodySF (plainFor_of_name pn_6) hisR ?_
  intro p e s m args below meth c s₁ Bd hml0 hP hK
  obtain ⟨rfl, hZ, hh⟩ := hP
  have hx := Bd.exec
  have hby := Bd.bytes
  have hml : c.maxLocals = 3 := hml0
  have hown : s.vm.findClass "com/example/placecard/placecard/TableValues" = some m.cls := findClass_of_methodNamed Bd.named
  have hnm := (name_of_methodNamed Bd.named Bd.method).1
  have X0 : Stand p l e ({ frames := 0, cells := 0, slots := 0, locals := 0 } : Room) s m #[(.ref a1), (.long q2)] below meth c s₁ [] 0 0 := Stand.of_body Bd
  have e0 : s₁.heap = h0 := by rw [← hh, Bd.state]; rfl
  have N0 := Fr.nil n0
  have pre0 : ∀ t, Steps p.tables e below (s₁.setTop (mkF m 0 #[.val (.ref a1), .val (.long q2), .second] [])) t → Steps p.tables e below (s₁.setTop (entryFrame m #[(.ref a1), (.long q2)] 3)) t := fun t k => castTop (ef_6 m a1 q2) k
  obtain ⟨T1, X1, e1, st1⟩ := getF X0 hx hZ hown (host := "") (Or.inl (hw _ (List.mem_of_getElem? (i := 19) rfl))) Via.refl e0 F_a1_max (g := (mkF m 2 #[.val (.ref a1), .val (.long q2), .second] [(.ref a1), (.long q2)])) rfl rfl (hb hby d6_2)
  have pre2 : ∀ t, Steps p.tables e below (T1.setTop (mkF m 6 #[.val (.ref a1), .val (.long q2), .second] [(.int (lcmpW q2 v_max))])) t → Steps p.tables e below (s₁.setTop (entryFrame m #[(.ref a1), (.long q2)] 3)) t := fun t kt => by
    refine pre0 _ ?_
    show Steps p.tables e below (s₁.setTop (mkF m 0 #[.val (.ref a1), .val (.long q2), .second] [])) _
    refine XS.lloadN X0.here hx rfl (hb hby d6_0) rfl ?_
    show Steps p.tables e below (s₁.setTop (mkF m 1 #[.val (.ref a1), .val (.long q2), .second] [(.long q2)])) _
    refine XS.aloadN X0.here hx rfl (hb hby d6_1) rfl rfl ?_
    show Steps p.tables e below (s₁.setTop (mkF m 2 #[.val (.ref a1), .val (.long q2), .second] [(.ref a1), (.long q2)])) _
    refine st1 _ ?_
    show Steps p.tables e below (T1.setTop (mkF m 5 #[.val (.ref a1), .val (.long q2), .second] [(.long v_max), (.long q2)])) _
    refine XS.lcmp X1.here hx rfl (hb hby d6_5) rfl ?_
    exact kt
  by_cases hc3 : q2 = v_max
  · obtain ⟨T4, X4, e4, st4⟩ := getF X1 hx hZ hown (host := "") (Or.inl (hw _ (List.mem_of_getElem? (i := 21) rfl))) Via.refl e1 F_a1_maxCount (g := (mkF m 10 #[.val (.ref a1), .val (.long q2), .second] [(.ref a1)])) rfl rfl (hb hby d6_10)
    have pre5 : ∀ t, Steps p.tables e below (T4.setTop (mkF m 14 #[.val (.ref a1), .val (.long q2), .second] [(.int (1 : Int32)), (.int v_maxc)])) t → Steps p.tables e below (s₁.setTop (entryFrame m #[(.ref a1), (.long q2)] 3)) t := fun t kt => by
      refine pre2 _ ?_
      show Steps p.tables e below (T1.setTop (mkF m 6 #[.val (.ref a1), .val (.long q2), .second] [(.int (lcmpW q2 v_max))])) _
      refine XS.ifNo X1.here hx rfl (hb hby d6_6) rfl ((if0 _ _).trans (teq ((lw_eq q2 v_max).mpr hc3)).2) ?_
      show Steps p.tables e below (T1.setTop (mkF m 9 #[.val (.ref a1), .val (.long q2), .second] [])) _
      refine XS.aloadN X1.here hx rfl (hb hby d6_9) rfl rfl ?_
      show Steps p.tables e below (T1.setTop (mkF m 10 #[.val (.ref a1), .val (.long q2), .second] [(.ref a1)])) _
      refine st4 _ ?_
      show Steps p.tables e below (T4.setTop (mkF m 13 #[.val (.ref a1), .val (.long q2), .second] [(.int v_maxc)])) _
      refine XS.iconst X4.here hx rfl (hb hby d6_13) ?_
      exact kt
    by_cases hc6 : v_maxc = (1 : Int32)
    · obtain ⟨T7, X7, e7, st7⟩ := getF X4 hx hZ hown (host := "") (Or.inl (hw _ (List.mem_of_getElem? (i := 24) rfl))) Via.refl e4 F_a1_belowMax (g := (mkF m 18 #[.val (.ref a1), .val (.long q2), .second] [(.ref a1)])) rfl rfl (hb hby d6_18)
      obtain ⟨fs, hr, hrun, hended, hW, hsame⟩ := X7.leave (v := some (.long v_below)) (fun h => by rw [Bd.returns] at h; cases h)
      refine ⟨_, _, pre5 _ ?_, hrun, hended, _, _, rfl, ?_, ⟨_, rfl⟩, hW, hsame.mono (by decide) (by decide)⟩
      · show Steps p.tables e below (T4.setTop (mkF m 14 #[.val (.ref a1), .val (.long q2), .second] [(.int (1 : Int32)), (.int v_maxc)])) _
        refine XS.icmpNo X4.here hx rfl (hb hby d6_14) rfl (teq hc6).2 ?_
        show Steps p.tables e below (T4.setTop (mkF m 17 #[.val (.ref a1), .val (.long q2), .second] [])) _
        refine XS.aloadN X4.here hx rfl (hb hby d6_17) rfl rfl ?_
        show Steps p.tables e below (T4.setTop (mkF m 18 #[.val (.ref a1), .val (.long q2), .second] [(.ref a1)])) _
        refine st7 _ ?_
        show Steps p.tables e below (T7.setTop (mkF m 21 #[.val (.ref a1), .val (.long q2), .second] [(.long v_below)])) _
        refine XS.goto X7.here hx rfl (pc0 := 21) (pc' := 28) rfl (hb hby d6_21) (by decide) (by decide) ?_
        show Steps p.tables e below (T7.setTop (mkF m 28 #[.val (.ref a1), .val (.long q2), .second] [(.long v_below)])) _
        exact X7.lreturnOut hx Bd.returns (hb hby d6_28) hr
      · show Q6 Z a1 q2 v_count v_sum v_max v_maxc v_below v_min v_minc v_above h0 n0 _ T7.heap _
        rw [e7]
        exact ⟨by rw [f6, if_pos hc3, if_pos hc6], N0, rfl⟩
    · obtain ⟨T8, X8, e8, st8⟩ := getF X4 hx hZ hown (host := "") (Or.inl (hw _ (List.mem_of_getElem? (i := 19) rfl))) Via.refl e4 F_a1_max (g := (mkF m 25 #[.val (.ref a1), .val (.long q2), .second] [(.ref a1)])) rfl rfl (hb hby d6_25)
      obtain ⟨fs, hr, hrun, hended, hW, hsame⟩ := X8.leave (v := some (.long v_max)) (fun h => by rw [Bd.returns] at h; cases h)
      refine ⟨_, _, pre5 _ ?_, hrun, hended, _, _, rfl, ?_, ⟨_, rfl⟩, hW, hsame.mono (by decide) (by decide)⟩
      · show Steps p.tables e below (T4.setTop (mkF m 14 #[.val (.ref a1), .val (.long q2), .second] [(.int (1 : Int32)), (.int v_maxc)])) _
        refine XS.icmpYes X4.here hx rfl (pc0 := 14) (pc' := 24) rfl (hb hby d6_14) rfl (feq hc6).2 (by decide) (by decide) ?_
        show Steps p.tables e below (T4.setTop (mkF m 24 #[.val (.ref a1), .val (.long q2), .second] [])) _
        refine XS.aloadN X4.here hx rfl (hb hby d6_24) rfl rfl ?_
        show Steps p.tables e below (T4.setTop (mkF m 25 #[.val (.ref a1), .val (.long q2), .second] [(.ref a1)])) _
        refine st8 _ ?_
        show Steps p.tables e below (T8.setTop (mkF m 28 #[.val (.ref a1), .val (.long q2), .second] [(.long v_max)])) _
        exact X8.lreturnOut hx Bd.returns (hb hby d6_28) hr
      · show Q6 Z a1 q2 v_count v_sum v_max v_maxc v_below v_min v_minc v_above h0 n0 _ T8.heap _
        rw [e8]
        exact ⟨by rw [f6, if_pos hc3, if_neg hc6], N0, rfl⟩
  · obtain ⟨T9, X9, e9, st9⟩ := getF X1 hx hZ hown (host := "") (Or.inl (hw _ (List.mem_of_getElem? (i := 19) rfl))) Via.refl e1 F_a1_max (g := (mkF m 25 #[.val (.ref a1), .val (.long q2), .second] [(.ref a1)])) rfl rfl (hb hby d6_25)
    obtain ⟨fs, hr, hrun, hended, hW, hsame⟩ := X9.leave (v := some (.long v_max)) (fun h => by rw [Bd.returns] at h; cases h)
    refine ⟨_, _, pre2 _ ?_, hrun, hended, _, _, rfl, ?_, ⟨_, rfl⟩, hW, hsame.mono (by decide) (by decide)⟩
    · show Steps p.tables e below (T1.setTop (mkF m 6 #[.val (.ref a1), .val (.long q2), .second] [(.int (lcmpW q2 v_max))])) _
      refine XS.ifYes X1.here hx rfl (pc0 := 6) (pc' := 24) rfl (hb hby d6_6) rfl ((if0 _ _).trans (feq (mt (lw_eq q2 v_max).mp hc3)).2) (by decide) (by decide) ?_
      show Steps p.tables e below (T1.setTop (mkF m 24 #[.val (.ref a1), .val (.long q2), .second] [])) _
      refine XS.aloadN X1.here hx rfl (hb hby d6_24) rfl rfl ?_
      show Steps p.tables e below (T1.setTop (mkF m 25 #[.val (.ref a1), .val (.long q2), .second] [(.ref a1)])) _
      refine st9 _ ?_
      show Steps p.tables e below (T9.setTop (mkF m 28 #[.val (.ref a1), .val (.long q2), .second] [(.long v_max)])) _
      exact X9.lreturnOut hx Bd.returns (hb hby d6_28) hr
    · show Q6 Z a1 q2 v_count v_sum v_max v_maxc v_below v_min v_minc v_above h0 n0 _ T9.heap _
      rw [e9]
      exact ⟨by rw [f6, if_neg hc3], N0, rfl⟩
theorem own_count (q : Int64) (c : Int32) (s mx : Int64) (mc : Int32) (bm mi : Int64) (nc : Int32) (am : Int64) : f4_a1_count q c s mx mc bm mi nc am = (c + (1 : Int32)) := by
  unfold f4_a1_count
  repeat' split
  all_goals first | rfl | contradiction
theorem own_sum (q : Int64) (c : Int32) (s mx : Int64) (mc : Int32) (bm mi : Int64) (nc : Int32) (am : Int64) : f4_a1_sum q c s mx mc bm mi nc am = (s + q) := by
  unfold f4_a1_sum
  repeat' split
  all_goals first | rfl | contradiction
theorem own_max (q : Int64) (c : Int32) (s mx : Int64) (mc : Int32) (bm mi : Int64) (nc : Int32) (am : Int64) : f4_a1_max q c s mx mc bm mi nc am = (if c = (0 : Int32) then q else if mx < q then q else mx) := by
  unfold f4_a1_max
  repeat' split
  all_goals first | rfl | contradiction
theorem own_maxCount (q : Int64) (c : Int32) (s mx : Int64) (mc : Int32) (bm mi : Int64) (nc : Int32) (am : Int64) : f4_a1_maxCount q c s mx mc bm mi nc am = (if c = (0 : Int32) then (1 : Int32) else if mx < q then (1 : Int32) else if q = mx then mc + (1 : Int32) else mc) := by
  unfold f4_a1_maxCount
  repeat' split
  all_goals first | rfl | contradiction
theorem own_belowMax (q : Int64) (c : Int32) (s mx : Int64) (mc : Int32) (bm mi : Int64) (nc : Int32) (am : Int64) : f4_a1_belowMax q c s mx mc bm mi nc am = (if c = (0 : Int32) then bm else if mx < q then mx else if q = mx then bm else f5 bm q) := by
  unfold f4_a1_belowMax
  repeat' split
  all_goals first | rfl | contradiction
theorem own_min (q : Int64) (c : Int32) (s mx : Int64) (mc : Int32) (bm mi : Int64) (nc : Int32) (am : Int64) : f4_a1_min q c s mx mc bm mi nc am = (if c = (0 : Int32) then q else if q < mi then q else mi) := by
  unfold f4_a1_min
  repeat' split
  all_goals first | rfl | contradiction
theorem own_minCount (q : Int64) (c : Int32) (s mx : Int64) (mc : Int32) (bm mi : Int64) (nc : Int32) (am : Int64) : f4_a1_minCount q c s mx mc bm mi nc am = (if c = (0 : Int32) then (1 : Int32) else if q < mi then (1 : Int32) else if q = mi then nc + (1 : Int32) else nc) := by
  unfold f4_a1_minCount
  repeat' split
  all_goals first | rfl | contradiction
theorem own_aboveMin (q : Int64) (c : Int32) (s mx : Int64) (mc : Int32) (bm mi : Int64) (nc : Int32) (am : Int64) : f4_a1_aboveMin q c s mx mc bm mi nc am = (if c = (0 : Int32) then am else if q < mi then mi else if q = mi then am else f7 am q) := by
  unfold f4_a1_aboveMin
  repeat' split
  all_goals first | rfl | contradiction
theorem own_tri (a b : Int64) : (a < b ∧ ¬ a = b ∧ ¬ b = a ∧ ¬ b < a) ∨ a = b ∨ (b < a ∧ ¬ a = b ∧ ¬ b = a ∧ ¬ a < b) := by
  simp only [Int64.lt_iff_toInt_lt, ← Int64.toInt_inj]; omega
theorem own_i0 (x : Int64) : ¬ x < x := Int64.lt_irrefl
theorem own_c2 : ¬ ((1 : Int32) + 1 = 1) := by decide
theorem own_c3 : ¬ ((1 : Int32) + 1 + 1 = 1) := by decide
theorem own_z1 : ¬ ((0 : Int32) + 1 = 0) := by decide
theorem own_z2 : ¬ ((0 : Int32) + 1 + 1 = 0) := by decide
theorem own_maxm (b : Int64) : f5 (-9223372036854775808 : Int64) b = b := by
  have hm : (-9223372036854775808 : Int64).toInt = -9223372036854775808 := by decide
  have r2 := rng64 b
  unfold f5
  split
  all_goals first | rfl | (simp only [Int64.lt_iff_toInt_lt, ← Int64.toInt_inj, hm] at *; omega)
theorem own_max3 (a b c : Int64) : (let M2 := if a < b then b else a
  let C2 : Int32 := if a < b then 1 else if b = a then 1 + 1 else 1
  let B2 := if a < b then a else if b = a then (-9223372036854775808 : Int64) else f5 (-9223372036854775808 : Int64) b
  let M3 := if M2 < c then c else M2
  let C3 := if M2 < c then 1 else if c = M2 then C2 + 1 else C2
  let B3 := if M2 < c then M2 else if c = M2 then B2 else f5 B2 c
  let W := fun r => if r = M3 then (if C3 = 1 then B3 else M3) else M3
  W a = f5 b c ∧ W b = f5 a c ∧ W c = f5 a b) := by
  rw [own_maxm]
  rcases own_tri a b with ⟨h1, h2, h3, h4⟩ | h | ⟨h1, h2, h3, h4⟩
  all_goals rcases own_tri a c with ⟨g1, g2, g3, g4⟩ | g | ⟨g1, g2, g3, g4⟩
  all_goals rcases own_tri b c with ⟨k1, k2, k3, k4⟩ | k | ⟨k1, k2, k3, k4⟩
  all_goals (try subst h)
  all_goals (try subst g)
  all_goals (try subst k)
  all_goals first
    | (exfalso; simp only [Int64.lt_iff_toInt_lt, ← Int64.toInt_inj] at *; omega)
    | simp only [*, own_i0, own_c2, own_c3, own_maxm, f5, if_true, if_false, ite_self, and_self, reduceIte]
theorem own_max2 (a b : Int64) : (let M2 := if a < b then b else a
  let C2 : Int32 := if a < b then 1 else if b = a then 1 + 1 else 1
  let B2 := if a < b then a else if b = a then (-9223372036854775808 : Int64) else f5 (-9223372036854775808 : Int64) b
  let W := fun r => if r = M2 then (if C2 = 1 then B2 else M2) else M2
  W a = b ∧ W b = a) := by
  rw [own_maxm]
  rcases own_tri a b with ⟨h1, h2, h3, h4⟩ | h | ⟨h1, h2, h3, h4⟩
  all_goals (try subst h)
  all_goals simp only [*, own_i0, own_c2, own_c3, own_maxm, f5, if_true, if_false, ite_self, and_self, reduceIte]
theorem pn_0 : plainName "com/example/placecard/placecard/TableValuesMaxWithoutPinLaw" = true := by first | (simp [plainName, overriddenIn]; done) | decide +kernel
theorem pd_0_0 : parseMethodDescriptor "()V" = some ⟨[], none⟩ := by decide +kernel
theorem pd_0_1 : parseMethodDescriptor "(J)V" = some ⟨[.long], none⟩ := by decide +kernel
theorem pd_0_2 : parseMethodDescriptor "(JJ)J" = some ⟨[.long, .long], some .long⟩ := by decide +kernel
theorem pd_0_3 : parseMethodDescriptor "(J)J" = some ⟨[.long], some .long⟩ := by decide +kernel
theorem ef_0 (m : MethodId) (x0 : Int64) (x1 : Int64) (x2 : Int64) (x3 : Int32) : entryFrame m #[(.long x0), (.long x1), (.long x2), (.int x3)] maxLocals = mkF m 0 #[.val (.long x0), .second, .val (.long x1), .second, .val (.long x2), .second, .val (.int x3), .unset, .unset, .unset, .unset, .unset, .unset] [] := by first | (simp [entryFrame, mkF, argsToLocals, Value.category, maxLocals]; done) | rfl
def ab0_0 (q1 : Int64) (q2 : Int64) (q3 : Int64) (p4 : Int32) : Int32 := (f4_a1_count q1 (0 : Int32) (0 : Int64) (0 : Int64) (0 : Int32) (-9223372036854775808 : Int64) (0 : Int64) (0 : Int32) (9223372036854775807 : Int64))
def ab0_1 (q1 : Int64) (q2 : Int64) (q3 : Int64) (p4 : Int32) : Int64 := (f4_a1_sum q1 (0 : Int32) (0 : Int64) (0 : Int64) (0 : Int32) (-9223372036854775808 : Int64) (0 : Int64) (0 : Int32) (9223372036854775807 : Int64))
def ab0_2 (q1 : Int64) (q2 : Int64) (q3 : Int64) (p4 : Int32) : Int64 := (f4_a1_max q1 (0 : Int32) (0 : Int64) (0 : Int64) (0 : Int32) (-9223372036854775808 : Int64) (0 : Int64) (0 : Int32) (9223372036854775807 : Int64))
def ab0_3 (q1 : Int64) (q2 : Int64) (q3 : Int64) (p4 : Int32) : Int32 := (f4_a1_maxCount q1 (0 : Int32) (0 : Int64) (0 : Int64) (0 : Int32) (-9223372036854775808 : Int64) (0 : Int64) (0 : Int32) (9223372036854775807 : Int64))
def ab0_4 (q1 : Int64) (q2 : Int64) (q3 : Int64) (p4 : Int32) : Int64 := (f4_a1_belowMax q1 (0 : Int32) (0 : Int64) (0 : Int64) (0 : Int32) (-9223372036854775808 : Int64) (0 : Int64) (0 : Int32) (9223372036854775807 : Int64))
def ab0_5 (q1 : Int64) (q2 : Int64) (q3 : Int64) (p4 : Int32) : Int64 := (f4_a1_min q1 (0 : Int32) (0 : Int64) (0 : Int64) (0 : Int32) (-9223372036854775808 : Int64) (0 : Int64) (0 : Int32) (9223372036854775807 : Int64))
def ab0_6 (q1 : Int64) (q2 : Int64) (q3 : Int64) (p4 : Int32) : Int32 := (f4_a1_minCount q1 (0 : Int32) (0 : Int64) (0 : Int64) (0 : Int32) (-9223372036854775808 : Int64) (0 : Int64) (0 : Int32) (9223372036854775807 : Int64))
def ab0_7 (q1 : Int64) (q2 : Int64) (q3 : Int64) (p4 : Int32) : Int64 := (f4_a1_aboveMin q1 (0 : Int32) (0 : Int64) (0 : Int64) (0 : Int32) (-9223372036854775808 : Int64) (0 : Int64) (0 : Int32) (9223372036854775807 : Int64))
def ab0_8 (q1 : Int64) (q2 : Int64) (q3 : Int64) (p4 : Int32) : Int32 := (f4_a1_count q2 (ab0_0 q1 q2 q3 p4) (ab0_1 q1 q2 q3 p4) (ab0_2 q1 q2 q3 p4) (ab0_3 q1 q2 q3 p4) (ab0_4 q1 q2 q3 p4) (ab0_5 q1 q2 q3 p4) (ab0_6 q1 q2 q3 p4) (ab0_7 q1 q2 q3 p4))
def ab0_9 (q1 : Int64) (q2 : Int64) (q3 : Int64) (p4 : Int32) : Int64 := (f4_a1_sum q2 (ab0_0 q1 q2 q3 p4) (ab0_1 q1 q2 q3 p4) (ab0_2 q1 q2 q3 p4) (ab0_3 q1 q2 q3 p4) (ab0_4 q1 q2 q3 p4) (ab0_5 q1 q2 q3 p4) (ab0_6 q1 q2 q3 p4) (ab0_7 q1 q2 q3 p4))
def ab0_10 (q1 : Int64) (q2 : Int64) (q3 : Int64) (p4 : Int32) : Int64 := (f4_a1_max q2 (ab0_0 q1 q2 q3 p4) (ab0_1 q1 q2 q3 p4) (ab0_2 q1 q2 q3 p4) (ab0_3 q1 q2 q3 p4) (ab0_4 q1 q2 q3 p4) (ab0_5 q1 q2 q3 p4) (ab0_6 q1 q2 q3 p4) (ab0_7 q1 q2 q3 p4))
def ab0_11 (q1 : Int64) (q2 : Int64) (q3 : Int64) (p4 : Int32) : Int32 := (f4_a1_maxCount q2 (ab0_0 q1 q2 q3 p4) (ab0_1 q1 q2 q3 p4) (ab0_2 q1 q2 q3 p4) (ab0_3 q1 q2 q3 p4) (ab0_4 q1 q2 q3 p4) (ab0_5 q1 q2 q3 p4) (ab0_6 q1 q2 q3 p4) (ab0_7 q1 q2 q3 p4))
def ab0_12 (q1 : Int64) (q2 : Int64) (q3 : Int64) (p4 : Int32) : Int64 := (f4_a1_belowMax q2 (ab0_0 q1 q2 q3 p4) (ab0_1 q1 q2 q3 p4) (ab0_2 q1 q2 q3 p4) (ab0_3 q1 q2 q3 p4) (ab0_4 q1 q2 q3 p4) (ab0_5 q1 q2 q3 p4) (ab0_6 q1 q2 q3 p4) (ab0_7 q1 q2 q3 p4))
def ab0_13 (q1 : Int64) (q2 : Int64) (q3 : Int64) (p4 : Int32) : Int64 := (f4_a1_min q2 (ab0_0 q1 q2 q3 p4) (ab0_1 q1 q2 q3 p4) (ab0_2 q1 q2 q3 p4) (ab0_3 q1 q2 q3 p4) (ab0_4 q1 q2 q3 p4) (ab0_5 q1 q2 q3 p4) (ab0_6 q1 q2 q3 p4) (ab0_7 q1 q2 q3 p4))
def ab0_14 (q1 : Int64) (q2 : Int64) (q3 : Int64) (p4 : Int32) : Int32 := (f4_a1_minCount q2 (ab0_0 q1 q2 q3 p4) (ab0_1 q1 q2 q3 p4) (ab0_2 q1 q2 q3 p4) (ab0_3 q1 q2 q3 p4) (ab0_4 q1 q2 q3 p4) (ab0_5 q1 q2 q3 p4) (ab0_6 q1 q2 q3 p4) (ab0_7 q1 q2 q3 p4))
def ab0_15 (q1 : Int64) (q2 : Int64) (q3 : Int64) (p4 : Int32) : Int64 := (f4_a1_aboveMin q2 (ab0_0 q1 q2 q3 p4) (ab0_1 q1 q2 q3 p4) (ab0_2 q1 q2 q3 p4) (ab0_3 q1 q2 q3 p4) (ab0_4 q1 q2 q3 p4) (ab0_5 q1 q2 q3 p4) (ab0_6 q1 q2 q3 p4) (ab0_7 q1 q2 q3 p4))
def ab0_16 (q1 : Int64) (q2 : Int64) (q3 : Int64) (p4 : Int32) : Int32 := (f4_a1_count q3 (ab0_8 q1 q2 q3 p4) (ab0_9 q1 q2 q3 p4) (ab0_10 q1 q2 q3 p4) (ab0_11 q1 q2 q3 p4) (ab0_12 q1 q2 q3 p4) (ab0_13 q1 q2 q3 p4) (ab0_14 q1 q2 q3 p4) (ab0_15 q1 q2 q3 p4))
def ab0_17 (q1 : Int64) (q2 : Int64) (q3 : Int64) (p4 : Int32) : Int64 := (f4_a1_sum q3 (ab0_8 q1 q2 q3 p4) (ab0_9 q1 q2 q3 p4) (ab0_10 q1 q2 q3 p4) (ab0_11 q1 q2 q3 p4) (ab0_12 q1 q2 q3 p4) (ab0_13 q1 q2 q3 p4) (ab0_14 q1 q2 q3 p4) (ab0_15 q1 q2 q3 p4))
def ab0_18 (q1 : Int64) (q2 : Int64) (q3 : Int64) (p4 : Int32) : Int64 := (f4_a1_max q3 (ab0_8 q1 q2 q3 p4) (ab0_9 q1 q2 q3 p4) (ab0_10 q1 q2 q3 p4) (ab0_11 q1 q2 q3 p4) (ab0_12 q1 q2 q3 p4) (ab0_13 q1 q2 q3 p4) (ab0_14 q1 q2 q3 p4) (ab0_15 q1 q2 q3 p4))
def ab0_19 (q1 : Int64) (q2 : Int64) (q3 : Int64) (p4 : Int32) : Int32 := (f4_a1_maxCount q3 (ab0_8 q1 q2 q3 p4) (ab0_9 q1 q2 q3 p4) (ab0_10 q1 q2 q3 p4) (ab0_11 q1 q2 q3 p4) (ab0_12 q1 q2 q3 p4) (ab0_13 q1 q2 q3 p4) (ab0_14 q1 q2 q3 p4) (ab0_15 q1 q2 q3 p4))
def ab0_20 (q1 : Int64) (q2 : Int64) (q3 : Int64) (p4 : Int32) : Int64 := (f4_a1_belowMax q3 (ab0_8 q1 q2 q3 p4) (ab0_9 q1 q2 q3 p4) (ab0_10 q1 q2 q3 p4) (ab0_11 q1 q2 q3 p4) (ab0_12 q1 q2 q3 p4) (ab0_13 q1 q2 q3 p4) (ab0_14 q1 q2 q3 p4) (ab0_15 q1 q2 q3 p4))
def ab0_21 (q1 : Int64) (q2 : Int64) (q3 : Int64) (p4 : Int32) : Int64 := (f4_a1_min q3 (ab0_8 q1 q2 q3 p4) (ab0_9 q1 q2 q3 p4) (ab0_10 q1 q2 q3 p4) (ab0_11 q1 q2 q3 p4) (ab0_12 q1 q2 q3 p4) (ab0_13 q1 q2 q3 p4) (ab0_14 q1 q2 q3 p4) (ab0_15 q1 q2 q3 p4))
def ab0_22 (q1 : Int64) (q2 : Int64) (q3 : Int64) (p4 : Int32) : Int32 := (f4_a1_minCount q3 (ab0_8 q1 q2 q3 p4) (ab0_9 q1 q2 q3 p4) (ab0_10 q1 q2 q3 p4) (ab0_11 q1 q2 q3 p4) (ab0_12 q1 q2 q3 p4) (ab0_13 q1 q2 q3 p4) (ab0_14 q1 q2 q3 p4) (ab0_15 q1 q2 q3 p4))
def ab0_23 (q1 : Int64) (q2 : Int64) (q3 : Int64) (p4 : Int32) : Int64 := (f4_a1_aboveMin q3 (ab0_8 q1 q2 q3 p4) (ab0_9 q1 q2 q3 p4) (ab0_10 q1 q2 q3 p4) (ab0_11 q1 q2 q3 p4) (ab0_12 q1 q2 q3 p4) (ab0_13 q1 q2 q3 p4) (ab0_14 q1 q2 q3 p4) (ab0_15 q1 q2 q3 p4))
theorem own_fin0 (q1 q2 q3 : Int64) (p4 : Int32) : (f6 q1 (ab0_16 q1 q2 q3 p4) (ab0_17 q1 q2 q3 p4) (ab0_18 q1 q2 q3 p4) (ab0_19 q1 q2 q3 p4) (ab0_20 q1 q2 q3 p4) (ab0_21 q1 q2 q3 p4) (ab0_22 q1 q2 q3 p4) (ab0_23 q1 q2 q3 p4)) = (f5 q2 q3) := by
  have h := (own_max3 q1 q2 q3).1
  simp only [f6, ab0_0, ab0_1, ab0_2, ab0_3, ab0_4, ab0_5, ab0_6, ab0_7, ab0_8, ab0_9, ab0_10, ab0_11, ab0_12, ab0_13, ab0_14, ab0_15, ab0_16, ab0_17, ab0_18, ab0_19, ab0_20, ab0_21, ab0_22, ab0_23, own_count, own_max, own_maxCount, own_belowMax, own_z1, own_z2, if_true, if_false, reduceIte] at h ⊢
  exact h
theorem own_fin1 (q1 q2 q3 : Int64) (p4 : Int32) : (f6 q2 (ab0_16 q1 q2 q3 p4) (ab0_17 q1 q2 q3 p4) (ab0_18 q1 q2 q3 p4) (ab0_19 q1 q2 q3 p4) (ab0_20 q1 q2 q3 p4) (ab0_21 q1 q2 q3 p4) (ab0_22 q1 q2 q3 p4) (ab0_23 q1 q2 q3 p4)) = (f5 q1 q3) := by
  have h := (own_max3 q1 q2 q3).2.1
  simp only [f6, ab0_0, ab0_1, ab0_2, ab0_3, ab0_4, ab0_5, ab0_6, ab0_7, ab0_8, ab0_9, ab0_10, ab0_11, ab0_12, ab0_13, ab0_14, ab0_15, ab0_16, ab0_17, ab0_18, ab0_19, ab0_20, ab0_21, ab0_22, ab0_23, own_count, own_max, own_maxCount, own_belowMax, own_z1, own_z2, if_true, if_false, reduceIte] at h ⊢
  exact h
theorem own_fin2 (q1 q2 q3 : Int64) (p4 : Int32) : (f6 q3 (ab0_16 q1 q2 q3 p4) (ab0_17 q1 q2 q3 p4) (ab0_18 q1 q2 q3 p4) (ab0_19 q1 q2 q3 p4) (ab0_20 q1 q2 q3 p4) (ab0_21 q1 q2 q3 p4) (ab0_22 q1 q2 q3 p4) (ab0_23 q1 q2 q3 p4)) = (f5 q1 q2) := by
  have h := (own_max3 q1 q2 q3).2.2
  simp only [f6, ab0_0, ab0_1, ab0_2, ab0_3, ab0_4, ab0_5, ab0_6, ab0_7, ab0_8, ab0_9, ab0_10, ab0_11, ab0_12, ab0_13, ab0_14, ab0_15, ab0_16, ab0_17, ab0_18, ab0_19, ab0_20, ab0_21, ab0_22, ab0_23, own_count, own_max, own_maxCount, own_belowMax, own_z1, own_z2, if_true, if_false, reduceIte] at h ⊢
  exact h
theorem own_fin3 (q1 q2 q3 : Int64) (p4 : Int32) : (f6 q1 (ab0_8 q1 q2 q3 p4) (ab0_9 q1 q2 q3 p4) (ab0_10 q1 q2 q3 p4) (ab0_11 q1 q2 q3 p4) (ab0_12 q1 q2 q3 p4) (ab0_13 q1 q2 q3 p4) (ab0_14 q1 q2 q3 p4) (ab0_15 q1 q2 q3 p4)) = q2 := by
  have h := (own_max2 q1 q2).1
  simp only [f6, ab0_0, ab0_1, ab0_2, ab0_3, ab0_4, ab0_5, ab0_6, ab0_7, ab0_8, ab0_9, ab0_10, ab0_11, ab0_12, ab0_13, ab0_14, ab0_15, ab0_16, ab0_17, ab0_18, ab0_19, ab0_20, ab0_21, ab0_22, ab0_23, own_count, own_max, own_maxCount, own_belowMax, own_z1, own_z2, if_true, if_false, reduceIte] at h ⊢
  exact h
theorem own_fin4 (q1 q2 q3 : Int64) (p4 : Int32) : (f6 q2 (ab0_8 q1 q2 q3 p4) (ab0_9 q1 q2 q3 p4) (ab0_10 q1 q2 q3 p4) (ab0_11 q1 q2 q3 p4) (ab0_12 q1 q2 q3 p4) (ab0_13 q1 q2 q3 p4) (ab0_14 q1 q2 q3 p4) (ab0_15 q1 q2 q3 p4)) = q1 := by
  have h := (own_max2 q1 q2).2
  simp only [f6, ab0_0, ab0_1, ab0_2, ab0_3, ab0_4, ab0_5, ab0_6, ab0_7, ab0_8, ab0_9, ab0_10, ab0_11, ab0_12, ab0_13, ab0_14, ab0_15, ab0_16, ab0_17, ab0_18, ab0_19, ab0_20, ab0_21, ab0_22, ab0_23, own_count, own_max, own_maxCount, own_belowMax, own_z1, own_z2, if_true, if_false, reduceIte] at h ⊢
  exact h
theorem own_nt (x : Int32) : ((2 : Int32) + (x &&& (1 : Int32))) = 2 ∨ ((2 : Int32) + (x &&& (1 : Int32))) = 3 := by
  have h := and_one x
  rcases h with h | h <;> rw [h]
  · left; decide
  · right; decide
theorem own_n0 (x : Int32) : ¬ (((2 : Int32) + (x &&& (1 : Int32))) = (0 : Int32)) := by
  rcases own_nt x with h | h <;> rw [h] <;> decide
theorem own_n32 {x : Int32} (h : ((2 : Int32) + (x &&& (1 : Int32))) = (3 : Int32)) : ¬ (((2 : Int32) + (x &&& (1 : Int32))) = (2 : Int32)) := by rw [h]; decide
theorem own_n2 (x : Int32) (h : ¬ (((2 : Int32) + (x &&& (1 : Int32))) = (3 : Int32))) : ((2 : Int32) + (x &&& (1 : Int32))) = (2 : Int32) := (own_nt x).resolve_right h
theorem own_sh (x : Int32) : 0 ≤ ((x.toUInt32 >>> ((1 : Int32) &&& 31).toUInt32).toInt32).toInt := by
  rw [c_iushr x 1 1 (by decide) (by decide)]; omega
theorem own_k2 (x : Int32) (h : ((2 : Int32) + (x &&& (1 : Int32))) = (2 : Int32)) (h0 : ¬ ((((x.toUInt32 >>> ((1 : Int32) &&& 31).toUInt32).toInt32) % ((2 : Int32) + (x &&& (1 : Int32)))) = (0 : Int32))) : (((x.toUInt32 >>> ((1 : Int32) &&& 31).toUInt32).toInt32) % ((2 : Int32) + (x &&& (1 : Int32)))) = (1 : Int32) := by
  rw [h] at h0 ⊢
  have l2 : (2 : Int32).toInt = 2 := by decide
  have l1 : (1 : Int32).toInt = 1 := by decide
  have l0 : (0 : Int32).toInt = 0 := by decide
  have q := (c_iremV ((x.toUInt32 >>> ((1 : Int32) &&& 31).toUInt32).toInt32) 2).1 (own_sh x) (by decide)
  simp only [← Int32.toInt_inj, l0, l1, l2] at *
  omega
theorem own_k3 (x : Int32) (h : ((2 : Int32) + (x &&& (1 : Int32))) = (3 : Int32)) (h0 : ¬ ((((x.toUInt32 >>> ((1 : Int32) &&& 31).toUInt32).toInt32) % ((2 : Int32) + (x &&& (1 : Int32)))) = (0 : Int32))) (h1 : ¬ ((((x.toUInt32 >>> ((1 : Int32) &&& 31).toUInt32).toInt32) % ((2 : Int32) + (x &&& (1 : Int32)))) = (1 : Int32))) : (((x.toUInt32 >>> ((1 : Int32) &&& 31).toUInt32).toInt32) % ((2 : Int32) + (x &&& (1 : Int32)))) = (2 : Int32) := by
  rw [h] at h0 h1 ⊢
  have l3 : (3 : Int32).toInt = 3 := by decide
  have l2 : (2 : Int32).toInt = 2 := by decide
  have l1 : (1 : Int32).toInt = 1 := by decide
  have l0 : (0 : Int32).toInt = 0 := by decide
  have q := (c_iremV ((x.toUInt32 >>> ((1 : Int32) &&& 31).toUInt32).toInt32) 3).1 (own_sh x) (by decide)
  simp only [← Int32.toInt_inj, l0, l1, l2, l3] at *
  omega

def f0 (q1 : Int64) (q2 : Int64) (q3 : Int64) (p4 : Int32) : Int32 := (if ((2 : Int32) + (p4 &&& (1 : Int32))) = (3 : Int32) then (if (((p4.toUInt32 >>> ((1 : Int32) &&& 31).toUInt32).toInt32) % ((2 : Int32) + (p4 &&& (1 : Int32)))) = (0 : Int32) then (1 : Int32) else (if (((p4.toUInt32 >>> ((1 : Int32) &&& 31).toUInt32).toInt32) % ((2 : Int32) + (p4 &&& (1 : Int32)))) = (1 : Int32) then (1 : Int32) else (1 : Int32))) else (if (((p4.toUInt32 >>> ((1 : Int32) &&& 31).toUInt32).toInt32) % ((2 : Int32) + (p4 &&& (1 : Int32)))) = (0 : Int32) then (1 : Int32) else (1 : Int32)))
def Q0 (Z : State) (q1 : Int64) (q2 : Int64) (q3 : Int64) (p4 : Int32) (h0 : Heap) (n0 : Nat) (v : Option Value) (h : Heap) (L : List Loc) : Prop := v = some (.int (f0 q1 q2 q3 p4)) ∧ Fr n0 L
set_option maxRecDepth 65536 in
set_option maxHeartbeats 40000000 in
theorem rm0 (l : Launch) (Z : State) (a0 : Array Value) (hw : ∀ d ∈ tables_1, d.before a0 Z = true) (ws : List Jvm.Cond) (q1 : Int64) (q2 : Int64) (q3 : Int64) (p4 : Int32) (h0 : Heap) (n0 : Nat) (Z0 : n0 ≤ h0.size) :
    MetFree l x (head1 (Jvm.Cond.code x code maxLocals ret :: ws) room_1) (fun a U => a = #[(.long q1), (.long q2), (.long q3), (.int p4)] ∧ Z.Warmed39 U.vm ∧ U.heap = h0) (fun _ _ _ _ _ => True) (fun _ U o U' => ∃ v L, o = .returned v ∧ Q0 Z q1 q2 q3 p4 h0 n0 v U'.heap L ∧ FrameEnd U o U' L room_1.cells room_1.slots) := by
  refine MetFree.of_bodySF (plainFor_of_name pn_0) hisR ?_
  intro p e s m args below meth c s₁ Bd hml0 hP hK
  obtain ⟨rfl, hZ, hh⟩ := hP
  have hx := Bd.exec
  have hby := Bd.bytes
  have hml : c.maxLocals = 13 := hml0
  have hown : s.vm.findClass "com/example/placecard/placecard/TableValuesMaxWithoutPinLaw" = some m.cls := findClass_of_methodNamed Bd.named
  have hnm := (name_of_methodNamed Bd.named Bd.method).1
  have X0 : Stand p l e room_1 s m #[(.long q1), (.long q2), (.long q3), (.int p4)] below meth c s₁ [] 0 0 := Stand.of_body Bd
  have e0 : s₁.heap = h0 := by rw [← hh, Bd.state]; rfl
  have N0 := Fr.nil n0
  have pre0 : ∀ t, Steps p.tables e below (s₁.setTop (mkF m 0 #[.val (.long q1), .second, .val (.long q2), .second, .val (.long q3), .second, .val (.int p4), .unset, .unset, .unset, .unset, .unset, .unset] [])) t → Steps p.tables e below (s₁.setTop (entryFrame m #[(.long q1), (.long q2), (.long q3), (.int p4)] maxLocals)) t := fun t k => castTop (ef_0 m q1 q2 q3 p4) k
  obtain ⟨T1, h1, k1, X1, e1, E1, A1, st1⟩ := newP X0 hx hZ (hw _ (List.mem_of_getElem? (i := 0) rfl)) e0 (g := (mkF m 1 #[.val (.long q1), .second, .val (.long q2), .second, .val (.long q3), .second, .val (.int p4), .unset, .unset, .unset, .unset, .unset, .unset] [(.int (3 : Int32))])) rfl (hb hby at_1) rfl (by decide) (cap := 3) (by decide) (by decide) (by decide) (by decide)
  obtain ⟨b1, g1⟩ : ∃ z, z = h0.size := ⟨_, rfl⟩
  rw [← g1] at A1 st1
  have g_b1 : n0 ≤ b1 := Nat.le_trans Z0 (Nat.le_of_eq g1.symm)
  have zs2 : n0 ≤ h1.size := Nat.le_trans Z0 E1.1
  have V_b1 : Arv Z h1 b1 k1 .long (3 : Int32) [(.long (0 : Int64)), (.long (0 : Int64)), (.long (0 : Int64))] (.long (0 : Int64)) := (Arv.new A1 (by decide)).pad (pad_rep [] (.long (0 : Int64)) 3)
  obtain ⟨cl3, Ar3, qq3, S3, N3_, H3, G3⟩ := id V_b1
  have hin3 : ¬ ((0 : Int32) < 0 ∨ cl3.slots.size ≤ ((0 : Int32)).toNatClampNeg) := inb_of S3 ⟨by decide, by decide⟩
  obtain ⟨T3, h3, X3, e3, W3, st3⟩ := stJ X1 hx hZ e1 Ar3 (j := (0 : Int32)) hin3 (g := (mkF m 6 #[.val (.long q1), .second, .val (.long q2), .second, .val (.long q3), .second, .val (.int p4), .unset, .unset, .unset, .unset, .unset, .unset] [(.long q1), (.int (0 : Int32)), (.ref b1), (.ref b1)])) rfl rfl (hb hby at_6)
  have V3 : Arv Z h3 b1 k1 .long (3 : Int32) [(.long q1), (.long (0 : Int64)), (.long (0 : Int64))] (.long (0 : Int64)) := Arv.set Ar3 qq3 S3 N3_ H3 G3 rfl W3 0 rfl (Nat.le_of_ble_eq_true rfl)
  have zs4 : n0 ≤ h3.size := Nat.le_trans zs2 (Keep.of_wr W3).1
  have N3 := Fr.snoc X3 N0 g_b1
  obtain ⟨cl5, Ar5, qq5, S5, N5_, H5, G5⟩ := id V3
  have hin5 : ¬ ((1 : Int32) < 0 ∨ cl5.slots.size ≤ ((1 : Int32)).toNatClampNeg) := inb_of S5 ⟨by decide, by decide⟩
  obtain ⟨T5, h5, X5, e5, W5, st5⟩ := stJ X3 hx hZ e3 Ar5 (j := (1 : Int32)) hin5 (g := (mkF m 10 #[.val (.long q1), .second, .val (.long q2), .second, .val (.long q3), .second, .val (.int p4), .unset, .unset, .unset, .unset, .unset, .unset] [(.long q2), (.int (1 : Int32)), (.ref b1), (.ref b1)])) rfl rfl (hb hby at_10)
  have V5 : Arv Z h5 b1 k1 .long (3 : Int32) [(.long q1), (.long q2), (.long (0 : Int64))] (.long (0 : Int64)) := Arv.set Ar5 qq5 S5 N5_ H5 G5 rfl W5 1 rfl (Nat.le_of_ble_eq_true rfl)
  have zs6 : n0 ≤ h5.size := Nat.le_trans zs4 (Keep.of_wr W5).1
  have N5 := Fr.snoc X5 N3 g_b1
  obtain ⟨cl7, Ar7, qq7, S7, N7_, H7, G7⟩ := id V5
  have hin7 : ¬ ((2 : Int32) < 0 ∨ cl7.slots.size ≤ ((2 : Int32)).toNatClampNeg) := inb_of S7 ⟨by decide, by decide⟩
  obtain ⟨T7, h7, X7, e7, W7, st7⟩ := stJ X5 hx hZ e5 Ar7 (j := (2 : Int32)) hin7 (g := (mkF m 15 #[.val (.long q1), .second, .val (.long q2), .second, .val (.long q3), .second, .val (.int p4), .unset, .unset, .unset, .unset, .unset, .unset] [(.long q3), (.int (2 : Int32)), (.ref b1), (.ref b1)])) rfl rfl (hb hby at_15)
  have V7 : Arv Z h7 b1 k1 .long (3 : Int32) [(.long q1), (.long q2), (.long q3)] (.long (0 : Int64)) := Arv.set Ar7 qq7 S7 N7_ H7 G7 rfl W7 2 rfl (Nat.le_of_ble_eq_true rfl)
  have zs8 : n0 ≤ h7.size := Nat.le_trans zs6 (Keep.of_wr W7).1
  have N7 := Fr.snoc X7 N5 g_b1
  obtain ⟨T9, h9, X9, e9, E9, A9, D9, -, st9⟩ := newO X7 hx hZ hown (hw _ (List.mem_of_getElem? (i := 1) rfl)) (hw _ (List.mem_of_getElem? (i := 2) rfl)) (hw _ (List.mem_of_getElem? (i := 3) rfl)) e7 (g := (mkF m 35 #[.val (.long q1), .second, .val (.long q2), .second, .val (.long q3), .second, .val (.int p4), .val (.ref b1), .val (.int ((2 : Int32) + (p4 &&& (1 : Int32)))), .val (.int (((p4.toUInt32 >>> ((1 : Int32) &&& 31).toUInt32).toInt32) % ((2 : Int32) + (p4 &&& (1 : Int32))))), .unset, .unset, .unset] [])) rfl (hb hby at_35) (by decide) (by decide)
  obtain ⟨b9, g9⟩ : ∃ z, z = h7.size := ⟨_, rfl⟩
  rw [← g9] at A9 D9 st9
  have ne_b1_b9 : b1 ≠ b9 := Nat.ne_of_lt (Nat.lt_of_lt_of_le V7.lt (Nat.le_of_eq g9.symm))
  have g_b9 : n0 ≤ b9 := Nat.le_trans zs8 (Nat.le_of_eq g9.symm)
  have zs10 : n0 ≤ h9.size := Nat.le_trans zs8 E9.1
  have F_count_b9 : Fld Z h9 b9 "com/example/placecard/placecard/TableValues" "count" "I" (.int (0 : Int32)) := D9 (Or.inl (hw _ (List.mem_of_getElem? (i := 16) rfl))) (ty := .int) (by decide)
  have F_sum_b9 : Fld Z h9 b9 "com/example/placecard/placecard/TableValues" "sum" "J" (.long (0 : Int64)) := D9 (Or.inl (hw _ (List.mem_of_getElem? (i := 18) rfl))) (ty := .long) (by decide)
  have F_max_b9 : Fld Z h9 b9 "com/example/placecard/placecard/TableValues" "max" "J" (.long (0 : Int64)) := D9 (Or.inl (hw _ (List.mem_of_getElem? (i := 20) rfl))) (ty := .long) (by decide)
  have F_maxCount_b9 : Fld Z h9 b9 "com/example/placecard/placecard/TableValues" "maxCount" "I" (.int (0 : Int32)) := D9 (Or.inl (hw _ (List.mem_of_getElem? (i := 22) rfl))) (ty := .int) (by decide)
  have F_belowMax_b9 : Fld Z h9 b9 "com/example/placecard/placecard/TableValues" "belowMax" "J" (.long (0 : Int64)) := D9 (Or.inl (hw _ (List.mem_of_getElem? (i := 25) rfl))) (ty := .long) (by decide)
  have F_min_b9 : Fld Z h9 b9 "com/example/placecard/placecard/TableValues" "min" "J" (.long (0 : Int64)) := D9 (Or.inl (hw _ (List.mem_of_getElem? (i := 27) rfl))) (ty := .long) (by decide)
  have F_minCount_b9 : Fld Z h9 b9 "com/example/placecard/placecard/TableValues" "minCount" "I" (.int (0 : Int32)) := D9 (Or.inl (hw _ (List.mem_of_getElem? (i := 29) rfl))) (ty := .int) (by decide)
  have F_aboveMin_b9 : Fld Z h9 b9 "com/example/placecard/placecard/TableValues" "aboveMin" "J" (.long (0 : Int64)) := D9 (Or.inl (hw _ (List.mem_of_getElem? (i := 32) rfl))) (ty := .long) (by decide)
  obtain ⟨_, _, ⟨T11, L11, k11, n11⟩, -, X11, ⟨Lc11, hQ11, lz11, yz11, zz11⟩, st11⟩ := X9.specialBack hx (y := (⟨"com/example/placecard/placecard/TableValues", "<init>", "()V"⟩ : MethodName)) rfl hown (mvT hZ (hw _ (List.mem_of_getElem? (i := 4) rfl))) (mvT hZ (hw _ (List.mem_of_getElem? (i := 5) rfl))) (mvT hZ (hw _ (List.mem_of_getElem? (i := 6) rfl))) (by decide) (backOf (W := 1) (rm1 l Z a0 hw [] b9 h9 n0 zs10 ) hZ (hw _ (List.mem_of_getElem? (i := 6) rfl)) (hw _ (List.mem_of_getElem? (i := 3) rfl)) (by decide) (by decide)) (g := (mkF m 39 #[.val (.long q1), .second, .val (.long q2), .second, .val (.long q3), .second, .val (.int p4), .val (.ref b1), .val (.int ((2 : Int32) + (p4 &&& (1 : Int32)))), .val (.int (((p4.toUInt32 >>> ((1 : Int32) &&& 31).toUInt32).toInt32) % ((2 : Int32) + (p4 &&& (1 : Int32))))), .unset, .unset, .unset] [(.ref b9), (.ref b9)])) rfl (by rw [hml]; rfl) (Steps.refl _) (a := b9) (argsL := []) (rest := [(.ref b9)]) (lenOf pd_0_0 rfl) rfl (by show 2 * 0 + _ ≤ _; exact Nat.le_of_eq rfl) (hb hby at_39) (fun _ _ => ⟨rfl, e9, (by decide : 2 + 0 ≤ _), (by decide : 11 + 0 ≤ _)⟩)
  dsimp only [Pt.U, Pt.locs, Pt.cells, Pt.slots] at X11 lz11 yz11 zz11 st11 hQ11
  subst lz11 yz11 zz11
  obtain ⟨rfl, N11q, e11⟩ := hQ11
  have N11 := Fr.app N7 N11q
  obtain ⟨cq12, kq12, q12a, q12b, q12c⟩ := isOf hZ e11 A9
  obtain ⟨_, _, ⟨T12, L12, k12, n12⟩, -, X12, ⟨Lc12, hQ12, lz12, yz12, zz12⟩, st12⟩ := X11.virtualBack hx (y := (⟨"com/example/placecard/placecard/TableValues", "reset", "()V"⟩ : MethodName)) (z := (⟨"com/example/placecard/placecard/TableValues", "reset", "()V"⟩ : MethodName)) hown (mvT hZ (hw _ (List.mem_of_getElem? (i := 10) rfl))) (mvT hZ (hw _ (List.mem_of_getElem? (i := 11) rfl))) (notFace_of_selects (args := #[]) (mvT hZ (hw _ (List.mem_of_getElem? (i := 13) rfl)))) (mvT hZ (hw _ (List.mem_of_getElem? (i := 13) rfl))) (mvT hZ (hw _ (List.mem_of_getElem? (i := 12) rfl))) (by decide) (backOf (W := 0) (rm3 l Z a0 hw [] b9 (0 : Int32) (0 : Int64) (0 : Int64) (0 : Int32) (0 : Int64) (0 : Int64) (0 : Int32) (0 : Int64) h9 n0 zs10 A9 F_count_b9 F_sum_b9 F_max_b9 F_maxCount_b9 F_belowMax_b9 F_min_b9 F_minCount_b9 F_aboveMin_b9 g_b9) hZ (hw _ (List.mem_of_getElem? (i := 14) rfl)) (hw _ (List.mem_of_getElem? (i := 3) rfl)) (by decide) (by decide)) q12a q12c (g := (mkF m 46 #[.val (.long q1), .second, .val (.long q2), .second, .val (.long q3), .second, .val (.int p4), .val (.ref b1), .val (.int ((2 : Int32) + (p4 &&& (1 : Int32)))), .val (.int (((p4.toUInt32 >>> ((1 : Int32) &&& 31).toUInt32).toInt32) % ((2 : Int32) + (p4 &&& (1 : Int32))))), .val (.ref b9), .unset, .unset] [(.ref b9)])) rfl (by rw [hml]; rfl) (Steps.refl _) (argsL := []) (rest := []) (lenOf pd_0_0 rfl) rfl (by show 2 * 0 + _ ≤ _; exact Nat.le_of_eq rfl) (hb hby at_46) (fun _ _ => ⟨rfl, e11, (by decide : 2 + 0 ≤ _), (by decide : 11 + 0 ≤ _)⟩)
  dsimp only [Pt.U, Pt.locs, Pt.cells, Pt.slots] at X12 lz12 yz12 zz12 st12 hQ12
  subst lz12 yz12 zz12
  obtain ⟨rfl, N12q, K12, Ec12_a1, Fc12_a1_count, Fc12_a1_sum, Fc12_a1_max, Fc12_a1_maxCount, Fc12_a1_belowMax, Fc12_a1_min, Fc12_a1_minCount, Fc12_a1_aboveMin⟩ := hQ12
  have N12 := Fr.app N11 N12q
  have zs13 : n0 ≤ T12.heap.size := Nat.le_trans zs10 K12.1
  obtain ⟨cq14, kq14, q14a, q14b, q14c⟩ := isOf hZ rfl Ec12_a1
  obtain ⟨_, _, ⟨T14, L14, k14, n14⟩, -, X14, ⟨Lc14, hQ14, lz14, yz14, zz14⟩, st14⟩ := X12.virtualBack hx (y := (⟨"com/example/placecard/placecard/TableValues", "add", "(J)V"⟩ : MethodName)) (z := (⟨"com/example/placecard/placecard/TableValues", "add", "(J)V"⟩ : MethodName)) hown (mvT hZ (hw _ (List.mem_of_getElem? (i := 33) rfl))) (mvT hZ (hw _ (List.mem_of_getElem? (i := 34) rfl))) (notFace_of_selects (args := #[]) (mvT hZ (hw _ (List.mem_of_getElem? (i := 36) rfl)))) (mvT hZ (hw _ (List.mem_of_getElem? (i := 36) rfl))) (mvT hZ (hw _ (List.mem_of_getElem? (i := 35) rfl))) (by decide) (backOf (W := 0) (rm4 l Z a0 hw [] b9 q1 (0 : Int32) (0 : Int64) (0 : Int64) (0 : Int32) (-9223372036854775808 : Int64) (0 : Int64) (0 : Int32) (9223372036854775807 : Int64) T12.heap n0 zs13 Ec12_a1 Fc12_a1_count Fc12_a1_sum Fc12_a1_max Fc12_a1_maxCount Fc12_a1_belowMax Fc12_a1_min Fc12_a1_minCount Fc12_a1_aboveMin g_b9) hZ (hw _ (List.mem_of_getElem? (i := 37) rfl)) (hw _ (List.mem_of_getElem? (i := 3) rfl)) (by decide) (by decide)) q14a q14c (g := (mkF m 52 #[.val (.long q1), .second, .val (.long q2), .second, .val (.long q3), .second, .val (.int p4), .val (.ref b1), .val (.int ((2 : Int32) + (p4 &&& (1 : Int32)))), .val (.int (((p4.toUInt32 >>> ((1 : Int32) &&& 31).toUInt32).toInt32) % ((2 : Int32) + (p4 &&& (1 : Int32))))), .val (.ref b9), .unset, .unset] [(.long q1), (.ref b9)])) rfl (by rw [hml]; rfl) (Steps.refl _) (argsL := [(.long q1)]) (rest := []) (lenOf pd_0_1 rfl) rfl (by show 2 * 0 + _ ≤ _; exact Nat.le_of_eq rfl) (hb hby at_52) (fun _ _ => ⟨rfl, rfl, (by decide : 2 + 0 ≤ _), (by decide : 11 + 0 ≤ _)⟩)
  dsimp only [Pt.U, Pt.locs, Pt.cells, Pt.slots] at X14 lz14 yz14 zz14 st14 hQ14
  subst lz14 yz14 zz14
  obtain ⟨rfl, N14q, K14, Ec14_a1, Fc14_a1_count, Fc14_a1_sum, Fc14_a1_max, Fc14_a1_maxCount, Fc14_a1_belowMax, Fc14_a1_min, Fc14_a1_minCount, Fc14_a1_aboveMin⟩ := hQ14
  have N14 := Fr.app N12 N14q
  have abFc14_a1_count : Fld Z T14.heap b9 "com/example/placecard/placecard/TableValues" "count" "I" (.int (ab0_0 q1 q2 q3 p4)) := Fc14_a1_count
  have abFc14_a1_sum : Fld Z T14.heap b9 "com/example/placecard/placecard/TableValues" "sum" "J" (.long (ab0_1 q1 q2 q3 p4)) := Fc14_a1_sum
  have abFc14_a1_max : Fld Z T14.heap b9 "com/example/placecard/placecard/TableValues" "max" "J" (.long (ab0_2 q1 q2 q3 p4)) := Fc14_a1_max
  have abFc14_a1_maxCount : Fld Z T14.heap b9 "com/example/placecard/placecard/TableValues" "maxCount" "I" (.int (ab0_3 q1 q2 q3 p4)) := Fc14_a1_maxCount
  have abFc14_a1_belowMax : Fld Z T14.heap b9 "com/example/placecard/placecard/TableValues" "belowMax" "J" (.long (ab0_4 q1 q2 q3 p4)) := Fc14_a1_belowMax
  have abFc14_a1_min : Fld Z T14.heap b9 "com/example/placecard/placecard/TableValues" "min" "J" (.long (ab0_5 q1 q2 q3 p4)) := Fc14_a1_min
  have abFc14_a1_minCount : Fld Z T14.heap b9 "com/example/placecard/placecard/TableValues" "minCount" "I" (.int (ab0_6 q1 q2 q3 p4)) := Fc14_a1_minCount
  have abFc14_a1_aboveMin : Fld Z T14.heap b9 "com/example/placecard/placecard/TableValues" "aboveMin" "J" (.long (ab0_7 q1 q2 q3 p4)) := Fc14_a1_aboveMin
  have zs15 : n0 ≤ T14.heap.size := Nat.le_trans zs13 K14.1
  obtain ⟨cq16, kq16, q16a, q16b, q16c⟩ := isOf hZ rfl Ec14_a1
  obtain ⟨_, _, ⟨T16, L16, k16, n16⟩, -, X16, ⟨Lc16, hQ16, lz16, yz16, zz16⟩, st16⟩ := X14.virtualBack hx (y := (⟨"com/example/placecard/placecard/TableValues", "add", "(J)V"⟩ : MethodName)) (z := (⟨"com/example/placecard/placecard/TableValues", "add", "(J)V"⟩ : MethodName)) hown (mvT hZ (hw _ (List.mem_of_getElem? (i := 33) rfl))) (mvT hZ (hw _ (List.mem_of_getElem? (i := 34) rfl))) (notFace_of_selects (args := #[]) (mvT hZ (hw _ (List.mem_of_getElem? (i := 36) rfl)))) (mvT hZ (hw _ (List.mem_of_getElem? (i := 36) rfl))) (mvT hZ (hw _ (List.mem_of_getElem? (i := 35) rfl))) (by decide) (backOf (W := 0) (rm4 l Z a0 hw [] b9 q2 (ab0_0 q1 q2 q3 p4) (ab0_1 q1 q2 q3 p4) (ab0_2 q1 q2 q3 p4) (ab0_3 q1 q2 q3 p4) (ab0_4 q1 q2 q3 p4) (ab0_5 q1 q2 q3 p4) (ab0_6 q1 q2 q3 p4) (ab0_7 q1 q2 q3 p4) T14.heap n0 zs15 Ec14_a1 abFc14_a1_count abFc14_a1_sum abFc14_a1_max abFc14_a1_maxCount abFc14_a1_belowMax abFc14_a1_min abFc14_a1_minCount abFc14_a1_aboveMin g_b9) hZ (hw _ (List.mem_of_getElem? (i := 37) rfl)) (hw _ (List.mem_of_getElem? (i := 3) rfl)) (by decide) (by decide)) q16a q16c (g := (mkF m 58 #[.val (.long q1), .second, .val (.long q2), .second, .val (.long q3), .second, .val (.int p4), .val (.ref b1), .val (.int ((2 : Int32) + (p4 &&& (1 : Int32)))), .val (.int (((p4.toUInt32 >>> ((1 : Int32) &&& 31).toUInt32).toInt32) % ((2 : Int32) + (p4 &&& (1 : Int32))))), .val (.ref b9), .unset, .unset] [(.long q2), (.ref b9)])) rfl (by rw [hml]; rfl) (Steps.refl _) (argsL := [(.long q2)]) (rest := []) (lenOf pd_0_1 rfl) rfl (by show 2 * 0 + _ ≤ _; exact Nat.le_of_eq rfl) (hb hby at_58) (fun _ _ => ⟨rfl, rfl, (by decide : 2 + 0 ≤ _), (by decide : 11 + 0 ≤ _)⟩)
  dsimp only [Pt.U, Pt.locs, Pt.cells, Pt.slots] at X16 lz16 yz16 zz16 st16 hQ16
  subst lz16 yz16 zz16
  obtain ⟨rfl, N16q, K16, Ec16_a1, Fc16_a1_count, Fc16_a1_sum, Fc16_a1_max, Fc16_a1_maxCount, Fc16_a1_belowMax, Fc16_a1_min, Fc16_a1_minCount, Fc16_a1_aboveMin⟩ := hQ16
  have N16 := Fr.app N14 N16q
  have abFc16_a1_count : Fld Z T16.heap b9 "com/example/placecard/placecard/TableValues" "count" "I" (.int (ab0_8 q1 q2 q3 p4)) := Fc16_a1_count
  have abFc16_a1_sum : Fld Z T16.heap b9 "com/example/placecard/placecard/TableValues" "sum" "J" (.long (ab0_9 q1 q2 q3 p4)) := Fc16_a1_sum
  have abFc16_a1_max : Fld Z T16.heap b9 "com/example/placecard/placecard/TableValues" "max" "J" (.long (ab0_10 q1 q2 q3 p4)) := Fc16_a1_max
  have abFc16_a1_maxCount : Fld Z T16.heap b9 "com/example/placecard/placecard/TableValues" "maxCount" "I" (.int (ab0_11 q1 q2 q3 p4)) := Fc16_a1_maxCount
  have abFc16_a1_belowMax : Fld Z T16.heap b9 "com/example/placecard/placecard/TableValues" "belowMax" "J" (.long (ab0_12 q1 q2 q3 p4)) := Fc16_a1_belowMax
  have abFc16_a1_min : Fld Z T16.heap b9 "com/example/placecard/placecard/TableValues" "min" "J" (.long (ab0_13 q1 q2 q3 p4)) := Fc16_a1_min
  have abFc16_a1_minCount : Fld Z T16.heap b9 "com/example/placecard/placecard/TableValues" "minCount" "I" (.int (ab0_14 q1 q2 q3 p4)) := Fc16_a1_minCount
  have abFc16_a1_aboveMin : Fld Z T16.heap b9 "com/example/placecard/placecard/TableValues" "aboveMin" "J" (.long (ab0_15 q1 q2 q3 p4)) := Fc16_a1_aboveMin
  have zs17 : n0 ≤ T16.heap.size := Nat.le_trans zs15 K16.1
  have pre18 : ∀ t, Steps p.tables e below (T16.setTop (mkF m 64 #[.val (.long q1), .second, .val (.long q2), .second, .val (.long q3), .second, .val (.int p4), .val (.ref b1), .val (.int ((2 : Int32) + (p4 &&& (1 : Int32)))), .val (.int (((p4.toUInt32 >>> ((1 : Int32) &&& 31).toUInt32).toInt32) % ((2 : Int32) + (p4 &&& (1 : Int32))))), .val (.ref b9), .unset, .unset] [(.int (3 : Int32)), (.int ((2 : Int32) + (p4 &&& (1 : Int32))))])) t → Steps p.tables e below (s₁.setTop (entryFrame m #[(.long q1), (.long q2), (.long q3), (.int p4)] maxLocals)) t := fun t kt => by
    refine pre0 _ ?_
    show Steps p.tables e below (s₁.setTop (mkF m 0 #[.val (.long q1), .second, .val (.long q2), .second, .val (.long q3), .second, .val (.int p4), .unset, .unset, .unset, .unset, .unset, .unset] [])) _
    refine XS.iconst X0.here hx rfl (hb hby at_0) ?_
    show Steps p.tables e below (s₁.setTop (mkF m 1 #[.val (.long q1), .second, .val (.long q2), .second, .val (.long q3), .second, .val (.int p4), .unset, .unset, .unset, .unset, .unset, .unset] [(.int (3 : Int32))])) _
    refine st1 _ ?_
    show Steps p.tables e below (T1.setTop (mkF m 3 #[.val (.long q1), .second, .val (.long q2), .second, .val (.long q3), .second, .val (.int p4), .unset, .unset, .unset, .unset, .unset, .unset] [(.ref b1)])) _
    refine XS.dup X1.here hx rfl (hb hby at_3) rfl rfl ?_
    show Steps p.tables e below (T1.setTop (mkF m 4 #[.val (.long q1), .second, .val (.long q2), .second, .val (.long q3), .second, .val (.int p4), .unset, .unset, .unset, .unset, .unset, .unset] [(.ref b1), (.ref b1)])) _
    refine XS.iconst X1.here hx rfl (hb hby at_4) ?_
    show Steps p.tables e below (T1.setTop (mkF m 5 #[.val (.long q1), .second, .val (.long q2), .second, .val (.long q3), .second, .val (.int p4), .unset, .unset, .unset, .unset, .unset, .unset] [(.int (0 : Int32)), (.ref b1), (.ref b1)])) _
    refine XS.lloadN X1.here hx rfl (hb hby at_5) rfl ?_
    show Steps p.tables e below (T1.setTop (mkF m 6 #[.val (.long q1), .second, .val (.long q2), .second, .val (.long q3), .second, .val (.int p4), .unset, .unset, .unset, .unset, .unset, .unset] [(.long q1), (.int (0 : Int32)), (.ref b1), (.ref b1)])) _
    refine st3 _ ?_
    show Steps p.tables e below (T3.setTop (mkF m 7 #[.val (.long q1), .second, .val (.long q2), .second, .val (.long q3), .second, .val (.int p4), .unset, .unset, .unset, .unset, .unset, .unset] [(.ref b1)])) _
    refine XS.dup X3.here hx rfl (hb hby at_7) rfl rfl ?_
    show Steps p.tables e below (T3.setTop (mkF m 8 #[.val (.long q1), .second, .val (.long q2), .second, .val (.long q3), .second, .val (.int p4), .unset, .unset, .unset, .unset, .unset, .unset] [(.ref b1), (.ref b1)])) _
    refine XS.iconst X3.here hx rfl (hb hby at_8) ?_
    show Steps p.tables e below (T3.setTop (mkF m 9 #[.val (.long q1), .second, .val (.long q2), .second, .val (.long q3), .second, .val (.int p4), .unset, .unset, .unset, .unset, .unset, .unset] [(.int (1 : Int32)), (.ref b1), (.ref b1)])) _
    refine XS.lloadN X3.here hx rfl (hb hby at_9) rfl ?_
    show Steps p.tables e below (T3.setTop (mkF m 10 #[.val (.long q1), .second, .val (.long q2), .second, .val (.long q3), .second, .val (.int p4), .unset, .unset, .unset, .unset, .unset, .unset] [(.long q2), (.int (1 : Int32)), (.ref b1), (.ref b1)])) _
    refine st5 _ ?_
    show Steps p.tables e below (T5.setTop (mkF m 11 #[.val (.long q1), .second, .val (.long q2), .second, .val (.long q3), .second, .val (.int p4), .unset, .unset, .unset, .unset, .unset, .unset] [(.ref b1)])) _
    refine XS.dup X5.here hx rfl (hb hby at_11) rfl rfl ?_
    show Steps p.tables e below (T5.setTop (mkF m 12 #[.val (.long q1), .second, .val (.long q2), .second, .val (.long q3), .second, .val (.int p4), .unset, .unset, .unset, .unset, .unset, .unset] [(.ref b1), (.ref b1)])) _
    refine XS.iconst X5.here hx rfl (hb hby at_12) ?_
    show Steps p.tables e below (T5.setTop (mkF m 13 #[.val (.long q1), .second, .val (.long q2), .second, .val (.long q3), .second, .val (.int p4), .unset, .unset, .unset, .unset, .unset, .unset] [(.int (2 : Int32)), (.ref b1), (.ref b1)])) _
    refine XS.lload X5.here hx rfl (hb hby at_13) rfl ?_
    show Steps p.tables e below (T5.setTop (mkF m 15 #[.val (.long q1), .second, .val (.long q2), .second, .val (.long q3), .second, .val (.int p4), .unset, .unset, .unset, .unset, .unset, .unset] [(.long q3), (.int (2 : Int32)), (.ref b1), (.ref b1)])) _
    refine st7 _ ?_
    show Steps p.tables e below (T7.setTop (mkF m 16 #[.val (.long q1), .second, .val (.long q2), .second, .val (.long q3), .second, .val (.int p4), .unset, .unset, .unset, .unset, .unset, .unset] [(.ref b1)])) _
    refine XS.astore X7.here hx rfl (hb hby at_16) rfl rfl (l' := #[.val (.long q1), .second, .val (.long q2), .second, .val (.long q3), .second, .val (.int p4), .val (.ref b1), .unset, .unset, .unset, .unset, .unset]) rfl ?_
    show Steps p.tables e below (T7.setTop (mkF m 18 #[.val (.long q1), .second, .val (.long q2), .second, .val (.long q3), .second, .val (.int p4), .val (.ref b1), .unset, .unset, .unset, .unset, .unset] [])) _
    refine XS.iconst X7.here hx rfl (hb hby at_18) ?_
    show Steps p.tables e below (T7.setTop (mkF m 19 #[.val (.long q1), .second, .val (.long q2), .second, .val (.long q3), .second, .val (.int p4), .val (.ref b1), .unset, .unset, .unset, .unset, .unset] [(.int (2 : Int32))])) _
    refine XS.iload X7.here hx rfl (hb hby at_19) rfl ?_
    show Steps p.tables e below (T7.setTop (mkF m 21 #[.val (.long q1), .second, .val (.long q2), .second, .val (.long q3), .second, .val (.int p4), .val (.ref b1), .unset, .unset, .unset, .unset, .unset] [(.int p4), (.int (2 : Int32))])) _
    refine XS.iconst X7.here hx rfl (hb hby at_21) ?_
    show Steps p.tables e below (T7.setTop (mkF m 22 #[.val (.long q1), .second, .val (.long q2), .second, .val (.long q3), .second, .val (.int p4), .val (.ref b1), .unset, .unset, .unset, .unset, .unset] [(.int (1 : Int32)), (.int p4), (.int (2 : Int32))])) _
    refine XS.iand X7.here hx rfl (hb hby at_22) rfl ?_
    show Steps p.tables e below (T7.setTop (mkF m 23 #[.val (.long q1), .second, .val (.long q2), .second, .val (.long q3), .second, .val (.int p4), .val (.ref b1), .unset, .unset, .unset, .unset, .unset] [(.int (p4 &&& (1 : Int32))), (.int (2 : Int32))])) _
    refine XS.iadd X7.here hx rfl (hb hby at_23) rfl ?_
    show Steps p.tables e below (T7.setTop (mkF m 24 #[.val (.long q1), .second, .val (.long q2), .second, .val (.long q3), .second, .val (.int p4), .val (.ref b1), .unset, .unset, .unset, .unset, .unset] [(.int ((2 : Int32) + (p4 &&& (1 : Int32))))])) _
    refine XS.istore X7.here hx rfl (hb hby at_24) rfl (l' := #[.val (.long q1), .second, .val (.long q2), .second, .val (.long q3), .second, .val (.int p4), .val (.ref b1), .val (.int ((2 : Int32) + (p4 &&& (1 : Int32)))), .unset, .unset, .unset, .unset]) rfl ?_
    show Steps p.tables e below (T7.setTop (mkF m 26 #[.val (.long q1), .second, .val (.long q2), .second, .val (.long q3), .second, .val (.int p4), .val (.ref b1), .val (.int ((2 : Int32) + (p4 &&& (1 : Int32)))), .unset, .unset, .unset, .unset] [])) _
    refine XS.iload X7.here hx rfl (hb hby at_26) rfl ?_
    show Steps p.tables e below (T7.setTop (mkF m 28 #[.val (.long q1), .second, .val (.long q2), .second, .val (.long q3), .second, .val (.int p4), .val (.ref b1), .val (.int ((2 : Int32) + (p4 &&& (1 : Int32)))), .unset, .unset, .unset, .unset] [(.int p4)])) _
    refine XS.iconst X7.here hx rfl (hb hby at_28) ?_
    show Steps p.tables e below (T7.setTop (mkF m 29 #[.val (.long q1), .second, .val (.long q2), .second, .val (.long q3), .second, .val (.int p4), .val (.ref b1), .val (.int ((2 : Int32) + (p4 &&& (1 : Int32)))), .unset, .unset, .unset, .unset] [(.int (1 : Int32)), (.int p4)])) _
    refine XS.iushr X7.here hx rfl (hb hby at_29) rfl ?_
    show Steps p.tables e below (T7.setTop (mkF m 30 #[.val (.long q1), .second, .val (.long q2), .second, .val (.long q3), .second, .val (.int p4), .val (.ref b1), .val (.int ((2 : Int32) + (p4 &&& (1 : Int32)))), .unset, .unset, .unset, .unset] [(.int ((p4.toUInt32 >>> ((1 : Int32) &&& 31).toUInt32).toInt32))])) _
    refine XS.iload X7.here hx rfl (hb hby at_30) rfl ?_
    show Steps p.tables e below (T7.setTop (mkF m 32 #[.val (.long q1), .second, .val (.long q2), .second, .val (.long q3), .second, .val (.int p4), .val (.ref b1), .val (.int ((2 : Int32) + (p4 &&& (1 : Int32)))), .unset, .unset, .unset, .unset] [(.int ((2 : Int32) + (p4 &&& (1 : Int32)))), (.int ((p4.toUInt32 >>> ((1 : Int32) &&& 31).toUInt32).toInt32))])) _
    refine iremM X7 hx rfl (hb hby at_32) rfl (own_n0 p4) ?_
    show Steps p.tables e below (T7.setTop (mkF m 33 #[.val (.long q1), .second, .val (.long q2), .second, .val (.long q3), .second, .val (.int p4), .val (.ref b1), .val (.int ((2 : Int32) + (p4 &&& (1 : Int32)))), .unset, .unset, .unset, .unset] [(.int (((p4.toUInt32 >>> ((1 : Int32) &&& 31).toUInt32).toInt32) % ((2 : Int32) + (p4 &&& (1 : Int32)))))])) _
    refine XS.istore X7.here hx rfl (hb hby at_33) rfl (l' := #[.val (.long q1), .second, .val (.long q2), .second, .val (.long q3), .second, .val (.int p4), .val (.ref b1), .val (.int ((2 : Int32) + (p4 &&& (1 : Int32)))), .val (.int (((p4.toUInt32 >>> ((1 : Int32) &&& 31).toUInt32).toInt32) % ((2 : Int32) + (p4 &&& (1 : Int32))))), .unset, .unset, .unset]) rfl ?_
    show Steps p.tables e below (T7.setTop (mkF m 35 #[.val (.long q1), .second, .val (.long q2), .second, .val (.long q3), .second, .val (.int p4), .val (.ref b1), .val (.int ((2 : Int32) + (p4 &&& (1 : Int32)))), .val (.int (((p4.toUInt32 >>> ((1 : Int32) &&& 31).toUInt32).toInt32) % ((2 : Int32) + (p4 &&& (1 : Int32))))), .unset, .unset, .unset] [])) _
    refine st9 _ ?_
    show Steps p.tables e below (T9.setTop (mkF m 38 #[.val (.long q1), .second, .val (.long q2), .second, .val (.long q3), .second, .val (.int p4), .val (.ref b1), .val (.int ((2 : Int32) + (p4 &&& (1 : Int32)))), .val (.int (((p4.toUInt32 >>> ((1 : Int32) &&& 31).toUInt32).toInt32) % ((2 : Int32) + (p4 &&& (1 : Int32))))), .unset, .unset, .unset] [(.ref b9)])) _
    refine XS.dup X9.here hx rfl (hb hby at_38) rfl rfl ?_
    show Steps p.tables e below (T9.setTop (mkF m 39 #[.val (.long q1), .second, .val (.long q2), .second, .val (.long q3), .second, .val (.int p4), .val (.ref b1), .val (.int ((2 : Int32) + (p4 &&& (1 : Int32)))), .val (.int (((p4.toUInt32 >>> ((1 : Int32) &&& 31).toUInt32).toInt32) % ((2 : Int32) + (p4 &&& (1 : Int32))))), .unset, .unset, .unset] [(.ref b9), (.ref b9)])) _
    refine st11.trans ?_
    show Steps p.tables e below (T11.setTop (mkF m 42 #[.val (.long q1), .second, .val (.long q2), .second, .val (.long q3), .second, .val (.int p4), .val (.ref b1), .val (.int ((2 : Int32) + (p4 &&& (1 : Int32)))), .val (.int (((p4.toUInt32 >>> ((1 : Int32) &&& 31).toUInt32).toInt32) % ((2 : Int32) + (p4 &&& (1 : Int32))))), .unset, .unset, .unset] [(.ref b9)])) _
    refine XS.astore X11.here hx rfl (hb hby at_42) rfl rfl (l' := #[.val (.long q1), .second, .val (.long q2), .second, .val (.long q3), .second, .val (.int p4), .val (.ref b1), .val (.int ((2 : Int32) + (p4 &&& (1 : Int32)))), .val (.int (((p4.toUInt32 >>> ((1 : Int32) &&& 31).toUInt32).toInt32) % ((2 : Int32) + (p4 &&& (1 : Int32))))), .val (.ref b9), .unset, .unset]) rfl ?_
    show Steps p.tables e below (T11.setTop (mkF m 44 #[.val (.long q1), .second, .val (.long q2), .second, .val (.long q3), .second, .val (.int p4), .val (.ref b1), .val (.int ((2 : Int32) + (p4 &&& (1 : Int32)))), .val (.int (((p4.toUInt32 >>> ((1 : Int32) &&& 31).toUInt32).toInt32) % ((2 : Int32) + (p4 &&& (1 : Int32))))), .val (.ref b9), .unset, .unset] [])) _
    refine XS.aload X11.here hx rfl (hb hby at_44) rfl rfl ?_
    show Steps p.tables e below (T11.setTop (mkF m 46 #[.val (.long q1), .second, .val (.long q2), .second, .val (.long q3), .second, .val (.int p4), .val (.ref b1), .val (.int ((2 : Int32) + (p4 &&& (1 : Int32)))), .val (.int (((p4.toUInt32 >>> ((1 : Int32) &&& 31).toUInt32).toInt32) % ((2 : Int32) + (p4 &&& (1 : Int32))))), .val (.ref b9), .unset, .unset] [(.ref b9)])) _
    refine st12.trans ?_
    show Steps p.tables e below (T12.setTop (mkF m 49 #[.val (.long q1), .second, .val (.long q2), .second, .val (.long q3), .second, .val (.int p4), .val (.ref b1), .val (.int ((2 : Int32) + (p4 &&& (1 : Int32)))), .val (.int (((p4.toUInt32 >>> ((1 : Int32) &&& 31).toUInt32).toInt32) % ((2 : Int32) + (p4 &&& (1 : Int32))))), .val (.ref b9), .unset, .unset] [])) _
    refine XS.aload X12.here hx rfl (hb hby at_49) rfl rfl ?_
    show Steps p.tables e below (T12.setTop (mkF m 51 #[.val (.long q1), .second, .val (.long q2), .second, .val (.long q3), .second, .val (.int p4), .val (.ref b1), .val (.int ((2 : Int32) + (p4 &&& (1 : Int32)))), .val (.int (((p4.toUInt32 >>> ((1 : Int32) &&& 31).toUInt32).toInt32) % ((2 : Int32) + (p4 &&& (1 : Int32))))), .val (.ref b9), .unset, .unset] [(.ref b9)])) _
    refine XS.lloadN X12.here hx rfl (hb hby at_51) rfl ?_
    show Steps p.tables e below (T12.setTop (mkF m 52 #[.val (.long q1), .second, .val (.long q2), .second, .val (.long q3), .second, .val (.int p4), .val (.ref b1), .val (.int ((2 : Int32) + (p4 &&& (1 : Int32)))), .val (.int (((p4.toUInt32 >>> ((1 : Int32) &&& 31).toUInt32).toInt32) % ((2 : Int32) + (p4 &&& (1 : Int32))))), .val (.ref b9), .unset, .unset] [(.long q1), (.ref b9)])) _
    refine st14.trans ?_
    show Steps p.tables e below (T14.setTop (mkF m 55 #[.val (.long q1), .second, .val (.long q2), .second, .val (.long q3), .second, .val (.int p4), .val (.ref b1), .val (.int ((2 : Int32) + (p4 &&& (1 : Int32)))), .val (.int (((p4.toUInt32 >>> ((1 : Int32) &&& 31).toUInt32).toInt32) % ((2 : Int32) + (p4 &&& (1 : Int32))))), .val (.ref b9), .unset, .unset] [])) _
    refine XS.aload X14.here hx rfl (hb hby at_55) rfl rfl ?_
    show Steps p.tables e below (T14.setTop (mkF m 57 #[.val (.long q1), .second, .val (.long q2), .second, .val (.long q3), .second, .val (.int p4), .val (.ref b1), .val (.int ((2 : Int32) + (p4 &&& (1 : Int32)))), .val (.int (((p4.toUInt32 >>> ((1 : Int32) &&& 31).toUInt32).toInt32) % ((2 : Int32) + (p4 &&& (1 : Int32))))), .val (.ref b9), .unset, .unset] [(.ref b9)])) _
    refine XS.lloadN X14.here hx rfl (hb hby at_57) rfl ?_
    show Steps p.tables e below (T14.setTop (mkF m 58 #[.val (.long q1), .second, .val (.long q2), .second, .val (.long q3), .second, .val (.int p4), .val (.ref b1), .val (.int ((2 : Int32) + (p4 &&& (1 : Int32)))), .val (.int (((p4.toUInt32 >>> ((1 : Int32) &&& 31).toUInt32).toInt32) % ((2 : Int32) + (p4 &&& (1 : Int32))))), .val (.ref b9), .unset, .unset] [(.long q2), (.ref b9)])) _
    refine st16.trans ?_
    show Steps p.tables e below (T16.setTop (mkF m 61 #[.val (.long q1), .second, .val (.long q2), .second, .val (.long q3), .second, .val (.int p4), .val (.ref b1), .val (.int ((2 : Int32) + (p4 &&& (1 : Int32)))), .val (.int (((p4.toUInt32 >>> ((1 : Int32) &&& 31).toUInt32).toInt32) % ((2 : Int32) + (p4 &&& (1 : Int32))))), .val (.ref b9), .unset, .unset] [])) _
    refine XS.iload X16.here hx rfl (hb hby at_61) rfl ?_
    show Steps p.tables e below (T16.setTop (mkF m 63 #[.val (.long q1), .second, .val (.long q2), .second, .val (.long q3), .second, .val (.int p4), .val (.ref b1), .val (.int ((2 : Int32) + (p4 &&& (1 : Int32)))), .val (.int (((p4.toUInt32 >>> ((1 : Int32) &&& 31).toUInt32).toInt32) % ((2 : Int32) + (p4 &&& (1 : Int32))))), .val (.ref b9), .unset, .unset] [(.int ((2 : Int32) + (p4 &&& (1 : Int32))))])) _
    refine XS.iconst X16.here hx rfl (hb hby at_63) ?_
    exact kt
  by_cases hc19 : ((2 : Int32) + (p4 &&& (1 : Int32))) = (3 : Int32)
  · obtain ⟨cq20, kq20, q20a, q20b, q20c⟩ := isOf hZ rfl Ec16_a1
    obtain ⟨_, _, ⟨T20, L20, k20, n20⟩, -, X20, ⟨Lc20, hQ20, lz20, yz20, zz20⟩, st20⟩ := X16.virtualBack hx (y := (⟨"com/example/placecard/placecard/TableValues", "add", "(J)V"⟩ : MethodName)) (z := (⟨"com/example/placecard/placecard/TableValues", "add", "(J)V"⟩ : MethodName)) hown (mvT hZ (hw _ (List.mem_of_getElem? (i := 33) rfl))) (mvT hZ (hw _ (List.mem_of_getElem? (i := 34) rfl))) (notFace_of_selects (args := #[]) (mvT hZ (hw _ (List.mem_of_getElem? (i := 36) rfl)))) (mvT hZ (hw _ (List.mem_of_getElem? (i := 36) rfl))) (mvT hZ (hw _ (List.mem_of_getElem? (i := 35) rfl))) (by decide) (backOf (W := 0) (rm4 l Z a0 hw [] b9 q3 (ab0_8 q1 q2 q3 p4) (ab0_9 q1 q2 q3 p4) (ab0_10 q1 q2 q3 p4) (ab0_11 q1 q2 q3 p4) (ab0_12 q1 q2 q3 p4) (ab0_13 q1 q2 q3 p4) (ab0_14 q1 q2 q3 p4) (ab0_15 q1 q2 q3 p4) T16.heap n0 zs17 Ec16_a1 abFc16_a1_count abFc16_a1_sum abFc16_a1_max abFc16_a1_maxCount abFc16_a1_belowMax abFc16_a1_min abFc16_a1_minCount abFc16_a1_aboveMin g_b9) hZ (hw _ (List.mem_of_getElem? (i := 37) rfl)) (hw _ (List.mem_of_getElem? (i := 3) rfl)) (by decide) (by decide)) q20a q20c (g := (mkF m 71 #[.val (.long q1), .second, .val (.long q2), .second, .val (.long q3), .second, .val (.int p4), .val (.ref b1), .val (.int ((2 : Int32) + (p4 &&& (1 : Int32)))), .val (.int (((p4.toUInt32 >>> ((1 : Int32) &&& 31).toUInt32).toInt32) % ((2 : Int32) + (p4 &&& (1 : Int32))))), .val (.ref b9), .unset, .unset] [(.long q3), (.ref b9)])) rfl (by rw [hml]; rfl) (Steps.refl _) (argsL := [(.long q3)]) (rest := []) (lenOf pd_0_1 rfl) rfl (by show 2 * 0 + _ ≤ _; exact Nat.le_of_eq rfl) (hb hby at_71) (fun _ _ => ⟨rfl, rfl, (by decide : 2 + 0 ≤ _), (by decide : 11 + 0 ≤ _)⟩)
    dsimp only [Pt.U, Pt.locs, Pt.cells, Pt.slots] at X20 lz20 yz20 zz20 st20 hQ20
    subst lz20 yz20 zz20
    obtain ⟨rfl, N20q, K20, Ec20_a1, Fc20_a1_count, Fc20_a1_sum, Fc20_a1_max, Fc20_a1_maxCount, Fc20_a1_belowMax, Fc20_a1_min, Fc20_a1_minCount, Fc20_a1_aboveMin⟩ := hQ20
    have N20 := Fr.app N16 N20q
    have abFc20_a1_count : Fld Z T20.heap b9 "com/example/placecard/placecard/TableValues" "count" "I" (.int (ab0_16 q1 q2 q3 p4)) := Fc20_a1_count
    have abFc20_a1_sum : Fld Z T20.heap b9 "com/example/placecard/placecard/TableValues" "sum" "J" (.long (ab0_17 q1 q2 q3 p4)) := Fc20_a1_sum
    have abFc20_a1_max : Fld Z T20.heap b9 "com/example/placecard/placecard/TableValues" "max" "J" (.long (ab0_18 q1 q2 q3 p4)) := Fc20_a1_max
    have abFc20_a1_maxCount : Fld Z T20.heap b9 "com/example/placecard/placecard/TableValues" "maxCount" "I" (.int (ab0_19 q1 q2 q3 p4)) := Fc20_a1_maxCount
    have abFc20_a1_belowMax : Fld Z T20.heap b9 "com/example/placecard/placecard/TableValues" "belowMax" "J" (.long (ab0_20 q1 q2 q3 p4)) := Fc20_a1_belowMax
    have abFc20_a1_min : Fld Z T20.heap b9 "com/example/placecard/placecard/TableValues" "min" "J" (.long (ab0_21 q1 q2 q3 p4)) := Fc20_a1_min
    have abFc20_a1_minCount : Fld Z T20.heap b9 "com/example/placecard/placecard/TableValues" "minCount" "I" (.int (ab0_22 q1 q2 q3 p4)) := Fc20_a1_minCount
    have abFc20_a1_aboveMin : Fld Z T20.heap b9 "com/example/placecard/placecard/TableValues" "aboveMin" "J" (.long (ab0_23 q1 q2 q3 p4)) := Fc20_a1_aboveMin
    have zs21 : n0 ≤ T20.heap.size := Nat.le_trans zs17 K20.1
    have pre22 : ∀ t, Steps p.tables e below (T20.setTop (mkF m 97 #[.val (.long q1), .second, .val (.long q2), .second, .val (.long q3), .second, .val (.int p4), .val (.ref b1), .val (.int ((2 : Int32) + (p4 &&& (1 : Int32)))), .val (.int (((p4.toUInt32 >>> ((1 : Int32) &&& 31).toUInt32).toInt32) % ((2 : Int32) + (p4 &&& (1 : Int32))))), .val (.ref b9), .unset, .unset] [(.int (((p4.toUInt32 >>> ((1 : Int32) &&& 31).toUInt32).toInt32) % ((2 : Int32) + (p4 &&& (1 : Int32)))))])) t → Steps p.tables e below (s₁.setTop (entryFrame m #[(.long q1), (.long q2), (.long q3), (.int p4)] maxLocals)) t := fun t kt => by
      refine pre18 _ ?_
      show Steps p.tables e below (T16.setTop (mkF m 64 #[.val (.long q1), .second, .val (.long q2), .second, .val (.long q3), .second, .val (.int p4), .val (.ref b1), .val (.int ((2 : Int32) + (p4 &&& (1 : Int32)))), .val (.int (((p4.toUInt32 >>> ((1 : Int32) &&& 31).toUInt32).toInt32) % ((2 : Int32) + (p4 &&& (1 : Int32))))), .val (.ref b9), .unset, .unset] [(.int (3 : Int32)), (.int ((2 : Int32) + (p4 &&& (1 : Int32))))])) _
      refine XS.icmpNo X16.here hx rfl (hb hby at_64) rfl (teq hc19).2 ?_
      show Steps p.tables e below (T16.setTop (mkF m 67 #[.val (.long q1), .second, .val (.long q2), .second, .val (.long q3), .second, .val (.int p4), .val (.ref b1), .val (.int ((2 : Int32) + (p4 &&& (1 : Int32)))), .val (.int (((p4.toUInt32 >>> ((1 : Int32) &&& 31).toUInt32).toInt32) % ((2 : Int32) + (p4 &&& (1 : Int32))))), .val (.ref b9), .unset, .unset] [])) _
      refine XS.aload X16.here hx rfl (hb hby at_67) rfl rfl ?_
      show Steps p.tables e below (T16.setTop (mkF m 69 #[.val (.long q1), .second, .val (.long q2), .second, .val (.long q3), .second, .val (.int p4), .val (.ref b1), .val (.int ((2 : Int32) + (p4 &&& (1 : Int32)))), .val (.int (((p4.toUInt32 >>> ((1 : Int32) &&& 31).toUInt32).toInt32) % ((2 : Int32) + (p4 &&& (1 : Int32))))), .val (.ref b9), .unset, .unset] [(.ref b9)])) _
      refine XS.lload X16.here hx rfl (hb hby at_69) rfl ?_
      show Steps p.tables e below (T16.setTop (mkF m 71 #[.val (.long q1), .second, .val (.long q2), .second, .val (.long q3), .second, .val (.int p4), .val (.ref b1), .val (.int ((2 : Int32) + (p4 &&& (1 : Int32)))), .val (.int (((p4.toUInt32 >>> ((1 : Int32) &&& 31).toUInt32).toInt32) % ((2 : Int32) + (p4 &&& (1 : Int32))))), .val (.ref b9), .unset, .unset] [(.long q3), (.ref b9)])) _
      refine st20.trans ?_
      show Steps p.tables e below (T20.setTop (mkF m 74 #[.val (.long q1), .second, .val (.long q2), .second, .val (.long q3), .second, .val (.int p4), .val (.ref b1), .val (.int ((2 : Int32) + (p4 &&& (1 : Int32)))), .val (.int (((p4.toUInt32 >>> ((1 : Int32) &&& 31).toUInt32).toInt32) % ((2 : Int32) + (p4 &&& (1 : Int32))))), .val (.ref b9), .unset, .unset] [])) _
      refine XS.iload X20.here hx rfl (hb hby at_74) rfl ?_
      show Steps p.tables e below (T20.setTop (mkF m 76 #[.val (.long q1), .second, .val (.long q2), .second, .val (.long q3), .second, .val (.int p4), .val (.ref b1), .val (.int ((2 : Int32) + (p4 &&& (1 : Int32)))), .val (.int (((p4.toUInt32 >>> ((1 : Int32) &&& 31).toUInt32).toInt32) % ((2 : Int32) + (p4 &&& (1 : Int32))))), .val (.ref b9), .unset, .unset] [(.int ((2 : Int32) + (p4 &&& (1 : Int32))))])) _
      refine XS.iconst X20.here hx rfl (hb hby at_76) ?_
      show Steps p.tables e below (T20.setTop (mkF m 77 #[.val (.long q1), .second, .val (.long q2), .second, .val (.long q3), .second, .val (.int p4), .val (.ref b1), .val (.int ((2 : Int32) + (p4 &&& (1 : Int32)))), .val (.int (((p4.toUInt32 >>> ((1 : Int32) &&& 31).toUInt32).toInt32) % ((2 : Int32) + (p4 &&& (1 : Int32))))), .val (.ref b9), .unset, .unset] [(.int (2 : Int32)), (.int ((2 : Int32) + (p4 &&& (1 : Int32))))])) _
      refine XS.icmpYes X20.here hx rfl (pc0 := 77) (pc' := 95) rfl (hb hby at_77) rfl (feq (own_n32 hc19)).2 (by decide) (by decide) ?_
      show Steps p.tables e below (T20.setTop (mkF m 95 #[.val (.long q1), .second, .val (.long q2), .second, .val (.long q3), .second, .val (.int p4), .val (.ref b1), .val (.int ((2 : Int32) + (p4 &&& (1 : Int32)))), .val (.int (((p4.toUInt32 >>> ((1 : Int32) &&& 31).toUInt32).toInt32) % ((2 : Int32) + (p4 &&& (1 : Int32))))), .val (.ref b9), .unset, .unset] [])) _
      refine XS.iload X20.here hx rfl (hb hby at_95) rfl ?_
      exact kt
    by_cases hc23 : (((p4.toUInt32 >>> ((1 : Int32) &&& 31).toUInt32).toInt32) % ((2 : Int32) + (p4 &&& (1 : Int32)))) = (0 : Int32)
    · obtain ⟨_, _, ⟨T24, L24, k24, n24⟩, -, X24, ⟨Lc24, hQ24, lz24, yz24, zz24⟩, st24⟩ := Jvm.LawKit.callS X20 hx (y := (⟨"java/lang/Math", "max", "(JJ)J"⟩ : MethodName)) hown (mvT hZ (hw _ (List.mem_of_getElem? (i := 50) rfl))) (mvT hZ (hw _ (List.mem_of_getElem? (i := 39) rfl))) (mvT hZ (hw _ (List.mem_of_getElem? (i := 40) rfl))) (mvT hZ (hw _ (List.mem_of_getElem? (i := 41) rfl))) (by decide) (backOf (W := 0) (rm5 l Z a0 hw [] q2 q3 T20.heap n0 zs21 ) hZ (hw _ (List.mem_of_getElem? (i := 41) rfl)) (hw _ (List.mem_of_getElem? (i := 40) rfl)) (by decide) (by decide)) (g := (mkF m 103 #[.val (.long q1), .second, .val (.long q2), .second, .val (.long q3), .second, .val (.int p4), .val (.ref b1), .val (.int ((2 : Int32) + (p4 &&& (1 : Int32)))), .val (.int (((p4.toUInt32 >>> ((1 : Int32) &&& 31).toUInt32).toInt32) % ((2 : Int32) + (p4 &&& (1 : Int32))))), .val (.ref b9), .unset, .unset] [(.long q3), (.long q2)])) rfl (by rw [hml]; rfl) (argsL := [(.long q2), (.long q3)]) (rest := []) (lenOf pd_0_2 rfl) rfl (by show 2 * 0 + _ ≤ _; exact Nat.le_of_eq rfl) (hb hby at_103) (fun _ _ => ⟨rfl, rfl, (by decide : 2 + 0 ≤ _), (by decide : 11 + 0 ≤ _)⟩)
      dsimp only [Pt.U, Pt.locs, Pt.cells, Pt.slots] at X24 lz24 yz24 zz24 st24 hQ24
      subst lz24 yz24 zz24
      obtain ⟨rfl, N24q, e24⟩ := hQ24
      have N24 := Fr.app N20 N24q
      have fa25 : Arv Z T20.heap b1 k1 .long (3 : Int32) [(.long q1), (.long q2), (.long q3)] (.long (0 : Int64)) := (((((V7.ext E9).keep K12 (ninS ne_b1_b9 nin0)).keep K14 (ninS ne_b1_b9 nin0)).keep K16 (ninS ne_b1_b9 nin0)).keep K20 (ninS ne_b1_b9 nin0))
      obtain ⟨cl26, Ar26, qq26, S26, N26_, H26, G26⟩ := id fa25
      have hin26 : ¬ ((((p4.toUInt32 >>> ((1 : Int32) &&& 31).toUInt32).toInt32) % ((2 : Int32) + (p4 &&& (1 : Int32)))) < 0 ∨ cl26.slots.size ≤ ((((p4.toUInt32 >>> ((1 : Int32) &&& 31).toUInt32).toInt32) % ((2 : Int32) + (p4 &&& (1 : Int32))))).toNatClampNeg) := inb_of S26 (by rw [(hc23 : (((p4.toUInt32 >>> ((1 : Int32) &&& 31).toUInt32).toInt32) % ((2 : Int32) + (p4 &&& (1 : Int32)))) = (0 : Int32))]; exact ⟨by decide, by decide⟩)
      have hat26 : cl26.slots[((((p4.toUInt32 >>> ((1 : Int32) &&& 31).toUInt32).toInt32) % ((2 : Int32) + (p4 &&& (1 : Int32))))).toNatClampNeg]? = some (.long q1) := (H26 ((((p4.toUInt32 >>> ((1 : Int32) &&& 31).toUInt32).toInt32) % ((2 : Int32) + (p4 &&& (1 : Int32))))).toNatClampNeg (Nat.lt_of_not_le fun w => hin26 (Or.inr w))).trans (congrArg some ((by rw [(hc23 : (((p4.toUInt32 >>> ((1 : Int32) &&& 31).toUInt32).toInt32) % ((2 : Int32) + (p4 &&& (1 : Int32)))) = (0 : Int32))]; rfl)))
      obtain ⟨cq27, kq27, q27a, q27b, q27c⟩ := isOf hZ e24 Ec20_a1
      obtain ⟨_, _, ⟨T27, L27, k27, n27⟩, -, X27, ⟨Lc27, hQ27, lz27, yz27, zz27⟩, st27⟩ := X24.virtualBack hx (y := (⟨"com/example/placecard/placecard/TableValues", "maxWithout", "(J)J"⟩ : MethodName)) (z := (⟨"com/example/placecard/placecard/TableValues", "maxWithout", "(J)J"⟩ : MethodName)) hown (mvT hZ (hw _ (List.mem_of_getElem? (i := 42) rfl))) (mvT hZ (hw _ (List.mem_of_getElem? (i := 43) rfl))) (notFace_of_selects (args := #[]) (mvT hZ (hw _ (List.mem_of_getElem? (i := 45) rfl)))) (mvT hZ (hw _ (List.mem_of_getElem? (i := 45) rfl))) (mvT hZ (hw _ (List.mem_of_getElem? (i := 44) rfl))) (by decide) (backOf (W := 0) (rm6 l Z a0 hw [] b9 q1 (ab0_16 q1 q2 q3 p4) (ab0_17 q1 q2 q3 p4) (ab0_18 q1 q2 q3 p4) (ab0_19 q1 q2 q3 p4) (ab0_20 q1 q2 q3 p4) (ab0_21 q1 q2 q3 p4) (ab0_22 q1 q2 q3 p4) (ab0_23 q1 q2 q3 p4) T20.heap n0 zs21 Ec20_a1 abFc20_a1_count abFc20_a1_sum abFc20_a1_max abFc20_a1_maxCount abFc20_a1_belowMax abFc20_a1_min abFc20_a1_minCount abFc20_a1_aboveMin) hZ (hw _ (List.mem_of_getElem? (i := 46) rfl)) (hw _ (List.mem_of_getElem? (i := 3) rfl)) (by decide) (by decide)) q27a q27c (g := (mkF m 142 #[.val (.long q1), .second, .val (.long q2), .second, .val (.long q3), .second, .val (.int p4), .val (.ref b1), .val (.int ((2 : Int32) + (p4 &&& (1 : Int32)))), .val (.int (((p4.toUInt32 >>> ((1 : Int32) &&& 31).toUInt32).toInt32) % ((2 : Int32) + (p4 &&& (1 : Int32))))), .val (.ref b9), .val (.long (f5 q2 q3)), .second] [(.long q1), (.ref b9)])) rfl (by rw [hml]; rfl) (Steps.refl _) (argsL := [(.long q1)]) (rest := []) (lenOf pd_0_3 rfl) rfl (by show 2 * 0 + _ ≤ _; exact Nat.le_of_eq rfl) (hb hby at_142) (fun _ _ => ⟨rfl, e24, (by decide : 2 + 0 ≤ _), (by decide : 11 + 0 ≤ _)⟩)
      dsimp only [Pt.U, Pt.locs, Pt.cells, Pt.slots] at X27 lz27 yz27 zz27 st27 hQ27
      subst lz27 yz27 zz27
      obtain ⟨rfl, N27q, e27⟩ := hQ27
      have N27 := Fr.app N24 N27q
      obtain ⟨fs, hr, hrun, hended, hW, hsame⟩ := X27.leave (v := some (.int (1 : Int32))) (fun h => by rw [Bd.returns] at h; cases h)
      refine ⟨_, _, pre22 _ ?_, hrun, hended, _, _, rfl, ?_, ⟨_, rfl⟩, hW, hsame.mono (by decide) (by decide)⟩
      · show Steps p.tables e below (T20.setTop (mkF m 97 #[.val (.long q1), .second, .val (.long q2), .second, .val (.long q3), .second, .val (.int p4), .val (.ref b1), .val (.int ((2 : Int32) + (p4 &&& (1 : Int32)))), .val (.int (((p4.toUInt32 >>> ((1 : Int32) &&& 31).toUInt32).toInt32) % ((2 : Int32) + (p4 &&& (1 : Int32))))), .val (.ref b9), .unset, .unset] [(.int (((p4.toUInt32 >>> ((1 : Int32) &&& 31).toUInt32).toInt32) % ((2 : Int32) + (p4 &&& (1 : Int32)))))])) _
        refine XS.ifNo X20.here hx rfl (hb hby at_97) rfl ((if0 _ _).trans (teq hc23).2) ?_
        show Steps p.tables e below (T20.setTop (mkF m 100 #[.val (.long q1), .second, .val (.long q2), .second, .val (.long q3), .second, .val (.int p4), .val (.ref b1), .val (.int ((2 : Int32) + (p4 &&& (1 : Int32)))), .val (.int (((p4.toUInt32 >>> ((1 : Int32) &&& 31).toUInt32).toInt32) % ((2 : Int32) + (p4 &&& (1 : Int32))))), .val (.ref b9), .unset, .unset] [])) _
        refine XS.lloadN X20.here hx rfl (hb hby at_100) rfl ?_
        show Steps p.tables e below (T20.setTop (mkF m 101 #[.val (.long q1), .second, .val (.long q2), .second, .val (.long q3), .second, .val (.int p4), .val (.ref b1), .val (.int ((2 : Int32) + (p4 &&& (1 : Int32)))), .val (.int (((p4.toUInt32 >>> ((1 : Int32) &&& 31).toUInt32).toInt32) % ((2 : Int32) + (p4 &&& (1 : Int32))))), .val (.ref b9), .unset, .unset] [(.long q2)])) _
        refine XS.lload X20.here hx rfl (hb hby at_101) rfl ?_
        show Steps p.tables e below (T20.setTop (mkF m 103 #[.val (.long q1), .second, .val (.long q2), .second, .val (.long q3), .second, .val (.int p4), .val (.ref b1), .val (.int ((2 : Int32) + (p4 &&& (1 : Int32)))), .val (.int (((p4.toUInt32 >>> ((1 : Int32) &&& 31).toUInt32).toInt32) % ((2 : Int32) + (p4 &&& (1 : Int32))))), .val (.ref b9), .unset, .unset] [(.long q3), (.long q2)])) _
        refine st24 _ ?_
        show Steps p.tables e below (T24.setTop (mkF m 106 #[.val (.long q1), .second, .val (.long q2), .second, .val (.long q3), .second, .val (.int p4), .val (.ref b1), .val (.int ((2 : Int32) + (p4 &&& (1 : Int32)))), .val (.int (((p4.toUInt32 >>> ((1 : Int32) &&& 31).toUInt32).toInt32) % ((2 : Int32) + (p4 &&& (1 : Int32))))), .val (.ref b9), .unset, .unset] [(.long (f5 q2 q3))])) _
        refine XS.lstore X24.here hx rfl (hb hby at_106) rfl (l' := #[.val (.long q1), .second, .val (.long q2), .second, .val (.long q3), .second, .val (.int p4), .val (.ref b1), .val (.int ((2 : Int32) + (p4 &&& (1 : Int32)))), .val (.int (((p4.toUInt32 >>> ((1 : Int32) &&& 31).toUInt32).toInt32) % ((2 : Int32) + (p4 &&& (1 : Int32))))), .val (.ref b9), .val (.long (f5 q2 q3)), .second]) rfl ?_
        show Steps p.tables e below (T24.setTop (mkF m 108 #[.val (.long q1), .second, .val (.long q2), .second, .val (.long q3), .second, .val (.int p4), .val (.ref b1), .val (.int ((2 : Int32) + (p4 &&& (1 : Int32)))), .val (.int (((p4.toUInt32 >>> ((1 : Int32) &&& 31).toUInt32).toInt32) % ((2 : Int32) + (p4 &&& (1 : Int32))))), .val (.ref b9), .val (.long (f5 q2 q3)), .second] [])) _
        refine XS.goto X24.here hx rfl (pc0 := 108) (pc' := 135) rfl (hb hby at_108) (by decide) (by decide) ?_
        show Steps p.tables e below (T24.setTop (mkF m 135 #[.val (.long q1), .second, .val (.long q2), .second, .val (.long q3), .second, .val (.int p4), .val (.ref b1), .val (.int ((2 : Int32) + (p4 &&& (1 : Int32)))), .val (.int (((p4.toUInt32 >>> ((1 : Int32) &&& 31).toUInt32).toInt32) % ((2 : Int32) + (p4 &&& (1 : Int32))))), .val (.ref b9), .val (.long (f5 q2 q3)), .second] [])) _
        refine XS.aload X24.here hx rfl (hb hby at_135) rfl rfl ?_
        show Steps p.tables e below (T24.setTop (mkF m 137 #[.val (.long q1), .second, .val (.long q2), .second, .val (.long q3), .second, .val (.int p4), .val (.ref b1), .val (.int ((2 : Int32) + (p4 &&& (1 : Int32)))), .val (.int (((p4.toUInt32 >>> ((1 : Int32) &&& 31).toUInt32).toInt32) % ((2 : Int32) + (p4 &&& (1 : Int32))))), .val (.ref b9), .val (.long (f5 q2 q3)), .second] [(.ref b9)])) _
        refine XS.aload X24.here hx rfl (hb hby at_137) rfl rfl ?_
        show Steps p.tables e below (T24.setTop (mkF m 139 #[.val (.long q1), .second, .val (.long q2), .second, .val (.long q3), .second, .val (.int p4), .val (.ref b1), .val (.int ((2 : Int32) + (p4 &&& (1 : Int32)))), .val (.int (((p4.toUInt32 >>> ((1 : Int32) &&& 31).toUInt32).toInt32) % ((2 : Int32) + (p4 &&& (1 : Int32))))), .val (.ref b9), .val (.long (f5 q2 q3)), .second] [(.ref b1), (.ref b9)])) _
        refine XS.iload X24.here hx rfl (hb hby at_139) rfl ?_
        show Steps p.tables e below (T24.setTop (mkF m 141 #[.val (.long q1), .second, .val (.long q2), .second, .val (.long q3), .second, .val (.int p4), .val (.ref b1), .val (.int ((2 : Int32) + (p4 &&& (1 : Int32)))), .val (.int (((p4.toUInt32 >>> ((1 : Int32) &&& 31).toUInt32).toInt32) % ((2 : Int32) + (p4 &&& (1 : Int32))))), .val (.ref b9), .val (.long (f5 q2 q3)), .second] [(.int (((p4.toUInt32 >>> ((1 : Int32) &&& 31).toUInt32).toInt32) % ((2 : Int32) + (p4 &&& (1 : Int32))))), (.ref b1), (.ref b9)])) _
        refine X24.laload hx (j := (((p4.toUInt32 >>> ((1 : Int32) &&& 31).toUInt32).toInt32) % ((2 : Int32) + (p4 &&& (1 : Int32))))) (v := (.long q1)) (by rw [e24]; exact Ar26.1) (State.isArrayOf_alike hZ.alike Ar26.2.1) Ar26.2.2 hin26 hat26 (g := (mkF m 141 #[.val (.long q1), .second, .val (.long q2), .second, .val (.long q3), .second, .val (.int p4), .val (.ref b1), .val (.int ((2 : Int32) + (p4 &&& (1 : Int32)))), .val (.int (((p4.toUInt32 >>> ((1 : Int32) &&& 31).toUInt32).toInt32) % ((2 : Int32) + (p4 &&& (1 : Int32))))), .val (.ref b9), .val (.long (f5 q2 q3)), .second] [(.int (((p4.toUInt32 >>> ((1 : Int32) &&& 31).toUInt32).toInt32) % ((2 : Int32) + (p4 &&& (1 : Int32))))), (.ref b1), (.ref b9)])) rfl rfl (hb hby at_141) _ ?_
        show Steps p.tables e below (T24.setTop (mkF m 142 #[.val (.long q1), .second, .val (.long q2), .second, .val (.long q3), .second, .val (.int p4), .val (.ref b1), .val (.int ((2 : Int32) + (p4 &&& (1 : Int32)))), .val (.int (((p4.toUInt32 >>> ((1 : Int32) &&& 31).toUInt32).toInt32) % ((2 : Int32) + (p4 &&& (1 : Int32))))), .val (.ref b9), .val (.long (f5 q2 q3)), .second] [(.long q1), (.ref b9)])) _
        refine st27.trans ?_
        show Steps p.tables e below (T27.setTop (mkF m 145 #[.val (.long q1), .second, .val (.long q2), .second, .val (.long q3), .second, .val (.int p4), .val (.ref b1), .val (.int ((2 : Int32) + (p4 &&& (1 : Int32)))), .val (.int (((p4.toUInt32 >>> ((1 : Int32) &&& 31).toUInt32).toInt32) % ((2 : Int32) + (p4 &&& (1 : Int32))))), .val (.ref b9), .val (.long (f5 q2 q3)), .second] [(.long (f6 q1 (ab0_16 q1 q2 q3 p4) (ab0_17 q1 q2 q3 p4) (ab0_18 q1 q2 q3 p4) (ab0_19 q1 q2 q3 p4) (ab0_20 q1 q2 q3 p4) (ab0_21 q1 q2 q3 p4) (ab0_22 q1 q2 q3 p4) (ab0_23 q1 q2 q3 p4)))])) _
        refine XS.lload X27.here hx rfl (hb hby at_145) rfl ?_
        show Steps p.tables e below (T27.setTop (mkF m 147 #[.val (.long q1), .second, .val (.long q2), .second, .val (.long q3), .second, .val (.int p4), .val (.ref b1), .val (.int ((2 : Int32) + (p4 &&& (1 : Int32)))), .val (.int (((p4.toUInt32 >>> ((1 : Int32) &&& 31).toUInt32).toInt32) % ((2 : Int32) + (p4 &&& (1 : Int32))))), .val (.ref b9), .val (.long (f5 q2 q3)), .second] [(.long (f5 q2 q3)), (.long (f6 q1 (ab0_16 q1 q2 q3 p4) (ab0_17 q1 q2 q3 p4) (ab0_18 q1 q2 q3 p4) (ab0_19 q1 q2 q3 p4) (ab0_20 q1 q2 q3 p4) (ab0_21 q1 q2 q3 p4) (ab0_22 q1 q2 q3 p4) (ab0_23 q1 q2 q3 p4)))])) _
        refine XS.lcmp X27.here hx rfl (hb hby at_147) rfl ?_
        show Steps p.tables e below (T27.setTop (mkF m 148 #[.val (.long q1), .second, .val (.long q2), .second, .val (.long q3), .second, .val (.int p4), .val (.ref b1), .val (.int ((2 : Int32) + (p4 &&& (1 : Int32)))), .val (.int (((p4.toUInt32 >>> ((1 : Int32) &&& 31).toUInt32).toInt32) % ((2 : Int32) + (p4 &&& (1 : Int32))))), .val (.ref b9), .val (.long (f5 q2 q3)), .second] [(.int (lcmpW (f6 q1 (ab0_16 q1 q2 q3 p4) (ab0_17 q1 q2 q3 p4) (ab0_18 q1 q2 q3 p4) (ab0_19 q1 q2 q3 p4) (ab0_20 q1 q2 q3 p4) (ab0_21 q1 q2 q3 p4) (ab0_22 q1 q2 q3 p4) (ab0_23 q1 q2 q3 p4)) (f5 q2 q3)))])) _
        refine XS.ifNo X27.here hx rfl (hb hby at_148) rfl ((if0 _ _).trans (teq ((lw_eq (f6 q1 (ab0_16 q1 q2 q3 p4) (ab0_17 q1 q2 q3 p4) (ab0_18 q1 q2 q3 p4) (ab0_19 q1 q2 q3 p4) (ab0_20 q1 q2 q3 p4) (ab0_21 q1 q2 q3 p4) (ab0_22 q1 q2 q3 p4) (ab0_23 q1 q2 q3 p4)) (f5 q2 q3)).mpr (own_fin0 q1 q2 q3 p4))).2) ?_
        show Steps p.tables e below (T27.setTop (mkF m 151 #[.val (.long q1), .second, .val (.long q2), .second, .val (.long q3), .second, .val (.int p4), .val (.ref b1), .val (.int ((2 : Int32) + (p4 &&& (1 : Int32)))), .val (.int (((p4.toUInt32 >>> ((1 : Int32) &&& 31).toUInt32).toInt32) % ((2 : Int32) + (p4 &&& (1 : Int32))))), .val (.ref b9), .val (.long (f5 q2 q3)), .second] [])) _
        refine XS.iconst X27.here hx rfl (hb hby at_151) ?_
        show Steps p.tables e below (T27.setTop (mkF m 152 #[.val (.long q1), .second, .val (.long q2), .second, .val (.long q3), .second, .val (.int p4), .val (.ref b1), .val (.int ((2 : Int32) + (p4 &&& (1 : Int32)))), .val (.int (((p4.toUInt32 >>> ((1 : Int32) &&& 31).toUInt32).toInt32) % ((2 : Int32) + (p4 &&& (1 : Int32))))), .val (.ref b9), .val (.long (f5 q2 q3)), .second] [(.int (1 : Int32))])) _
        refine XS.goto X27.here hx rfl (pc0 := 152) (pc' := 156) rfl (hb hby at_152) (by decide) (by decide) ?_
        show Steps p.tables e below (T27.setTop (mkF m 156 #[.val (.long q1), .second, .val (.long q2), .second, .val (.long q3), .second, .val (.int p4), .val (.ref b1), .val (.int ((2 : Int32) + (p4 &&& (1 : Int32)))), .val (.int (((p4.toUInt32 >>> ((1 : Int32) &&& 31).toUInt32).toInt32) % ((2 : Int32) + (p4 &&& (1 : Int32))))), .val (.ref b9), .val (.long (f5 q2 q3)), .second] [(.int (1 : Int32))])) _
        exact retN X27 hx (t := .boolean) Bd.returns (by simp) (hb hby at_156) hr
      · show Q0 Z q1 q2 q3 p4 h0 n0 _ T27.heap _
        rw [e27]
        exact ⟨by rw [f0, if_pos hc19, if_pos hc23], N27⟩
    · have pre28 : ∀ t, Steps p.tables e below (T20.setTop (mkF m 114 #[.val (.long q1), .second, .val (.long q2), .second, .val (.long q3), .second, .val (.int p4), .val (.ref b1), .val (.int ((2 : Int32) + (p4 &&& (1 : Int32)))), .val (.int (((p4.toUInt32 >>> ((1 : Int32) &&& 31).toUInt32).toInt32) % ((2 : Int32) + (p4 &&& (1 : Int32))))), .val (.ref b9), .unset, .unset] [(.int (1 : Int32)), (.int (((p4.toUInt32 >>> ((1 : Int32) &&& 31).toUInt32).toInt32) % ((2 : Int32) + (p4 &&& (1 : Int32)))))])) t → Steps p.tables e below (s₁.setTop (entryFrame m #[(.long q1), (.long q2), (.long q3), (.int p4)] maxLocals)) t := fun t kt => by
        refine pre22 _ ?_
        show Steps p.tables e below (T20.setTop (mkF m 97 #[.val (.long q1), .second, .val (.long q2), .second, .val (.long q3), .second, .val (.int p4), .val (.ref b1), .val (.int ((2 : Int32) + (p4 &&& (1 : Int32)))), .val (.int (((p4.toUInt32 >>> ((1 : Int32) &&& 31).toUInt32).toInt32) % ((2 : Int32) + (p4 &&& (1 : Int32))))), .val (.ref b9), .unset, .unset] [(.int (((p4.toUInt32 >>> ((1 : Int32) &&& 31).toUInt32).toInt32) % ((2 : Int32) + (p4 &&& (1 : Int32)))))])) _
        refine XS.ifYes X20.here hx rfl (pc0 := 97) (pc' := 111) rfl (hb hby at_97) rfl ((if0 _ _).trans (feq hc23).2) (by decide) (by decide) ?_
        show Steps p.tables e below (T20.setTop (mkF m 111 #[.val (.long q1), .second, .val (.long q2), .second, .val (.long q3), .second, .val (.int p4), .val (.ref b1), .val (.int ((2 : Int32) + (p4 &&& (1 : Int32)))), .val (.int (((p4.toUInt32 >>> ((1 : Int32) &&& 31).toUInt32).toInt32) % ((2 : Int32) + (p4 &&& (1 : Int32))))), .val (.ref b9), .unset, .unset] [])) _
        refine XS.iload X20.here hx rfl (hb hby at_111) rfl ?_
        show Steps p.tables e below (T20.setTop (mkF m 113 #[.val (.long q1), .second, .val (.long q2), .second, .val (.long q3), .second, .val (.int p4), .val (.ref b1), .val (.int ((2 : Int32) + (p4 &&& (1 : Int32)))), .val (.int (((p4.toUInt32 >>> ((1 : Int32) &&& 31).toUInt32).toInt32) % ((2 : Int32) + (p4 &&& (1 : Int32))))), .val (.ref b9), .unset, .unset] [(.int (((p4.toUInt32 >>> ((1 : Int32) &&& 31).toUInt32).toInt32) % ((2 : Int32) + (p4 &&& (1 : Int32)))))])) _
        refine XS.iconst X20.here hx rfl (hb hby at_113) ?_
        exact kt
      by_cases hc29 : (((p4.toUInt32 >>> ((1 : Int32) &&& 31).toUInt32).toInt32) % ((2 : Int32) + (p4 &&& (1 : Int32)))) = (1 : Int32)
      · obtain ⟨_, _, ⟨T30, L30, k30, n30⟩, -, X30, ⟨Lc30, hQ30, lz30, yz30, zz30⟩, st30⟩ := Jvm.LawKit.callS X20 hx (y := (⟨"java/lang/Math", "max", "(JJ)J"⟩ : MethodName)) hown (mvT hZ (hw _ (List.mem_of_getElem? (i := 50) rfl))) (mvT hZ (hw _ (List.mem_of_getElem? (i := 39) rfl))) (mvT hZ (hw _ (List.mem_of_getElem? (i := 40) rfl))) (mvT hZ (hw _ (List.mem_of_getElem? (i := 41) rfl))) (by decide) (backOf (W := 0) (rm5 l Z a0 hw [] q1 q3 T20.heap n0 zs21 ) hZ (hw _ (List.mem_of_getElem? (i := 41) rfl)) (hw _ (List.mem_of_getElem? (i := 40) rfl)) (by decide) (by decide)) (g := (mkF m 120 #[.val (.long q1), .second, .val (.long q2), .second, .val (.long q3), .second, .val (.int p4), .val (.ref b1), .val (.int ((2 : Int32) + (p4 &&& (1 : Int32)))), .val (.int (((p4.toUInt32 >>> ((1 : Int32) &&& 31).toUInt32).toInt32) % ((2 : Int32) + (p4 &&& (1 : Int32))))), .val (.ref b9), .unset, .unset] [(.long q3), (.long q1)])) rfl (by rw [hml]; rfl) (argsL := [(.long q1), (.long q3)]) (rest := []) (lenOf pd_0_2 rfl) rfl (by show 2 * 0 + _ ≤ _; exact Nat.le_of_eq rfl) (hb hby at_120) (fun _ _ => ⟨rfl, rfl, (by decide : 2 + 0 ≤ _), (by decide : 11 + 0 ≤ _)⟩)
        dsimp only [Pt.U, Pt.locs, Pt.cells, Pt.slots] at X30 lz30 yz30 zz30 st30 hQ30
        subst lz30 yz30 zz30
        obtain ⟨rfl, N30q, e30⟩ := hQ30
        have N30 := Fr.app N20 N30q
        have fa31 : Arv Z T20.heap b1 k1 .long (3 : Int32) [(.long q1), (.long q2), (.long q3)] (.long (0 : Int64)) := (((((V7.ext E9).keep K12 (ninS ne_b1_b9 nin0)).keep K14 (ninS ne_b1_b9 nin0)).keep K16 (ninS ne_b1_b9 nin0)).keep K20 (ninS ne_b1_b9 nin0))
        obtain ⟨cl32, Ar32, qq32, S32, N32_, H32, G32⟩ := id fa31
        have hin32 : ¬ ((((p4.toUInt32 >>> ((1 : Int32) &&& 31).toUInt32).toInt32) % ((2 : Int32) + (p4 &&& (1 : Int32)))) < 0 ∨ cl32.slots.size ≤ ((((p4.toUInt32 >>> ((1 : Int32) &&& 31).toUInt32).toInt32) % ((2 : Int32) + (p4 &&& (1 : Int32))))).toNatClampNeg) := inb_of S32 (by rw [(hc29 : (((p4.toUInt32 >>> ((1 : Int32) &&& 31).toUInt32).toInt32) % ((2 : Int32) + (p4 &&& (1 : Int32)))) = (1 : Int32))]; exact ⟨by decide, by decide⟩)
        have hat32 : cl32.slots[((((p4.toUInt32 >>> ((1 : Int32) &&& 31).toUInt32).toInt32) % ((2 : Int32) + (p4 &&& (1 : Int32))))).toNatClampNeg]? = some (.long q2) := (H32 ((((p4.toUInt32 >>> ((1 : Int32) &&& 31).toUInt32).toInt32) % ((2 : Int32) + (p4 &&& (1 : Int32))))).toNatClampNeg (Nat.lt_of_not_le fun w => hin32 (Or.inr w))).trans (congrArg some ((by rw [(hc29 : (((p4.toUInt32 >>> ((1 : Int32) &&& 31).toUInt32).toInt32) % ((2 : Int32) + (p4 &&& (1 : Int32)))) = (1 : Int32))]; rfl)))
        obtain ⟨cq33, kq33, q33a, q33b, q33c⟩ := isOf hZ e30 Ec20_a1
        obtain ⟨_, _, ⟨T33, L33, k33, n33⟩, -, X33, ⟨Lc33, hQ33, lz33, yz33, zz33⟩, st33⟩ := X30.virtualBack hx (y := (⟨"com/example/placecard/placecard/TableValues", "maxWithout", "(J)J"⟩ : MethodName)) (z := (⟨"com/example/placecard/placecard/TableValues", "maxWithout", "(J)J"⟩ : MethodName)) hown (mvT hZ (hw _ (List.mem_of_getElem? (i := 42) rfl))) (mvT hZ (hw _ (List.mem_of_getElem? (i := 43) rfl))) (notFace_of_selects (args := #[]) (mvT hZ (hw _ (List.mem_of_getElem? (i := 45) rfl)))) (mvT hZ (hw _ (List.mem_of_getElem? (i := 45) rfl))) (mvT hZ (hw _ (List.mem_of_getElem? (i := 44) rfl))) (by decide) (backOf (W := 0) (rm6 l Z a0 hw [] b9 q2 (ab0_16 q1 q2 q3 p4) (ab0_17 q1 q2 q3 p4) (ab0_18 q1 q2 q3 p4) (ab0_19 q1 q2 q3 p4) (ab0_20 q1 q2 q3 p4) (ab0_21 q1 q2 q3 p4) (ab0_22 q1 q2 q3 p4) (ab0_23 q1 q2 q3 p4) T20.heap n0 zs21 Ec20_a1 abFc20_a1_count abFc20_a1_sum abFc20_a1_max abFc20_a1_maxCount abFc20_a1_belowMax abFc20_a1_min abFc20_a1_minCount abFc20_a1_aboveMin) hZ (hw _ (List.mem_of_getElem? (i := 46) rfl)) (hw _ (List.mem_of_getElem? (i := 3) rfl)) (by decide) (by decide)) q33a q33c (g := (mkF m 142 #[.val (.long q1), .second, .val (.long q2), .second, .val (.long q3), .second, .val (.int p4), .val (.ref b1), .val (.int ((2 : Int32) + (p4 &&& (1 : Int32)))), .val (.int (((p4.toUInt32 >>> ((1 : Int32) &&& 31).toUInt32).toInt32) % ((2 : Int32) + (p4 &&& (1 : Int32))))), .val (.ref b9), .val (.long (f5 q1 q3)), .second] [(.long q2), (.ref b9)])) rfl (by rw [hml]; rfl) (Steps.refl _) (argsL := [(.long q2)]) (rest := []) (lenOf pd_0_3 rfl) rfl (by show 2 * 0 + _ ≤ _; exact Nat.le_of_eq rfl) (hb hby at_142) (fun _ _ => ⟨rfl, e30, (by decide : 2 + 0 ≤ _), (by decide : 11 + 0 ≤ _)⟩)
        dsimp only [Pt.U, Pt.locs, Pt.cells, Pt.slots] at X33 lz33 yz33 zz33 st33 hQ33
        subst lz33 yz33 zz33
        obtain ⟨rfl, N33q, e33⟩ := hQ33
        have N33 := Fr.app N30 N33q
        obtain ⟨fs, hr, hrun, hended, hW, hsame⟩ := X33.leave (v := some (.int (1 : Int32))) (fun h => by rw [Bd.returns] at h; cases h)
        refine ⟨_, _, pre28 _ ?_, hrun, hended, _, _, rfl, ?_, ⟨_, rfl⟩, hW, hsame.mono (by decide) (by decide)⟩
        · show Steps p.tables e below (T20.setTop (mkF m 114 #[.val (.long q1), .second, .val (.long q2), .second, .val (.long q3), .second, .val (.int p4), .val (.ref b1), .val (.int ((2 : Int32) + (p4 &&& (1 : Int32)))), .val (.int (((p4.toUInt32 >>> ((1 : Int32) &&& 31).toUInt32).toInt32) % ((2 : Int32) + (p4 &&& (1 : Int32))))), .val (.ref b9), .unset, .unset] [(.int (1 : Int32)), (.int (((p4.toUInt32 >>> ((1 : Int32) &&& 31).toUInt32).toInt32) % ((2 : Int32) + (p4 &&& (1 : Int32)))))])) _
          refine XS.icmpNo X20.here hx rfl (hb hby at_114) rfl (teq hc29).2 ?_
          show Steps p.tables e below (T20.setTop (mkF m 117 #[.val (.long q1), .second, .val (.long q2), .second, .val (.long q3), .second, .val (.int p4), .val (.ref b1), .val (.int ((2 : Int32) + (p4 &&& (1 : Int32)))), .val (.int (((p4.toUInt32 >>> ((1 : Int32) &&& 31).toUInt32).toInt32) % ((2 : Int32) + (p4 &&& (1 : Int32))))), .val (.ref b9), .unset, .unset] [])) _
          refine XS.lloadN X20.here hx rfl (hb hby at_117) rfl ?_
          show Steps p.tables e below (T20.setTop (mkF m 118 #[.val (.long q1), .second, .val (.long q2), .second, .val (.long q3), .second, .val (.int p4), .val (.ref b1), .val (.int ((2 : Int32) + (p4 &&& (1 : Int32)))), .val (.int (((p4.toUInt32 >>> ((1 : Int32) &&& 31).toUInt32).toInt32) % ((2 : Int32) + (p4 &&& (1 : Int32))))), .val (.ref b9), .unset, .unset] [(.long q1)])) _
          refine XS.lload X20.here hx rfl (hb hby at_118) rfl ?_
          show Steps p.tables e below (T20.setTop (mkF m 120 #[.val (.long q1), .second, .val (.long q2), .second, .val (.long q3), .second, .val (.int p4), .val (.ref b1), .val (.int ((2 : Int32) + (p4 &&& (1 : Int32)))), .val (.int (((p4.toUInt32 >>> ((1 : Int32) &&& 31).toUInt32).toInt32) % ((2 : Int32) + (p4 &&& (1 : Int32))))), .val (.ref b9), .unset, .unset] [(.long q3), (.long q1)])) _
          refine st30 _ ?_
          show Steps p.tables e below (T30.setTop (mkF m 123 #[.val (.long q1), .second, .val (.long q2), .second, .val (.long q3), .second, .val (.int p4), .val (.ref b1), .val (.int ((2 : Int32) + (p4 &&& (1 : Int32)))), .val (.int (((p4.toUInt32 >>> ((1 : Int32) &&& 31).toUInt32).toInt32) % ((2 : Int32) + (p4 &&& (1 : Int32))))), .val (.ref b9), .unset, .unset] [(.long (f5 q1 q3))])) _
          refine XS.lstore X30.here hx rfl (hb hby at_123) rfl (l' := #[.val (.long q1), .second, .val (.long q2), .second, .val (.long q3), .second, .val (.int p4), .val (.ref b1), .val (.int ((2 : Int32) + (p4 &&& (1 : Int32)))), .val (.int (((p4.toUInt32 >>> ((1 : Int32) &&& 31).toUInt32).toInt32) % ((2 : Int32) + (p4 &&& (1 : Int32))))), .val (.ref b9), .val (.long (f5 q1 q3)), .second]) rfl ?_
          show Steps p.tables e below (T30.setTop (mkF m 125 #[.val (.long q1), .second, .val (.long q2), .second, .val (.long q3), .second, .val (.int p4), .val (.ref b1), .val (.int ((2 : Int32) + (p4 &&& (1 : Int32)))), .val (.int (((p4.toUInt32 >>> ((1 : Int32) &&& 31).toUInt32).toInt32) % ((2 : Int32) + (p4 &&& (1 : Int32))))), .val (.ref b9), .val (.long (f5 q1 q3)), .second] [])) _
          refine XS.goto X30.here hx rfl (pc0 := 125) (pc' := 135) rfl (hb hby at_125) (by decide) (by decide) ?_
          show Steps p.tables e below (T30.setTop (mkF m 135 #[.val (.long q1), .second, .val (.long q2), .second, .val (.long q3), .second, .val (.int p4), .val (.ref b1), .val (.int ((2 : Int32) + (p4 &&& (1 : Int32)))), .val (.int (((p4.toUInt32 >>> ((1 : Int32) &&& 31).toUInt32).toInt32) % ((2 : Int32) + (p4 &&& (1 : Int32))))), .val (.ref b9), .val (.long (f5 q1 q3)), .second] [])) _
          refine XS.aload X30.here hx rfl (hb hby at_135) rfl rfl ?_
          show Steps p.tables e below (T30.setTop (mkF m 137 #[.val (.long q1), .second, .val (.long q2), .second, .val (.long q3), .second, .val (.int p4), .val (.ref b1), .val (.int ((2 : Int32) + (p4 &&& (1 : Int32)))), .val (.int (((p4.toUInt32 >>> ((1 : Int32) &&& 31).toUInt32).toInt32) % ((2 : Int32) + (p4 &&& (1 : Int32))))), .val (.ref b9), .val (.long (f5 q1 q3)), .second] [(.ref b9)])) _
          refine XS.aload X30.here hx rfl (hb hby at_137) rfl rfl ?_
          show Steps p.tables e below (T30.setTop (mkF m 139 #[.val (.long q1), .second, .val (.long q2), .second, .val (.long q3), .second, .val (.int p4), .val (.ref b1), .val (.int ((2 : Int32) + (p4 &&& (1 : Int32)))), .val (.int (((p4.toUInt32 >>> ((1 : Int32) &&& 31).toUInt32).toInt32) % ((2 : Int32) + (p4 &&& (1 : Int32))))), .val (.ref b9), .val (.long (f5 q1 q3)), .second] [(.ref b1), (.ref b9)])) _
          refine XS.iload X30.here hx rfl (hb hby at_139) rfl ?_
          show Steps p.tables e below (T30.setTop (mkF m 141 #[.val (.long q1), .second, .val (.long q2), .second, .val (.long q3), .second, .val (.int p4), .val (.ref b1), .val (.int ((2 : Int32) + (p4 &&& (1 : Int32)))), .val (.int (((p4.toUInt32 >>> ((1 : Int32) &&& 31).toUInt32).toInt32) % ((2 : Int32) + (p4 &&& (1 : Int32))))), .val (.ref b9), .val (.long (f5 q1 q3)), .second] [(.int (((p4.toUInt32 >>> ((1 : Int32) &&& 31).toUInt32).toInt32) % ((2 : Int32) + (p4 &&& (1 : Int32))))), (.ref b1), (.ref b9)])) _
          refine X30.laload hx (j := (((p4.toUInt32 >>> ((1 : Int32) &&& 31).toUInt32).toInt32) % ((2 : Int32) + (p4 &&& (1 : Int32))))) (v := (.long q2)) (by rw [e30]; exact Ar32.1) (State.isArrayOf_alike hZ.alike Ar32.2.1) Ar32.2.2 hin32 hat32 (g := (mkF m 141 #[.val (.long q1), .second, .val (.long q2), .second, .val (.long q3), .second, .val (.int p4), .val (.ref b1), .val (.int ((2 : Int32) + (p4 &&& (1 : Int32)))), .val (.int (((p4.toUInt32 >>> ((1 : Int32) &&& 31).toUInt32).toInt32) % ((2 : Int32) + (p4 &&& (1 : Int32))))), .val (.ref b9), .val (.long (f5 q1 q3)), .second] [(.int (((p4.toUInt32 >>> ((1 : Int32) &&& 31).toUInt32).toInt32) % ((2 : Int32) + (p4 &&& (1 : Int32))))), (.ref b1), (.ref b9)])) rfl rfl (hb hby at_141) _ ?_
          show Steps p.tables e below (T30.setTop (mkF m 142 #[.val (.long q1), .second, .val (.long q2), .second, .val (.long q3), .second, .val (.int p4), .val (.ref b1), .val (.int ((2 : Int32) + (p4 &&& (1 : Int32)))), .val (.int (((p4.toUInt32 >>> ((1 : Int32) &&& 31).toUInt32).toInt32) % ((2 : Int32) + (p4 &&& (1 : Int32))))), .val (.ref b9), .val (.long (f5 q1 q3)), .second] [(.long q2), (.ref b9)])) _
          refine st33.trans ?_
          show Steps p.tables e below (T33.setTop (mkF m 145 #[.val (.long q1), .second, .val (.long q2), .second, .val (.long q3), .second, .val (.int p4), .val (.ref b1), .val (.int ((2 : Int32) + (p4 &&& (1 : Int32)))), .val (.int (((p4.toUInt32 >>> ((1 : Int32) &&& 31).toUInt32).toInt32) % ((2 : Int32) + (p4 &&& (1 : Int32))))), .val (.ref b9), .val (.long (f5 q1 q3)), .second] [(.long (f6 q2 (ab0_16 q1 q2 q3 p4) (ab0_17 q1 q2 q3 p4) (ab0_18 q1 q2 q3 p4) (ab0_19 q1 q2 q3 p4) (ab0_20 q1 q2 q3 p4) (ab0_21 q1 q2 q3 p4) (ab0_22 q1 q2 q3 p4) (ab0_23 q1 q2 q3 p4)))])) _
          refine XS.lload X33.here hx rfl (hb hby at_145) rfl ?_
          show Steps p.tables e below (T33.setTop (mkF m 147 #[.val (.long q1), .second, .val (.long q2), .second, .val (.long q3), .second, .val (.int p4), .val (.ref b1), .val (.int ((2 : Int32) + (p4 &&& (1 : Int32)))), .val (.int (((p4.toUInt32 >>> ((1 : Int32) &&& 31).toUInt32).toInt32) % ((2 : Int32) + (p4 &&& (1 : Int32))))), .val (.ref b9), .val (.long (f5 q1 q3)), .second] [(.long (f5 q1 q3)), (.long (f6 q2 (ab0_16 q1 q2 q3 p4) (ab0_17 q1 q2 q3 p4) (ab0_18 q1 q2 q3 p4) (ab0_19 q1 q2 q3 p4) (ab0_20 q1 q2 q3 p4) (ab0_21 q1 q2 q3 p4) (ab0_22 q1 q2 q3 p4) (ab0_23 q1 q2 q3 p4)))])) _
          refine XS.lcmp X33.here hx rfl (hb hby at_147) rfl ?_
          show Steps p.tables e below (T33.setTop (mkF m 148 #[.val (.long q1), .second, .val (.long q2), .second, .val (.long q3), .second, .val (.int p4), .val (.ref b1), .val (.int ((2 : Int32) + (p4 &&& (1 : Int32)))), .val (.int (((p4.toUInt32 >>> ((1 : Int32) &&& 31).toUInt32).toInt32) % ((2 : Int32) + (p4 &&& (1 : Int32))))), .val (.ref b9), .val (.long (f5 q1 q3)), .second] [(.int (lcmpW (f6 q2 (ab0_16 q1 q2 q3 p4) (ab0_17 q1 q2 q3 p4) (ab0_18 q1 q2 q3 p4) (ab0_19 q1 q2 q3 p4) (ab0_20 q1 q2 q3 p4) (ab0_21 q1 q2 q3 p4) (ab0_22 q1 q2 q3 p4) (ab0_23 q1 q2 q3 p4)) (f5 q1 q3)))])) _
          refine XS.ifNo X33.here hx rfl (hb hby at_148) rfl ((if0 _ _).trans (teq ((lw_eq (f6 q2 (ab0_16 q1 q2 q3 p4) (ab0_17 q1 q2 q3 p4) (ab0_18 q1 q2 q3 p4) (ab0_19 q1 q2 q3 p4) (ab0_20 q1 q2 q3 p4) (ab0_21 q1 q2 q3 p4) (ab0_22 q1 q2 q3 p4) (ab0_23 q1 q2 q3 p4)) (f5 q1 q3)).mpr (own_fin1 q1 q2 q3 p4))).2) ?_
          show Steps p.tables e below (T33.setTop (mkF m 151 #[.val (.long q1), .second, .val (.long q2), .second, .val (.long q3), .second, .val (.int p4), .val (.ref b1), .val (.int ((2 : Int32) + (p4 &&& (1 : Int32)))), .val (.int (((p4.toUInt32 >>> ((1 : Int32) &&& 31).toUInt32).toInt32) % ((2 : Int32) + (p4 &&& (1 : Int32))))), .val (.ref b9), .val (.long (f5 q1 q3)), .second] [])) _
          refine XS.iconst X33.here hx rfl (hb hby at_151) ?_
          show Steps p.tables e below (T33.setTop (mkF m 152 #[.val (.long q1), .second, .val (.long q2), .second, .val (.long q3), .second, .val (.int p4), .val (.ref b1), .val (.int ((2 : Int32) + (p4 &&& (1 : Int32)))), .val (.int (((p4.toUInt32 >>> ((1 : Int32) &&& 31).toUInt32).toInt32) % ((2 : Int32) + (p4 &&& (1 : Int32))))), .val (.ref b9), .val (.long (f5 q1 q3)), .second] [(.int (1 : Int32))])) _
          refine XS.goto X33.here hx rfl (pc0 := 152) (pc' := 156) rfl (hb hby at_152) (by decide) (by decide) ?_
          show Steps p.tables e below (T33.setTop (mkF m 156 #[.val (.long q1), .second, .val (.long q2), .second, .val (.long q3), .second, .val (.int p4), .val (.ref b1), .val (.int ((2 : Int32) + (p4 &&& (1 : Int32)))), .val (.int (((p4.toUInt32 >>> ((1 : Int32) &&& 31).toUInt32).toInt32) % ((2 : Int32) + (p4 &&& (1 : Int32))))), .val (.ref b9), .val (.long (f5 q1 q3)), .second] [(.int (1 : Int32))])) _
          exact retN X33 hx (t := .boolean) Bd.returns (by simp) (hb hby at_156) hr
        · show Q0 Z q1 q2 q3 p4 h0 n0 _ T33.heap _
          rw [e33]
          exact ⟨by rw [f0, if_pos hc19, if_neg hc23, if_pos hc29], N33⟩
      · obtain ⟨_, _, ⟨T34, L34, k34, n34⟩, -, X34, ⟨Lc34, hQ34, lz34, yz34, zz34⟩, st34⟩ := Jvm.LawKit.callS X20 hx (y := (⟨"java/lang/Math", "max", "(JJ)J"⟩ : MethodName)) hown (mvT hZ (hw _ (List.mem_of_getElem? (i := 50) rfl))) (mvT hZ (hw _ (List.mem_of_getElem? (i := 39) rfl))) (mvT hZ (hw _ (List.mem_of_getElem? (i := 40) rfl))) (mvT hZ (hw _ (List.mem_of_getElem? (i := 41) rfl))) (by decide) (backOf (W := 0) (rm5 l Z a0 hw [] q1 q2 T20.heap n0 zs21 ) hZ (hw _ (List.mem_of_getElem? (i := 41) rfl)) (hw _ (List.mem_of_getElem? (i := 40) rfl)) (by decide) (by decide)) (g := (mkF m 130 #[.val (.long q1), .second, .val (.long q2), .second, .val (.long q3), .second, .val (.int p4), .val (.ref b1), .val (.int ((2 : Int32) + (p4 &&& (1 : Int32)))), .val (.int (((p4.toUInt32 >>> ((1 : Int32) &&& 31).toUInt32).toInt32) % ((2 : Int32) + (p4 &&& (1 : Int32))))), .val (.ref b9), .unset, .unset] [(.long q2), (.long q1)])) rfl (by rw [hml]; rfl) (argsL := [(.long q1), (.long q2)]) (rest := []) (lenOf pd_0_2 rfl) rfl (by show 2 * 0 + _ ≤ _; exact Nat.le_of_eq rfl) (hb hby at_130) (fun _ _ => ⟨rfl, rfl, (by decide : 2 + 0 ≤ _), (by decide : 11 + 0 ≤ _)⟩)
        dsimp only [Pt.U, Pt.locs, Pt.cells, Pt.slots] at X34 lz34 yz34 zz34 st34 hQ34
        subst lz34 yz34 zz34
        obtain ⟨rfl, N34q, e34⟩ := hQ34
        have N34 := Fr.app N20 N34q
        have fa35 : Arv Z T20.heap b1 k1 .long (3 : Int32) [(.long q1), (.long q2), (.long q3)] (.long (0 : Int64)) := (((((V7.ext E9).keep K12 (ninS ne_b1_b9 nin0)).keep K14 (ninS ne_b1_b9 nin0)).keep K16 (ninS ne_b1_b9 nin0)).keep K20 (ninS ne_b1_b9 nin0))
        obtain ⟨cl36, Ar36, qq36, S36, N36_, H36, G36⟩ := id fa35
        have hin36 : ¬ ((((p4.toUInt32 >>> ((1 : Int32) &&& 31).toUInt32).toInt32) % ((2 : Int32) + (p4 &&& (1 : Int32)))) < 0 ∨ cl36.slots.size ≤ ((((p4.toUInt32 >>> ((1 : Int32) &&& 31).toUInt32).toInt32) % ((2 : Int32) + (p4 &&& (1 : Int32))))).toNatClampNeg) := inb_of S36 (by rw [((own_k3 p4 hc19 hc23 hc29) : (((p4.toUInt32 >>> ((1 : Int32) &&& 31).toUInt32).toInt32) % ((2 : Int32) + (p4 &&& (1 : Int32)))) = (2 : Int32))]; exact ⟨by decide, by decide⟩)
        have hat36 : cl36.slots[((((p4.toUInt32 >>> ((1 : Int32) &&& 31).toUInt32).toInt32) % ((2 : Int32) + (p4 &&& (1 : Int32))))).toNatClampNeg]? = some (.long q3) := (H36 ((((p4.toUInt32 >>> ((1 : Int32) &&& 31).toUInt32).toInt32) % ((2 : Int32) + (p4 &&& (1 : Int32))))).toNatClampNeg (Nat.lt_of_not_le fun w => hin36 (Or.inr w))).trans (congrArg some ((by rw [((own_k3 p4 hc19 hc23 hc29) : (((p4.toUInt32 >>> ((1 : Int32) &&& 31).toUInt32).toInt32) % ((2 : Int32) + (p4 &&& (1 : Int32)))) = (2 : Int32))]; rfl)))
        obtain ⟨cq37, kq37, q37a, q37b, q37c⟩ := isOf hZ e34 Ec20_a1
        obtain ⟨_, _, ⟨T37, L37, k37, n37⟩, -, X37, ⟨Lc37, hQ37, lz37, yz37, zz37⟩, st37⟩ := X34.virtualBack hx (y := (⟨"com/example/placecard/placecard/TableValues", "maxWithout", "(J)J"⟩ : MethodName)) (z := (⟨"com/example/placecard/placecard/TableValues", "maxWithout", "(J)J"⟩ : MethodName)) hown (mvT hZ (hw _ (List.mem_of_getElem? (i := 42) rfl))) (mvT hZ (hw _ (List.mem_of_getElem? (i := 43) rfl))) (notFace_of_selects (args := #[]) (mvT hZ (hw _ (List.mem_of_getElem? (i := 45) rfl)))) (mvT hZ (hw _ (List.mem_of_getElem? (i := 45) rfl))) (mvT hZ (hw _ (List.mem_of_getElem? (i := 44) rfl))) (by decide) (backOf (W := 0) (rm6 l Z a0 hw [] b9 q3 (ab0_16 q1 q2 q3 p4) (ab0_17 q1 q2 q3 p4) (ab0_18 q1 q2 q3 p4) (ab0_19 q1 q2 q3 p4) (ab0_20 q1 q2 q3 p4) (ab0_21 q1 q2 q3 p4) (ab0_22 q1 q2 q3 p4) (ab0_23 q1 q2 q3 p4) T20.heap n0 zs21 Ec20_a1 abFc20_a1_count abFc20_a1_sum abFc20_a1_max abFc20_a1_maxCount abFc20_a1_belowMax abFc20_a1_min abFc20_a1_minCount abFc20_a1_aboveMin) hZ (hw _ (List.mem_of_getElem? (i := 46) rfl)) (hw _ (List.mem_of_getElem? (i := 3) rfl)) (by decide) (by decide)) q37a q37c (g := (mkF m 142 #[.val (.long q1), .second, .val (.long q2), .second, .val (.long q3), .second, .val (.int p4), .val (.ref b1), .val (.int ((2 : Int32) + (p4 &&& (1 : Int32)))), .val (.int (((p4.toUInt32 >>> ((1 : Int32) &&& 31).toUInt32).toInt32) % ((2 : Int32) + (p4 &&& (1 : Int32))))), .val (.ref b9), .val (.long (f5 q1 q2)), .second] [(.long q3), (.ref b9)])) rfl (by rw [hml]; rfl) (Steps.refl _) (argsL := [(.long q3)]) (rest := []) (lenOf pd_0_3 rfl) rfl (by show 2 * 0 + _ ≤ _; exact Nat.le_of_eq rfl) (hb hby at_142) (fun _ _ => ⟨rfl, e34, (by decide : 2 + 0 ≤ _), (by decide : 11 + 0 ≤ _)⟩)
        dsimp only [Pt.U, Pt.locs, Pt.cells, Pt.slots] at X37 lz37 yz37 zz37 st37 hQ37
        subst lz37 yz37 zz37
        obtain ⟨rfl, N37q, e37⟩ := hQ37
        have N37 := Fr.app N34 N37q
        obtain ⟨fs, hr, hrun, hended, hW, hsame⟩ := X37.leave (v := some (.int (1 : Int32))) (fun h => by rw [Bd.returns] at h; cases h)
        refine ⟨_, _, pre28 _ ?_, hrun, hended, _, _, rfl, ?_, ⟨_, rfl⟩, hW, hsame.mono (by decide) (by decide)⟩
        · show Steps p.tables e below (T20.setTop (mkF m 114 #[.val (.long q1), .second, .val (.long q2), .second, .val (.long q3), .second, .val (.int p4), .val (.ref b1), .val (.int ((2 : Int32) + (p4 &&& (1 : Int32)))), .val (.int (((p4.toUInt32 >>> ((1 : Int32) &&& 31).toUInt32).toInt32) % ((2 : Int32) + (p4 &&& (1 : Int32))))), .val (.ref b9), .unset, .unset] [(.int (1 : Int32)), (.int (((p4.toUInt32 >>> ((1 : Int32) &&& 31).toUInt32).toInt32) % ((2 : Int32) + (p4 &&& (1 : Int32)))))])) _
          refine XS.icmpYes X20.here hx rfl (pc0 := 114) (pc' := 128) rfl (hb hby at_114) rfl (feq hc29).2 (by decide) (by decide) ?_
          show Steps p.tables e below (T20.setTop (mkF m 128 #[.val (.long q1), .second, .val (.long q2), .second, .val (.long q3), .second, .val (.int p4), .val (.ref b1), .val (.int ((2 : Int32) + (p4 &&& (1 : Int32)))), .val (.int (((p4.toUInt32 >>> ((1 : Int32) &&& 31).toUInt32).toInt32) % ((2 : Int32) + (p4 &&& (1 : Int32))))), .val (.ref b9), .unset, .unset] [])) _
          refine XS.lloadN X20.here hx rfl (hb hby at_128) rfl ?_
          show Steps p.tables e below (T20.setTop (mkF m 129 #[.val (.long q1), .second, .val (.long q2), .second, .val (.long q3), .second, .val (.int p4), .val (.ref b1), .val (.int ((2 : Int32) + (p4 &&& (1 : Int32)))), .val (.int (((p4.toUInt32 >>> ((1 : Int32) &&& 31).toUInt32).toInt32) % ((2 : Int32) + (p4 &&& (1 : Int32))))), .val (.ref b9), .unset, .unset] [(.long q1)])) _
          refine XS.lloadN X20.here hx rfl (hb hby at_129) rfl ?_
          show Steps p.tables e below (T20.setTop (mkF m 130 #[.val (.long q1), .second, .val (.long q2), .second, .val (.long q3), .second, .val (.int p4), .val (.ref b1), .val (.int ((2 : Int32) + (p4 &&& (1 : Int32)))), .val (.int (((p4.toUInt32 >>> ((1 : Int32) &&& 31).toUInt32).toInt32) % ((2 : Int32) + (p4 &&& (1 : Int32))))), .val (.ref b9), .unset, .unset] [(.long q2), (.long q1)])) _
          refine st34 _ ?_
          show Steps p.tables e below (T34.setTop (mkF m 133 #[.val (.long q1), .second, .val (.long q2), .second, .val (.long q3), .second, .val (.int p4), .val (.ref b1), .val (.int ((2 : Int32) + (p4 &&& (1 : Int32)))), .val (.int (((p4.toUInt32 >>> ((1 : Int32) &&& 31).toUInt32).toInt32) % ((2 : Int32) + (p4 &&& (1 : Int32))))), .val (.ref b9), .unset, .unset] [(.long (f5 q1 q2))])) _
          refine XS.lstore X34.here hx rfl (hb hby at_133) rfl (l' := #[.val (.long q1), .second, .val (.long q2), .second, .val (.long q3), .second, .val (.int p4), .val (.ref b1), .val (.int ((2 : Int32) + (p4 &&& (1 : Int32)))), .val (.int (((p4.toUInt32 >>> ((1 : Int32) &&& 31).toUInt32).toInt32) % ((2 : Int32) + (p4 &&& (1 : Int32))))), .val (.ref b9), .val (.long (f5 q1 q2)), .second]) rfl ?_
          show Steps p.tables e below (T34.setTop (mkF m 135 #[.val (.long q1), .second, .val (.long q2), .second, .val (.long q3), .second, .val (.int p4), .val (.ref b1), .val (.int ((2 : Int32) + (p4 &&& (1 : Int32)))), .val (.int (((p4.toUInt32 >>> ((1 : Int32) &&& 31).toUInt32).toInt32) % ((2 : Int32) + (p4 &&& (1 : Int32))))), .val (.ref b9), .val (.long (f5 q1 q2)), .second] [])) _
          refine XS.aload X34.here hx rfl (hb hby at_135) rfl rfl ?_
          show Steps p.tables e below (T34.setTop (mkF m 137 #[.val (.long q1), .second, .val (.long q2), .second, .val (.long q3), .second, .val (.int p4), .val (.ref b1), .val (.int ((2 : Int32) + (p4 &&& (1 : Int32)))), .val (.int (((p4.toUInt32 >>> ((1 : Int32) &&& 31).toUInt32).toInt32) % ((2 : Int32) + (p4 &&& (1 : Int32))))), .val (.ref b9), .val (.long (f5 q1 q2)), .second] [(.ref b9)])) _
          refine XS.aload X34.here hx rfl (hb hby at_137) rfl rfl ?_
          show Steps p.tables e below (T34.setTop (mkF m 139 #[.val (.long q1), .second, .val (.long q2), .second, .val (.long q3), .second, .val (.int p4), .val (.ref b1), .val (.int ((2 : Int32) + (p4 &&& (1 : Int32)))), .val (.int (((p4.toUInt32 >>> ((1 : Int32) &&& 31).toUInt32).toInt32) % ((2 : Int32) + (p4 &&& (1 : Int32))))), .val (.ref b9), .val (.long (f5 q1 q2)), .second] [(.ref b1), (.ref b9)])) _
          refine XS.iload X34.here hx rfl (hb hby at_139) rfl ?_
          show Steps p.tables e below (T34.setTop (mkF m 141 #[.val (.long q1), .second, .val (.long q2), .second, .val (.long q3), .second, .val (.int p4), .val (.ref b1), .val (.int ((2 : Int32) + (p4 &&& (1 : Int32)))), .val (.int (((p4.toUInt32 >>> ((1 : Int32) &&& 31).toUInt32).toInt32) % ((2 : Int32) + (p4 &&& (1 : Int32))))), .val (.ref b9), .val (.long (f5 q1 q2)), .second] [(.int (((p4.toUInt32 >>> ((1 : Int32) &&& 31).toUInt32).toInt32) % ((2 : Int32) + (p4 &&& (1 : Int32))))), (.ref b1), (.ref b9)])) _
          refine X34.laload hx (j := (((p4.toUInt32 >>> ((1 : Int32) &&& 31).toUInt32).toInt32) % ((2 : Int32) + (p4 &&& (1 : Int32))))) (v := (.long q3)) (by rw [e34]; exact Ar36.1) (State.isArrayOf_alike hZ.alike Ar36.2.1) Ar36.2.2 hin36 hat36 (g := (mkF m 141 #[.val (.long q1), .second, .val (.long q2), .second, .val (.long q3), .second, .val (.int p4), .val (.ref b1), .val (.int ((2 : Int32) + (p4 &&& (1 : Int32)))), .val (.int (((p4.toUInt32 >>> ((1 : Int32) &&& 31).toUInt32).toInt32) % ((2 : Int32) + (p4 &&& (1 : Int32))))), .val (.ref b9), .val (.long (f5 q1 q2)), .second] [(.int (((p4.toUInt32 >>> ((1 : Int32) &&& 31).toUInt32).toInt32) % ((2 : Int32) + (p4 &&& (1 : Int32))))), (.ref b1), (.ref b9)])) rfl rfl (hb hby at_141) _ ?_
          show Steps p.tables e below (T34.setTop (mkF m 142 #[.val (.long q1), .second, .val (.long q2), .second, .val (.long q3), .second, .val (.int p4), .val (.ref b1), .val (.int ((2 : Int32) + (p4 &&& (1 : Int32)))), .val (.int (((p4.toUInt32 >>> ((1 : Int32) &&& 31).toUInt32).toInt32) % ((2 : Int32) + (p4 &&& (1 : Int32))))), .val (.ref b9), .val (.long (f5 q1 q2)), .second] [(.long q3), (.ref b9)])) _
          refine st37.trans ?_
          show Steps p.tables e below (T37.setTop (mkF m 145 #[.val (.long q1), .second, .val (.long q2), .second, .val (.long q3), .second, .val (.int p4), .val (.ref b1), .val (.int ((2 : Int32) + (p4 &&& (1 : Int32)))), .val (.int (((p4.toUInt32 >>> ((1 : Int32) &&& 31).toUInt32).toInt32) % ((2 : Int32) + (p4 &&& (1 : Int32))))), .val (.ref b9), .val (.long (f5 q1 q2)), .second] [(.long (f6 q3 (ab0_16 q1 q2 q3 p4) (ab0_17 q1 q2 q3 p4) (ab0_18 q1 q2 q3 p4) (ab0_19 q1 q2 q3 p4) (ab0_20 q1 q2 q3 p4) (ab0_21 q1 q2 q3 p4) (ab0_22 q1 q2 q3 p4) (ab0_23 q1 q2 q3 p4)))])) _
          refine XS.lload X37.here hx rfl (hb hby at_145) rfl ?_
          show Steps p.tables e below (T37.setTop (mkF m 147 #[.val (.long q1), .second, .val (.long q2), .second, .val (.long q3), .second, .val (.int p4), .val (.ref b1), .val (.int ((2 : Int32) + (p4 &&& (1 : Int32)))), .val (.int (((p4.toUInt32 >>> ((1 : Int32) &&& 31).toUInt32).toInt32) % ((2 : Int32) + (p4 &&& (1 : Int32))))), .val (.ref b9), .val (.long (f5 q1 q2)), .second] [(.long (f5 q1 q2)), (.long (f6 q3 (ab0_16 q1 q2 q3 p4) (ab0_17 q1 q2 q3 p4) (ab0_18 q1 q2 q3 p4) (ab0_19 q1 q2 q3 p4) (ab0_20 q1 q2 q3 p4) (ab0_21 q1 q2 q3 p4) (ab0_22 q1 q2 q3 p4) (ab0_23 q1 q2 q3 p4)))])) _
          refine XS.lcmp X37.here hx rfl (hb hby at_147) rfl ?_
          show Steps p.tables e below (T37.setTop (mkF m 148 #[.val (.long q1), .second, .val (.long q2), .second, .val (.long q3), .second, .val (.int p4), .val (.ref b1), .val (.int ((2 : Int32) + (p4 &&& (1 : Int32)))), .val (.int (((p4.toUInt32 >>> ((1 : Int32) &&& 31).toUInt32).toInt32) % ((2 : Int32) + (p4 &&& (1 : Int32))))), .val (.ref b9), .val (.long (f5 q1 q2)), .second] [(.int (lcmpW (f6 q3 (ab0_16 q1 q2 q3 p4) (ab0_17 q1 q2 q3 p4) (ab0_18 q1 q2 q3 p4) (ab0_19 q1 q2 q3 p4) (ab0_20 q1 q2 q3 p4) (ab0_21 q1 q2 q3 p4) (ab0_22 q1 q2 q3 p4) (ab0_23 q1 q2 q3 p4)) (f5 q1 q2)))])) _
          refine XS.ifNo X37.here hx rfl (hb hby at_148) rfl ((if0 _ _).trans (teq ((lw_eq (f6 q3 (ab0_16 q1 q2 q3 p4) (ab0_17 q1 q2 q3 p4) (ab0_18 q1 q2 q3 p4) (ab0_19 q1 q2 q3 p4) (ab0_20 q1 q2 q3 p4) (ab0_21 q1 q2 q3 p4) (ab0_22 q1 q2 q3 p4) (ab0_23 q1 q2 q3 p4)) (f5 q1 q2)).mpr (own_fin2 q1 q2 q3 p4))).2) ?_
          show Steps p.tables e below (T37.setTop (mkF m 151 #[.val (.long q1), .second, .val (.long q2), .second, .val (.long q3), .second, .val (.int p4), .val (.ref b1), .val (.int ((2 : Int32) + (p4 &&& (1 : Int32)))), .val (.int (((p4.toUInt32 >>> ((1 : Int32) &&& 31).toUInt32).toInt32) % ((2 : Int32) + (p4 &&& (1 : Int32))))), .val (.ref b9), .val (.long (f5 q1 q2)), .second] [])) _
          refine XS.iconst X37.here hx rfl (hb hby at_151) ?_
          show Steps p.tables e below (T37.setTop (mkF m 152 #[.val (.long q1), .second, .val (.long q2), .second, .val (.long q3), .second, .val (.int p4), .val (.ref b1), .val (.int ((2 : Int32) + (p4 &&& (1 : Int32)))), .val (.int (((p4.toUInt32 >>> ((1 : Int32) &&& 31).toUInt32).toInt32) % ((2 : Int32) + (p4 &&& (1 : Int32))))), .val (.ref b9), .val (.long (f5 q1 q2)), .second] [(.int (1 : Int32))])) _
          refine XS.goto X37.here hx rfl (pc0 := 152) (pc' := 156) rfl (hb hby at_152) (by decide) (by decide) ?_
          show Steps p.tables e below (T37.setTop (mkF m 156 #[.val (.long q1), .second, .val (.long q2), .second, .val (.long q3), .second, .val (.int p4), .val (.ref b1), .val (.int ((2 : Int32) + (p4 &&& (1 : Int32)))), .val (.int (((p4.toUInt32 >>> ((1 : Int32) &&& 31).toUInt32).toInt32) % ((2 : Int32) + (p4 &&& (1 : Int32))))), .val (.ref b9), .val (.long (f5 q1 q2)), .second] [(.int (1 : Int32))])) _
          exact retN X37 hx (t := .boolean) Bd.returns (by simp) (hb hby at_156) hr
        · show Q0 Z q1 q2 q3 p4 h0 n0 _ T37.heap _
          rw [e37]
          exact ⟨by rw [f0, if_pos hc19, if_neg hc23, if_neg hc29], N37⟩
  · have pre38 : ∀ t, Steps p.tables e below (T16.setTop (mkF m 82 #[.val (.long q1), .second, .val (.long q2), .second, .val (.long q3), .second, .val (.int p4), .val (.ref b1), .val (.int ((2 : Int32) + (p4 &&& (1 : Int32)))), .val (.int (((p4.toUInt32 >>> ((1 : Int32) &&& 31).toUInt32).toInt32) % ((2 : Int32) + (p4 &&& (1 : Int32))))), .val (.ref b9), .unset, .unset] [(.int (((p4.toUInt32 >>> ((1 : Int32) &&& 31).toUInt32).toInt32) % ((2 : Int32) + (p4 &&& (1 : Int32)))))])) t → Steps p.tables e below (s₁.setTop (entryFrame m #[(.long q1), (.long q2), (.long q3), (.int p4)] maxLocals)) t := fun t kt => by
      refine pre18 _ ?_
      show Steps p.tables e below (T16.setTop (mkF m 64 #[.val (.long q1), .second, .val (.long q2), .second, .val (.long q3), .second, .val (.int p4), .val (.ref b1), .val (.int ((2 : Int32) + (p4 &&& (1 : Int32)))), .val (.int (((p4.toUInt32 >>> ((1 : Int32) &&& 31).toUInt32).toInt32) % ((2 : Int32) + (p4 &&& (1 : Int32))))), .val (.ref b9), .unset, .unset] [(.int (3 : Int32)), (.int ((2 : Int32) + (p4 &&& (1 : Int32))))])) _
      refine XS.icmpYes X16.here hx rfl (pc0 := 64) (pc' := 74) rfl (hb hby at_64) rfl (feq hc19).2 (by decide) (by decide) ?_
      show Steps p.tables e below (T16.setTop (mkF m 74 #[.val (.long q1), .second, .val (.long q2), .second, .val (.long q3), .second, .val (.int p4), .val (.ref b1), .val (.int ((2 : Int32) + (p4 &&& (1 : Int32)))), .val (.int (((p4.toUInt32 >>> ((1 : Int32) &&& 31).toUInt32).toInt32) % ((2 : Int32) + (p4 &&& (1 : Int32))))), .val (.ref b9), .unset, .unset] [])) _
      refine XS.iload X16.here hx rfl (hb hby at_74) rfl ?_
      show Steps p.tables e below (T16.setTop (mkF m 76 #[.val (.long q1), .second, .val (.long q2), .second, .val (.long q3), .second, .val (.int p4), .val (.ref b1), .val (.int ((2 : Int32) + (p4 &&& (1 : Int32)))), .val (.int (((p4.toUInt32 >>> ((1 : Int32) &&& 31).toUInt32).toInt32) % ((2 : Int32) + (p4 &&& (1 : Int32))))), .val (.ref b9), .unset, .unset] [(.int ((2 : Int32) + (p4 &&& (1 : Int32))))])) _
      refine XS.iconst X16.here hx rfl (hb hby at_76) ?_
      show Steps p.tables e below (T16.setTop (mkF m 77 #[.val (.long q1), .second, .val (.long q2), .second, .val (.long q3), .second, .val (.int p4), .val (.ref b1), .val (.int ((2 : Int32) + (p4 &&& (1 : Int32)))), .val (.int (((p4.toUInt32 >>> ((1 : Int32) &&& 31).toUInt32).toInt32) % ((2 : Int32) + (p4 &&& (1 : Int32))))), .val (.ref b9), .unset, .unset] [(.int (2 : Int32)), (.int ((2 : Int32) + (p4 &&& (1 : Int32))))])) _
      refine XS.icmpNo X16.here hx rfl (hb hby at_77) rfl (teq (own_n2 p4 hc19)).2 ?_
      show Steps p.tables e below (T16.setTop (mkF m 80 #[.val (.long q1), .second, .val (.long q2), .second, .val (.long q3), .second, .val (.int p4), .val (.ref b1), .val (.int ((2 : Int32) + (p4 &&& (1 : Int32)))), .val (.int (((p4.toUInt32 >>> ((1 : Int32) &&& 31).toUInt32).toInt32) % ((2 : Int32) + (p4 &&& (1 : Int32))))), .val (.ref b9), .unset, .unset] [])) _
      refine XS.iload X16.here hx rfl (hb hby at_80) rfl ?_
      exact kt
    by_cases hc39 : (((p4.toUInt32 >>> ((1 : Int32) &&& 31).toUInt32).toInt32) % ((2 : Int32) + (p4 &&& (1 : Int32)))) = (0 : Int32)
    · have fa40 : Arv Z T16.heap b1 k1 .long (3 : Int32) [(.long q1), (.long q2), (.long q3)] (.long (0 : Int64)) := ((((V7.ext E9).keep K12 (ninS ne_b1_b9 nin0)).keep K14 (ninS ne_b1_b9 nin0)).keep K16 (ninS ne_b1_b9 nin0))
      obtain ⟨cl41, Ar41, qq41, S41, N41_, H41, G41⟩ := id fa40
      have hin41 : ¬ ((((p4.toUInt32 >>> ((1 : Int32) &&& 31).toUInt32).toInt32) % ((2 : Int32) + (p4 &&& (1 : Int32)))) < 0 ∨ cl41.slots.size ≤ ((((p4.toUInt32 >>> ((1 : Int32) &&& 31).toUInt32).toInt32) % ((2 : Int32) + (p4 &&& (1 : Int32))))).toNatClampNeg) := inb_of S41 (by rw [(hc39 : (((p4.toUInt32 >>> ((1 : Int32) &&& 31).toUInt32).toInt32) % ((2 : Int32) + (p4 &&& (1 : Int32)))) = (0 : Int32))]; exact ⟨by decide, by decide⟩)
      have hat41 : cl41.slots[((((p4.toUInt32 >>> ((1 : Int32) &&& 31).toUInt32).toInt32) % ((2 : Int32) + (p4 &&& (1 : Int32))))).toNatClampNeg]? = some (.long q1) := (H41 ((((p4.toUInt32 >>> ((1 : Int32) &&& 31).toUInt32).toInt32) % ((2 : Int32) + (p4 &&& (1 : Int32))))).toNatClampNeg (Nat.lt_of_not_le fun w => hin41 (Or.inr w))).trans (congrArg some ((by rw [(hc39 : (((p4.toUInt32 >>> ((1 : Int32) &&& 31).toUInt32).toInt32) % ((2 : Int32) + (p4 &&& (1 : Int32)))) = (0 : Int32))]; rfl)))
      obtain ⟨cq42, kq42, q42a, q42b, q42c⟩ := isOf hZ rfl Ec16_a1
      obtain ⟨_, _, ⟨T42, L42, k42, n42⟩, -, X42, ⟨Lc42, hQ42, lz42, yz42, zz42⟩, st42⟩ := X16.virtualBack hx (y := (⟨"com/example/placecard/placecard/TableValues", "maxWithout", "(J)J"⟩ : MethodName)) (z := (⟨"com/example/placecard/placecard/TableValues", "maxWithout", "(J)J"⟩ : MethodName)) hown (mvT hZ (hw _ (List.mem_of_getElem? (i := 42) rfl))) (mvT hZ (hw _ (List.mem_of_getElem? (i := 43) rfl))) (notFace_of_selects (args := #[]) (mvT hZ (hw _ (List.mem_of_getElem? (i := 45) rfl)))) (mvT hZ (hw _ (List.mem_of_getElem? (i := 45) rfl))) (mvT hZ (hw _ (List.mem_of_getElem? (i := 44) rfl))) (by decide) (backOf (W := 0) (rm6 l Z a0 hw [] b9 q1 (ab0_8 q1 q2 q3 p4) (ab0_9 q1 q2 q3 p4) (ab0_10 q1 q2 q3 p4) (ab0_11 q1 q2 q3 p4) (ab0_12 q1 q2 q3 p4) (ab0_13 q1 q2 q3 p4) (ab0_14 q1 q2 q3 p4) (ab0_15 q1 q2 q3 p4) T16.heap n0 zs17 Ec16_a1 abFc16_a1_count abFc16_a1_sum abFc16_a1_max abFc16_a1_maxCount abFc16_a1_belowMax abFc16_a1_min abFc16_a1_minCount abFc16_a1_aboveMin) hZ (hw _ (List.mem_of_getElem? (i := 46) rfl)) (hw _ (List.mem_of_getElem? (i := 3) rfl)) (by decide) (by decide)) q42a q42c (g := (mkF m 142 #[.val (.long q1), .second, .val (.long q2), .second, .val (.long q3), .second, .val (.int p4), .val (.ref b1), .val (.int ((2 : Int32) + (p4 &&& (1 : Int32)))), .val (.int (((p4.toUInt32 >>> ((1 : Int32) &&& 31).toUInt32).toInt32) % ((2 : Int32) + (p4 &&& (1 : Int32))))), .val (.ref b9), .val (.long q2), .second] [(.long q1), (.ref b9)])) rfl (by rw [hml]; rfl) (Steps.refl _) (argsL := [(.long q1)]) (rest := []) (lenOf pd_0_3 rfl) rfl (by show 2 * 0 + _ ≤ _; exact Nat.le_of_eq rfl) (hb hby at_142) (fun _ _ => ⟨rfl, rfl, (by decide : 2 + 0 ≤ _), (by decide : 11 + 0 ≤ _)⟩)
      dsimp only [Pt.U, Pt.locs, Pt.cells, Pt.slots] at X42 lz42 yz42 zz42 st42 hQ42
      subst lz42 yz42 zz42
      obtain ⟨rfl, N42q, e42⟩ := hQ42
      have N42 := Fr.app N16 N42q
      obtain ⟨fs, hr, hrun, hended, hW, hsame⟩ := X42.leave (v := some (.int (1 : Int32))) (fun h => by rw [Bd.returns] at h; cases h)
      refine ⟨_, _, pre38 _ ?_, hrun, hended, _, _, rfl, ?_, ⟨_, rfl⟩, hW, hsame.mono (by decide) (by decide)⟩
      · show Steps p.tables e below (T16.setTop (mkF m 82 #[.val (.long q1), .second, .val (.long q2), .second, .val (.long q3), .second, .val (.int p4), .val (.ref b1), .val (.int ((2 : Int32) + (p4 &&& (1 : Int32)))), .val (.int (((p4.toUInt32 >>> ((1 : Int32) &&& 31).toUInt32).toInt32) % ((2 : Int32) + (p4 &&& (1 : Int32))))), .val (.ref b9), .unset, .unset] [(.int (((p4.toUInt32 >>> ((1 : Int32) &&& 31).toUInt32).toInt32) % ((2 : Int32) + (p4 &&& (1 : Int32)))))])) _
        refine XS.ifNo X16.here hx rfl (hb hby at_82) rfl ((if0 _ _).trans (teq hc39).2) ?_
        show Steps p.tables e below (T16.setTop (mkF m 85 #[.val (.long q1), .second, .val (.long q2), .second, .val (.long q3), .second, .val (.int p4), .val (.ref b1), .val (.int ((2 : Int32) + (p4 &&& (1 : Int32)))), .val (.int (((p4.toUInt32 >>> ((1 : Int32) &&& 31).toUInt32).toInt32) % ((2 : Int32) + (p4 &&& (1 : Int32))))), .val (.ref b9), .unset, .unset] [])) _
        refine XS.lloadN X16.here hx rfl (hb hby at_85) rfl ?_
        show Steps p.tables e below (T16.setTop (mkF m 86 #[.val (.long q1), .second, .val (.long q2), .second, .val (.long q3), .second, .val (.int p4), .val (.ref b1), .val (.int ((2 : Int32) + (p4 &&& (1 : Int32)))), .val (.int (((p4.toUInt32 >>> ((1 : Int32) &&& 31).toUInt32).toInt32) % ((2 : Int32) + (p4 &&& (1 : Int32))))), .val (.ref b9), .unset, .unset] [(.long q2)])) _
        refine XS.goto X16.here hx rfl (pc0 := 86) (pc' := 90) rfl (hb hby at_86) (by decide) (by decide) ?_
        show Steps p.tables e below (T16.setTop (mkF m 90 #[.val (.long q1), .second, .val (.long q2), .second, .val (.long q3), .second, .val (.int p4), .val (.ref b1), .val (.int ((2 : Int32) + (p4 &&& (1 : Int32)))), .val (.int (((p4.toUInt32 >>> ((1 : Int32) &&& 31).toUInt32).toInt32) % ((2 : Int32) + (p4 &&& (1 : Int32))))), .val (.ref b9), .unset, .unset] [(.long q2)])) _
        refine XS.lstore X16.here hx rfl (hb hby at_90) rfl (l' := #[.val (.long q1), .second, .val (.long q2), .second, .val (.long q3), .second, .val (.int p4), .val (.ref b1), .val (.int ((2 : Int32) + (p4 &&& (1 : Int32)))), .val (.int (((p4.toUInt32 >>> ((1 : Int32) &&& 31).toUInt32).toInt32) % ((2 : Int32) + (p4 &&& (1 : Int32))))), .val (.ref b9), .val (.long q2), .second]) rfl ?_
        show Steps p.tables e below (T16.setTop (mkF m 92 #[.val (.long q1), .second, .val (.long q2), .second, .val (.long q3), .second, .val (.int p4), .val (.ref b1), .val (.int ((2 : Int32) + (p4 &&& (1 : Int32)))), .val (.int (((p4.toUInt32 >>> ((1 : Int32) &&& 31).toUInt32).toInt32) % ((2 : Int32) + (p4 &&& (1 : Int32))))), .val (.ref b9), .val (.long q2), .second] [])) _
        refine XS.goto X16.here hx rfl (pc0 := 92) (pc' := 135) rfl (hb hby at_92) (by decide) (by decide) ?_
        show Steps p.tables e below (T16.setTop (mkF m 135 #[.val (.long q1), .second, .val (.long q2), .second, .val (.long q3), .second, .val (.int p4), .val (.ref b1), .val (.int ((2 : Int32) + (p4 &&& (1 : Int32)))), .val (.int (((p4.toUInt32 >>> ((1 : Int32) &&& 31).toUInt32).toInt32) % ((2 : Int32) + (p4 &&& (1 : Int32))))), .val (.ref b9), .val (.long q2), .second] [])) _
        refine XS.aload X16.here hx rfl (hb hby at_135) rfl rfl ?_
        show Steps p.tables e below (T16.setTop (mkF m 137 #[.val (.long q1), .second, .val (.long q2), .second, .val (.long q3), .second, .val (.int p4), .val (.ref b1), .val (.int ((2 : Int32) + (p4 &&& (1 : Int32)))), .val (.int (((p4.toUInt32 >>> ((1 : Int32) &&& 31).toUInt32).toInt32) % ((2 : Int32) + (p4 &&& (1 : Int32))))), .val (.ref b9), .val (.long q2), .second] [(.ref b9)])) _
        refine XS.aload X16.here hx rfl (hb hby at_137) rfl rfl ?_
        show Steps p.tables e below (T16.setTop (mkF m 139 #[.val (.long q1), .second, .val (.long q2), .second, .val (.long q3), .second, .val (.int p4), .val (.ref b1), .val (.int ((2 : Int32) + (p4 &&& (1 : Int32)))), .val (.int (((p4.toUInt32 >>> ((1 : Int32) &&& 31).toUInt32).toInt32) % ((2 : Int32) + (p4 &&& (1 : Int32))))), .val (.ref b9), .val (.long q2), .second] [(.ref b1), (.ref b9)])) _
        refine XS.iload X16.here hx rfl (hb hby at_139) rfl ?_
        show Steps p.tables e below (T16.setTop (mkF m 141 #[.val (.long q1), .second, .val (.long q2), .second, .val (.long q3), .second, .val (.int p4), .val (.ref b1), .val (.int ((2 : Int32) + (p4 &&& (1 : Int32)))), .val (.int (((p4.toUInt32 >>> ((1 : Int32) &&& 31).toUInt32).toInt32) % ((2 : Int32) + (p4 &&& (1 : Int32))))), .val (.ref b9), .val (.long q2), .second] [(.int (((p4.toUInt32 >>> ((1 : Int32) &&& 31).toUInt32).toInt32) % ((2 : Int32) + (p4 &&& (1 : Int32))))), (.ref b1), (.ref b9)])) _
        refine X16.laload hx (j := (((p4.toUInt32 >>> ((1 : Int32) &&& 31).toUInt32).toInt32) % ((2 : Int32) + (p4 &&& (1 : Int32))))) (v := (.long q1)) Ar41.1 (State.isArrayOf_alike hZ.alike Ar41.2.1) Ar41.2.2 hin41 hat41 (g := (mkF m 141 #[.val (.long q1), .second, .val (.long q2), .second, .val (.long q3), .second, .val (.int p4), .val (.ref b1), .val (.int ((2 : Int32) + (p4 &&& (1 : Int32)))), .val (.int (((p4.toUInt32 >>> ((1 : Int32) &&& 31).toUInt32).toInt32) % ((2 : Int32) + (p4 &&& (1 : Int32))))), .val (.ref b9), .val (.long q2), .second] [(.int (((p4.toUInt32 >>> ((1 : Int32) &&& 31).toUInt32).toInt32) % ((2 : Int32) + (p4 &&& (1 : Int32))))), (.ref b1), (.ref b9)])) rfl rfl (hb hby at_141) _ ?_
        show Steps p.tables e below (T16.setTop (mkF m 142 #[.val (.long q1), .second, .val (.long q2), .second, .val (.long q3), .second, .val (.int p4), .val (.ref b1), .val (.int ((2 : Int32) + (p4 &&& (1 : Int32)))), .val (.int (((p4.toUInt32 >>> ((1 : Int32) &&& 31).toUInt32).toInt32) % ((2 : Int32) + (p4 &&& (1 : Int32))))), .val (.ref b9), .val (.long q2), .second] [(.long q1), (.ref b9)])) _
        refine st42.trans ?_
        show Steps p.tables e below (T42.setTop (mkF m 145 #[.val (.long q1), .second, .val (.long q2), .second, .val (.long q3), .second, .val (.int p4), .val (.ref b1), .val (.int ((2 : Int32) + (p4 &&& (1 : Int32)))), .val (.int (((p4.toUInt32 >>> ((1 : Int32) &&& 31).toUInt32).toInt32) % ((2 : Int32) + (p4 &&& (1 : Int32))))), .val (.ref b9), .val (.long q2), .second] [(.long (f6 q1 (ab0_8 q1 q2 q3 p4) (ab0_9 q1 q2 q3 p4) (ab0_10 q1 q2 q3 p4) (ab0_11 q1 q2 q3 p4) (ab0_12 q1 q2 q3 p4) (ab0_13 q1 q2 q3 p4) (ab0_14 q1 q2 q3 p4) (ab0_15 q1 q2 q3 p4)))])) _
        refine XS.lload X42.here hx rfl (hb hby at_145) rfl ?_
        show Steps p.tables e below (T42.setTop (mkF m 147 #[.val (.long q1), .second, .val (.long q2), .second, .val (.long q3), .second, .val (.int p4), .val (.ref b1), .val (.int ((2 : Int32) + (p4 &&& (1 : Int32)))), .val (.int (((p4.toUInt32 >>> ((1 : Int32) &&& 31).toUInt32).toInt32) % ((2 : Int32) + (p4 &&& (1 : Int32))))), .val (.ref b9), .val (.long q2), .second] [(.long q2), (.long (f6 q1 (ab0_8 q1 q2 q3 p4) (ab0_9 q1 q2 q3 p4) (ab0_10 q1 q2 q3 p4) (ab0_11 q1 q2 q3 p4) (ab0_12 q1 q2 q3 p4) (ab0_13 q1 q2 q3 p4) (ab0_14 q1 q2 q3 p4) (ab0_15 q1 q2 q3 p4)))])) _
        refine XS.lcmp X42.here hx rfl (hb hby at_147) rfl ?_
        show Steps p.tables e below (T42.setTop (mkF m 148 #[.val (.long q1), .second, .val (.long q2), .second, .val (.long q3), .second, .val (.int p4), .val (.ref b1), .val (.int ((2 : Int32) + (p4 &&& (1 : Int32)))), .val (.int (((p4.toUInt32 >>> ((1 : Int32) &&& 31).toUInt32).toInt32) % ((2 : Int32) + (p4 &&& (1 : Int32))))), .val (.ref b9), .val (.long q2), .second] [(.int (lcmpW (f6 q1 (ab0_8 q1 q2 q3 p4) (ab0_9 q1 q2 q3 p4) (ab0_10 q1 q2 q3 p4) (ab0_11 q1 q2 q3 p4) (ab0_12 q1 q2 q3 p4) (ab0_13 q1 q2 q3 p4) (ab0_14 q1 q2 q3 p4) (ab0_15 q1 q2 q3 p4)) q2))])) _
        refine XS.ifNo X42.here hx rfl (hb hby at_148) rfl ((if0 _ _).trans (teq ((lw_eq (f6 q1 (ab0_8 q1 q2 q3 p4) (ab0_9 q1 q2 q3 p4) (ab0_10 q1 q2 q3 p4) (ab0_11 q1 q2 q3 p4) (ab0_12 q1 q2 q3 p4) (ab0_13 q1 q2 q3 p4) (ab0_14 q1 q2 q3 p4) (ab0_15 q1 q2 q3 p4)) q2).mpr (own_fin3 q1 q2 q3 p4))).2) ?_
        show Steps p.tables e below (T42.setTop (mkF m 151 #[.val (.long q1), .second, .val (.long q2), .second, .val (.long q3), .second, .val (.int p4), .val (.ref b1), .val (.int ((2 : Int32) + (p4 &&& (1 : Int32)))), .val (.int (((p4.toUInt32 >>> ((1 : Int32) &&& 31).toUInt32).toInt32) % ((2 : Int32) + (p4 &&& (1 : Int32))))), .val (.ref b9), .val (.long q2), .second] [])) _
        refine XS.iconst X42.here hx rfl (hb hby at_151) ?_
        show Steps p.tables e below (T42.setTop (mkF m 152 #[.val (.long q1), .second, .val (.long q2), .second, .val (.long q3), .second, .val (.int p4), .val (.ref b1), .val (.int ((2 : Int32) + (p4 &&& (1 : Int32)))), .val (.int (((p4.toUInt32 >>> ((1 : Int32) &&& 31).toUInt32).toInt32) % ((2 : Int32) + (p4 &&& (1 : Int32))))), .val (.ref b9), .val (.long q2), .second] [(.int (1 : Int32))])) _
        refine XS.goto X42.here hx rfl (pc0 := 152) (pc' := 156) rfl (hb hby at_152) (by decide) (by decide) ?_
        show Steps p.tables e below (T42.setTop (mkF m 156 #[.val (.long q1), .second, .val (.long q2), .second, .val (.long q3), .second, .val (.int p4), .val (.ref b1), .val (.int ((2 : Int32) + (p4 &&& (1 : Int32)))), .val (.int (((p4.toUInt32 >>> ((1 : Int32) &&& 31).toUInt32).toInt32) % ((2 : Int32) + (p4 &&& (1 : Int32))))), .val (.ref b9), .val (.long q2), .second] [(.int (1 : Int32))])) _
        exact retN X42 hx (t := .boolean) Bd.returns (by simp) (hb hby at_156) hr
      · show Q0 Z q1 q2 q3 p4 h0 n0 _ T42.heap _
        rw [e42]
        exact ⟨by rw [f0, if_neg hc19, if_pos hc39], N42⟩
    · have fa43 : Arv Z T16.heap b1 k1 .long (3 : Int32) [(.long q1), (.long q2), (.long q3)] (.long (0 : Int64)) := ((((V7.ext E9).keep K12 (ninS ne_b1_b9 nin0)).keep K14 (ninS ne_b1_b9 nin0)).keep K16 (ninS ne_b1_b9 nin0))
      obtain ⟨cl44, Ar44, qq44, S44, N44_, H44, G44⟩ := id fa43
      have hin44 : ¬ ((((p4.toUInt32 >>> ((1 : Int32) &&& 31).toUInt32).toInt32) % ((2 : Int32) + (p4 &&& (1 : Int32)))) < 0 ∨ cl44.slots.size ≤ ((((p4.toUInt32 >>> ((1 : Int32) &&& 31).toUInt32).toInt32) % ((2 : Int32) + (p4 &&& (1 : Int32))))).toNatClampNeg) := inb_of S44 (by rw [((own_k2 p4 (own_n2 p4 hc19) hc39) : (((p4.toUInt32 >>> ((1 : Int32) &&& 31).toUInt32).toInt32) % ((2 : Int32) + (p4 &&& (1 : Int32)))) = (1 : Int32))]; exact ⟨by decide, by decide⟩)
      have hat44 : cl44.slots[((((p4.toUInt32 >>> ((1 : Int32) &&& 31).toUInt32).toInt32) % ((2 : Int32) + (p4 &&& (1 : Int32))))).toNatClampNeg]? = some (.long q2) := (H44 ((((p4.toUInt32 >>> ((1 : Int32) &&& 31).toUInt32).toInt32) % ((2 : Int32) + (p4 &&& (1 : Int32))))).toNatClampNeg (Nat.lt_of_not_le fun w => hin44 (Or.inr w))).trans (congrArg some ((by rw [((own_k2 p4 (own_n2 p4 hc19) hc39) : (((p4.toUInt32 >>> ((1 : Int32) &&& 31).toUInt32).toInt32) % ((2 : Int32) + (p4 &&& (1 : Int32)))) = (1 : Int32))]; rfl)))
      obtain ⟨cq45, kq45, q45a, q45b, q45c⟩ := isOf hZ rfl Ec16_a1
      obtain ⟨_, _, ⟨T45, L45, k45, n45⟩, -, X45, ⟨Lc45, hQ45, lz45, yz45, zz45⟩, st45⟩ := X16.virtualBack hx (y := (⟨"com/example/placecard/placecard/TableValues", "maxWithout", "(J)J"⟩ : MethodName)) (z := (⟨"com/example/placecard/placecard/TableValues", "maxWithout", "(J)J"⟩ : MethodName)) hown (mvT hZ (hw _ (List.mem_of_getElem? (i := 42) rfl))) (mvT hZ (hw _ (List.mem_of_getElem? (i := 43) rfl))) (notFace_of_selects (args := #[]) (mvT hZ (hw _ (List.mem_of_getElem? (i := 45) rfl)))) (mvT hZ (hw _ (List.mem_of_getElem? (i := 45) rfl))) (mvT hZ (hw _ (List.mem_of_getElem? (i := 44) rfl))) (by decide) (backOf (W := 0) (rm6 l Z a0 hw [] b9 q2 (ab0_8 q1 q2 q3 p4) (ab0_9 q1 q2 q3 p4) (ab0_10 q1 q2 q3 p4) (ab0_11 q1 q2 q3 p4) (ab0_12 q1 q2 q3 p4) (ab0_13 q1 q2 q3 p4) (ab0_14 q1 q2 q3 p4) (ab0_15 q1 q2 q3 p4) T16.heap n0 zs17 Ec16_a1 abFc16_a1_count abFc16_a1_sum abFc16_a1_max abFc16_a1_maxCount abFc16_a1_belowMax abFc16_a1_min abFc16_a1_minCount abFc16_a1_aboveMin) hZ (hw _ (List.mem_of_getElem? (i := 46) rfl)) (hw _ (List.mem_of_getElem? (i := 3) rfl)) (by decide) (by decide)) q45a q45c (g := (mkF m 142 #[.val (.long q1), .second, .val (.long q2), .second, .val (.long q3), .second, .val (.int p4), .val (.ref b1), .val (.int ((2 : Int32) + (p4 &&& (1 : Int32)))), .val (.int (((p4.toUInt32 >>> ((1 : Int32) &&& 31).toUInt32).toInt32) % ((2 : Int32) + (p4 &&& (1 : Int32))))), .val (.ref b9), .val (.long q1), .second] [(.long q2), (.ref b9)])) rfl (by rw [hml]; rfl) (Steps.refl _) (argsL := [(.long q2)]) (rest := []) (lenOf pd_0_3 rfl) rfl (by show 2 * 0 + _ ≤ _; exact Nat.le_of_eq rfl) (hb hby at_142) (fun _ _ => ⟨rfl, rfl, (by decide : 2 + 0 ≤ _), (by decide : 11 + 0 ≤ _)⟩)
      dsimp only [Pt.U, Pt.locs, Pt.cells, Pt.slots] at X45 lz45 yz45 zz45 st45 hQ45
      subst lz45 yz45 zz45
      obtain ⟨rfl, N45q, e45⟩ := hQ45
      have N45 := Fr.app N16 N45q
      obtain ⟨fs, hr, hrun, hended, hW, hsame⟩ := X45.leave (v := some (.int (1 : Int32))) (fun h => by rw [Bd.returns] at h; cases h)
      refine ⟨_, _, pre38 _ ?_, hrun, hended, _, _, rfl, ?_, ⟨_, rfl⟩, hW, hsame.mono (by decide) (by decide)⟩
      · show Steps p.tables e below (T16.setTop (mkF m 82 #[.val (.long q1), .second, .val (.long q2), .second, .val (.long q3), .second, .val (.int p4), .val (.ref b1), .val (.int ((2 : Int32) + (p4 &&& (1 : Int32)))), .val (.int (((p4.toUInt32 >>> ((1 : Int32) &&& 31).toUInt32).toInt32) % ((2 : Int32) + (p4 &&& (1 : Int32))))), .val (.ref b9), .unset, .unset] [(.int (((p4.toUInt32 >>> ((1 : Int32) &&& 31).toUInt32).toInt32) % ((2 : Int32) + (p4 &&& (1 : Int32)))))])) _
        refine XS.ifYes X16.here hx rfl (pc0 := 82) (pc' := 89) rfl (hb hby at_82) rfl ((if0 _ _).trans (feq hc39).2) (by decide) (by decide) ?_
        show Steps p.tables e below (T16.setTop (mkF m 89 #[.val (.long q1), .second, .val (.long q2), .second, .val (.long q3), .second, .val (.int p4), .val (.ref b1), .val (.int ((2 : Int32) + (p4 &&& (1 : Int32)))), .val (.int (((p4.toUInt32 >>> ((1 : Int32) &&& 31).toUInt32).toInt32) % ((2 : Int32) + (p4 &&& (1 : Int32))))), .val (.ref b9), .unset, .unset] [])) _
        refine XS.lloadN X16.here hx rfl (hb hby at_89) rfl ?_
        show Steps p.tables e below (T16.setTop (mkF m 90 #[.val (.long q1), .second, .val (.long q2), .second, .val (.long q3), .second, .val (.int p4), .val (.ref b1), .val (.int ((2 : Int32) + (p4 &&& (1 : Int32)))), .val (.int (((p4.toUInt32 >>> ((1 : Int32) &&& 31).toUInt32).toInt32) % ((2 : Int32) + (p4 &&& (1 : Int32))))), .val (.ref b9), .unset, .unset] [(.long q1)])) _
        refine XS.lstore X16.here hx rfl (hb hby at_90) rfl (l' := #[.val (.long q1), .second, .val (.long q2), .second, .val (.long q3), .second, .val (.int p4), .val (.ref b1), .val (.int ((2 : Int32) + (p4 &&& (1 : Int32)))), .val (.int (((p4.toUInt32 >>> ((1 : Int32) &&& 31).toUInt32).toInt32) % ((2 : Int32) + (p4 &&& (1 : Int32))))), .val (.ref b9), .val (.long q1), .second]) rfl ?_
        show Steps p.tables e below (T16.setTop (mkF m 92 #[.val (.long q1), .second, .val (.long q2), .second, .val (.long q3), .second, .val (.int p4), .val (.ref b1), .val (.int ((2 : Int32) + (p4 &&& (1 : Int32)))), .val (.int (((p4.toUInt32 >>> ((1 : Int32) &&& 31).toUInt32).toInt32) % ((2 : Int32) + (p4 &&& (1 : Int32))))), .val (.ref b9), .val (.long q1), .second] [])) _
        refine XS.goto X16.here hx rfl (pc0 := 92) (pc' := 135) rfl (hb hby at_92) (by decide) (by decide) ?_
        show Steps p.tables e below (T16.setTop (mkF m 135 #[.val (.long q1), .second, .val (.long q2), .second, .val (.long q3), .second, .val (.int p4), .val (.ref b1), .val (.int ((2 : Int32) + (p4 &&& (1 : Int32)))), .val (.int (((p4.toUInt32 >>> ((1 : Int32) &&& 31).toUInt32).toInt32) % ((2 : Int32) + (p4 &&& (1 : Int32))))), .val (.ref b9), .val (.long q1), .second] [])) _
        refine XS.aload X16.here hx rfl (hb hby at_135) rfl rfl ?_
        show Steps p.tables e below (T16.setTop (mkF m 137 #[.val (.long q1), .second, .val (.long q2), .second, .val (.long q3), .second, .val (.int p4), .val (.ref b1), .val (.int ((2 : Int32) + (p4 &&& (1 : Int32)))), .val (.int (((p4.toUInt32 >>> ((1 : Int32) &&& 31).toUInt32).toInt32) % ((2 : Int32) + (p4 &&& (1 : Int32))))), .val (.ref b9), .val (.long q1), .second] [(.ref b9)])) _
        refine XS.aload X16.here hx rfl (hb hby at_137) rfl rfl ?_
        show Steps p.tables e below (T16.setTop (mkF m 139 #[.val (.long q1), .second, .val (.long q2), .second, .val (.long q3), .second, .val (.int p4), .val (.ref b1), .val (.int ((2 : Int32) + (p4 &&& (1 : Int32)))), .val (.int (((p4.toUInt32 >>> ((1 : Int32) &&& 31).toUInt32).toInt32) % ((2 : Int32) + (p4 &&& (1 : Int32))))), .val (.ref b9), .val (.long q1), .second] [(.ref b1), (.ref b9)])) _
        refine XS.iload X16.here hx rfl (hb hby at_139) rfl ?_
        show Steps p.tables e below (T16.setTop (mkF m 141 #[.val (.long q1), .second, .val (.long q2), .second, .val (.long q3), .second, .val (.int p4), .val (.ref b1), .val (.int ((2 : Int32) + (p4 &&& (1 : Int32)))), .val (.int (((p4.toUInt32 >>> ((1 : Int32) &&& 31).toUInt32).toInt32) % ((2 : Int32) + (p4 &&& (1 : Int32))))), .val (.ref b9), .val (.long q1), .second] [(.int (((p4.toUInt32 >>> ((1 : Int32) &&& 31).toUInt32).toInt32) % ((2 : Int32) + (p4 &&& (1 : Int32))))), (.ref b1), (.ref b9)])) _
        refine X16.laload hx (j := (((p4.toUInt32 >>> ((1 : Int32) &&& 31).toUInt32).toInt32) % ((2 : Int32) + (p4 &&& (1 : Int32))))) (v := (.long q2)) Ar44.1 (State.isArrayOf_alike hZ.alike Ar44.2.1) Ar44.2.2 hin44 hat44 (g := (mkF m 141 #[.val (.long q1), .second, .val (.long q2), .second, .val (.long q3), .second, .val (.int p4), .val (.ref b1), .val (.int ((2 : Int32) + (p4 &&& (1 : Int32)))), .val (.int (((p4.toUInt32 >>> ((1 : Int32) &&& 31).toUInt32).toInt32) % ((2 : Int32) + (p4 &&& (1 : Int32))))), .val (.ref b9), .val (.long q1), .second] [(.int (((p4.toUInt32 >>> ((1 : Int32) &&& 31).toUInt32).toInt32) % ((2 : Int32) + (p4 &&& (1 : Int32))))), (.ref b1), (.ref b9)])) rfl rfl (hb hby at_141) _ ?_
        show Steps p.tables e below (T16.setTop (mkF m 142 #[.val (.long q1), .second, .val (.long q2), .second, .val (.long q3), .second, .val (.int p4), .val (.ref b1), .val (.int ((2 : Int32) + (p4 &&& (1 : Int32)))), .val (.int (((p4.toUInt32 >>> ((1 : Int32) &&& 31).toUInt32).toInt32) % ((2 : Int32) + (p4 &&& (1 : Int32))))), .val (.ref b9), .val (.long q1), .second] [(.long q2), (.ref b9)])) _
        refine st45.trans ?_
        show Steps p.tables e below (T45.setTop (mkF m 145 #[.val (.long q1), .second, .val (.long q2), .second, .val (.long q3), .second, .val (.int p4), .val (.ref b1), .val (.int ((2 : Int32) + (p4 &&& (1 : Int32)))), .val (.int (((p4.toUInt32 >>> ((1 : Int32) &&& 31).toUInt32).toInt32) % ((2 : Int32) + (p4 &&& (1 : Int32))))), .val (.ref b9), .val (.long q1), .second] [(.long (f6 q2 (ab0_8 q1 q2 q3 p4) (ab0_9 q1 q2 q3 p4) (ab0_10 q1 q2 q3 p4) (ab0_11 q1 q2 q3 p4) (ab0_12 q1 q2 q3 p4) (ab0_13 q1 q2 q3 p4) (ab0_14 q1 q2 q3 p4) (ab0_15 q1 q2 q3 p4)))])) _
        refine XS.lload X45.here hx rfl (hb hby at_145) rfl ?_
        show Steps p.tables e below (T45.setTop (mkF m 147 #[.val (.long q1), .second, .val (.long q2), .second, .val (.long q3), .second, .val (.int p4), .val (.ref b1), .val (.int ((2 : Int32) + (p4 &&& (1 : Int32)))), .val (.int (((p4.toUInt32 >>> ((1 : Int32) &&& 31).toUInt32).toInt32) % ((2 : Int32) + (p4 &&& (1 : Int32))))), .val (.ref b9), .val (.long q1), .second] [(.long q1), (.long (f6 q2 (ab0_8 q1 q2 q3 p4) (ab0_9 q1 q2 q3 p4) (ab0_10 q1 q2 q3 p4) (ab0_11 q1 q2 q3 p4) (ab0_12 q1 q2 q3 p4) (ab0_13 q1 q2 q3 p4) (ab0_14 q1 q2 q3 p4) (ab0_15 q1 q2 q3 p4)))])) _
        refine XS.lcmp X45.here hx rfl (hb hby at_147) rfl ?_
        show Steps p.tables e below (T45.setTop (mkF m 148 #[.val (.long q1), .second, .val (.long q2), .second, .val (.long q3), .second, .val (.int p4), .val (.ref b1), .val (.int ((2 : Int32) + (p4 &&& (1 : Int32)))), .val (.int (((p4.toUInt32 >>> ((1 : Int32) &&& 31).toUInt32).toInt32) % ((2 : Int32) + (p4 &&& (1 : Int32))))), .val (.ref b9), .val (.long q1), .second] [(.int (lcmpW (f6 q2 (ab0_8 q1 q2 q3 p4) (ab0_9 q1 q2 q3 p4) (ab0_10 q1 q2 q3 p4) (ab0_11 q1 q2 q3 p4) (ab0_12 q1 q2 q3 p4) (ab0_13 q1 q2 q3 p4) (ab0_14 q1 q2 q3 p4) (ab0_15 q1 q2 q3 p4)) q1))])) _
        refine XS.ifNo X45.here hx rfl (hb hby at_148) rfl ((if0 _ _).trans (teq ((lw_eq (f6 q2 (ab0_8 q1 q2 q3 p4) (ab0_9 q1 q2 q3 p4) (ab0_10 q1 q2 q3 p4) (ab0_11 q1 q2 q3 p4) (ab0_12 q1 q2 q3 p4) (ab0_13 q1 q2 q3 p4) (ab0_14 q1 q2 q3 p4) (ab0_15 q1 q2 q3 p4)) q1).mpr (own_fin4 q1 q2 q3 p4))).2) ?_
        show Steps p.tables e below (T45.setTop (mkF m 151 #[.val (.long q1), .second, .val (.long q2), .second, .val (.long q3), .second, .val (.int p4), .val (.ref b1), .val (.int ((2 : Int32) + (p4 &&& (1 : Int32)))), .val (.int (((p4.toUInt32 >>> ((1 : Int32) &&& 31).toUInt32).toInt32) % ((2 : Int32) + (p4 &&& (1 : Int32))))), .val (.ref b9), .val (.long q1), .second] [])) _
        refine XS.iconst X45.here hx rfl (hb hby at_151) ?_
        show Steps p.tables e below (T45.setTop (mkF m 152 #[.val (.long q1), .second, .val (.long q2), .second, .val (.long q3), .second, .val (.int p4), .val (.ref b1), .val (.int ((2 : Int32) + (p4 &&& (1 : Int32)))), .val (.int (((p4.toUInt32 >>> ((1 : Int32) &&& 31).toUInt32).toInt32) % ((2 : Int32) + (p4 &&& (1 : Int32))))), .val (.ref b9), .val (.long q1), .second] [(.int (1 : Int32))])) _
        refine XS.goto X45.here hx rfl (pc0 := 152) (pc' := 156) rfl (hb hby at_152) (by decide) (by decide) ?_
        show Steps p.tables e below (T45.setTop (mkF m 156 #[.val (.long q1), .second, .val (.long q2), .second, .val (.long q3), .second, .val (.int p4), .val (.ref b1), .val (.int ((2 : Int32) + (p4 &&& (1 : Int32)))), .val (.int (((p4.toUInt32 >>> ((1 : Int32) &&& 31).toUInt32).toInt32) % ((2 : Int32) + (p4 &&& (1 : Int32))))), .val (.ref b9), .val (.long q1), .second] [(.int (1 : Int32))])) _
        exact retN X45 hx (t := .boolean) Bd.returns (by simp) (hb hby at_156) hr
      · show Q0 Z q1 q2 q3 p4 h0 n0 _ T45.heap _
        rw [e45]
        exact ⟨by rw [f0, if_neg hc19, if_neg hc39], N45⟩
theorem own_law (a b c : Int64) (d : Int32) : f0 a b c d = 1 := by
  unfold f0
  repeat' split
  all_goals rfl
set_option maxRecDepth 65536 in
set_option maxHeartbeats 40000000 in
theorem comes_1 {Post : Tables → Env → Array Value → State → Outcome → State → Prop} (hpost : ∀ tb e args s v u, (limb_1_1.after args s (.returned v) u = true ∧ limb_1_2.after args s (.returned v) u = true ∧ True) → FrameEnd s (.returned v) u (Jvm.fieldLocs frame_1_writes args s ++ Jvm.arrayLocs frame_1_arrays args s ++ Jvm.staticLocs frame_1_statics s) 16 128 → Post tb e args s (.returned v) u) :
    ArmFor flags0 classFile x code maxLocals ret World_1 tables_1 room_1 Calls_1 rest_1 Pre_1 Post := by
  intro l hfl _ _ p e ha hc hk s m args below hf hA hF happ hP
  obtain ⟨hcalls, hrest, hpre⟩ := hP
  obtain ⟨-, -, -, hnamed, -, -, -, hat⟩ := (Spec.applies_iff hf).mp happ
  obtain ⟨hg, hn⟩ := and_e (Cond.before_iff.mp (show (Jvm.Cond.and given_1 narrow_1).before args s = true from hpre))
  obtain ⟨g1, g2⟩ := and_e hg
  obtain ⟨g3, g4⟩ := and_e g2
  obtain ⟨g5, g6⟩ := and_e g4
  obtain ⟨g7, g8⟩ := and_e g6
  obtain ⟨w0, w1, w2, w3, rfl⟩ : ∃ w0 w1 w2 w3 : Value, args = #[w0, w1, w2, w3] := by
    have hs : args.size = 4 := by simpa [Cond.value, given_1] using g1
    obtain ⟨L⟩ := args
    match L, hs with
    | [w0, w1, w2, w3], _ => exact ⟨w0, w1, w2, w3, rfl⟩
  have hw := fun d (hd : d ∈ tables_1) => atoms_spec (ws := Jvm.Cond.code x code maxLocals ret :: tables_1) hat d (List.mem_cons_of_mem _ hd)
  have hfit : Fit s := fun {y c} hc i hi => by
    obtain ⟨ha, rfl⟩ := Array.getElem?_eq_some_iff.mp hc
    have q := List.all_eq_true.mp ((Array.all_eq_true_iff_forall_mem.mp hF) _ (Array.getElem_mem ha)) i (List.mem_range.mpr hi)
    simpa [Array.getElem?_eq_getElem hi] using q
  obtain ⟨i0, ei0⟩ := isL_v g3
  obtain rfl : w0 = (.long i0) := Option.some.inj ei0
  obtain ⟨i1, ei1⟩ := isL_v g5
  obtain rfl : w1 = (.long i1) := Option.some.inj ei1
  obtain ⟨i2, ei2⟩ := isL_v g7
  obtain rfl : w2 = (.long i2) := Option.some.inj ei2
  obtain ⟨i3, ei3⟩ := is_v g8
  obtain rfl : w3 = (.int i3) := Option.some.inj ei3
  obtain ⟨n, o, h1, h2, h3, v, L, rfl, hQ, hq⟩ := rm0 l s _ hw tables_1 i0 i1 i2 i3  s.heap s.heap.size (Nat.le_refl _)  p e ha hc hk s m _ below hf ((Spec.applies_iff_loose hf).mp happ).1 ⟨rfl, State.Warmed39.refl s, rfl⟩ trivial
  obtain ⟨hv, N⟩ := hQ
  rw [own_law] at hv
  subst hv
  refine ⟨n, _, h1, h2, h3, hpost _ _ _ _ _ _ ⟨Cond.after_iff.mpr rfl, Cond.after_iff.mpr (eq_i res_at (Term.int_eval (1)) rfl), trivial⟩ ⟨hq.1, hq.2.1, (hq.2.2.sift fun y hy => Or.inr (N y hy)).mono (by decide) (by decide)⟩⟩
theorem main_1_1 : Claimed_1_1 := comes_1 fun _ _ _ _ _ _ h hF => ⟨h.1, hF⟩
theorem main_1_2 : Claimed_1_2 := comes_1 fun _ _ _ _ _ _ h hF => ⟨h.2.1, hF⟩
end Jvm.Pilot.@@N@@
namespace Jvm.Pilot.@@N@@
open Jvm Jvm.ClassFile Sem Op Lib Jvm.Free Jvm.Stand Jvm.Pilot.@@N@@.Jvm.D
/-! MADE BY PROGRAM (witnessworld.py) out of the Statement's table words and the real class files: 12 classes; the members and pool entries that the words name. The judged class is class 1, her method 1. -/
namespace start1
open Jvm.ClassFile
def u (s : String) : CpInfo := .utf8 (stringToUtf16 s)
/-- a pool by its gaps: so many unusable entries, then the entry; so many at the end -/
def gap : Nat → List CpInfo → List CpInfo
  | 0, r => r
  | n + 1, r => .unusable :: gap n r
def poolList (es : List (Nat × CpInfo)) (last : Nat) : List CpInfo := es.foldr (fun e r => gap e.1 (e.2 :: r)) (gap last [])
def pool (es : List (Nat × CpInfo)) (last : Nat) : Array CpInfo := ⟨poolList es last⟩
def fileOf (pool : Array CpInfo) (this : Nat) (attrs : Array Attribute := #[]) (ms : Array MethodInfo := #[]) (fl : Nat := 33) (sup : Nat := 0) (ifs : Array Nat := #[]) (fds : Array FieldInfo := #[]) : ClassFile where
  minorVersion := 0
  majorVersion := 65
  constantPool := pool
  accessFlags := fl
  thisClass := this
  superClass := sup
  interfaces := ifs
  fields := fds
  methods := ms
  attributes := attrs
def plain (name : String) (sup : Option ClassId) : Class where
  name := name
  kind := .ordinary
  loader := none
  accessFlags := 33
  super := sup
  interfaces := #[]
  cf := none
  fields := #[]
  methods := #[]
  instanceTypes := #[]
  staticTypes := #[]
  resolved := #[]
  callSites := []
  init := .initialized
  statics := none
  mirror := none

def pool0 : Array CpInfo := pool [(5, u "<init>"), (0, u "()V"), (1, .class_ 10), (1, u "java/lang/Object")] 113

def k0c0 : Code := { maxStack := 0, maxLocals := 1, code := object_method_1_code, exceptionTable := #[], attributes := #[] }
def k0m0 : Method := { name := "<init>", desc := "()V", sig := { parameters := [], returnType := none }, accessFlags := 1, code := some k0c0 }
/-- java/lang/Object -/
def k0 : Class := { plain "java/lang/Object" none with
  accessFlags := 33
  interfaces := #[]
  cf := some (fileOf pool0 8 #[] #[{ accessFlags := 1, nameIndex := 5, descriptorIndex := 6, attributes := #[] }] 33 0 #[] #[])
  fields := #[]
  methods := #[k0m0]
  instanceTypes := #[]
  staticTypes := #[]
  resolved := Array.replicate 124 none
  statics := none }

def pool1 : Array CpInfo := pool [(2, .class_ 4), (0, .nameAndType 5 6), (0, u "java/lang/Object"), (0, u "<init>"), (0, u "()V"), (0, .class_ 8), (0, u "com/example/placecard/placecard/TableValues"), (0, .methodref 7 3), (0, .methodref 7 11), (0, .nameAndType 12 6), (0, u "reset"), (0, .methodref 7 14), (0, .nameAndType 15 16), (0, u "add"), (0, u "(J)V"), (0, .methodref 18 19), (0, .class_ 20), (0, .nameAndType 21 22), (0, u "java/lang/Math"), (0, u "max"), (0, u "(JJ)J"), (0, .methodref 7 24), (0, .nameAndType 25 26), (0, u "maxWithout"), (0, u "(J)J"), (0, .class_ 28), (0, u "com/example/placecard/placecard/TableValuesMaxWithoutPinLaw"), (2, u "law"), (0, u "(JJJI)Z")] 5

def k1m0 : Method := { name := "<init>", desc := "()V", sig := { parameters := [], returnType := none }, accessFlags := 1, code := none }
def k1c1 : Code := { maxStack := 5, maxLocals := 13, code := code, exceptionTable := #[], attributes := #[] }
def k1m1 : Method := { name := "law", desc := "(JJJI)Z", sig := { parameters := [.long, .long, .long, .int], returnType := some .boolean }, accessFlags := 9, code := some k1c1 }
/-- com/example/placecard/placecard/TableValuesMaxWithoutPinLaw -/
def k1 : Class := { plain "com/example/placecard/placecard/TableValuesMaxWithoutPinLaw" (some 0) with
  accessFlags := 49
  interfaces := #[]
  cf := some (fileOf pool1 27 #[] #[{ accessFlags := 1, nameIndex := 5, descriptorIndex := 6, attributes := #[] }, { accessFlags := 9, nameIndex := 31, descriptorIndex := 32, attributes := #[] }] 49 2 #[] #[])
  fields := #[]
  methods := #[k1m0, k1m1]
  instanceTypes := #[]
  staticTypes := #[]
  resolved := Array.replicate 38 none
  statics := none }

def pool2 : Array CpInfo := pool [(1, .methodref 2 3), (0, .class_ 4), (0, .nameAndType 5 6), (0, u "java/lang/Object"), (0, u "<init>"), (0, u "()V"), (0, .fieldref 8 9), (0, .class_ 10), (0, .nameAndType 11 12), (0, u "com/example/placecard/placecard/TableValues"), (0, u "count"), (0, u "I"), (0, .fieldref 8 14), (0, .nameAndType 15 16), (0, u "sum"), (0, u "J"), (0, .fieldref 8 18), (0, .nameAndType 19 16), (0, u "max"), (0, .fieldref 8 21), (0, .nameAndType 22 12), (0, u "maxCount"), (2, .long 9223372036854775808), (1, .fieldref 8 28), (0, .nameAndType 29 16), (0, u "belowMax"), (0, .fieldref 8 31), (0, .nameAndType 32 16), (0, u "min"), (0, .fieldref 8 34), (0, .nameAndType 35 12), (0, u "minCount"), (0, .long 9223372036854775807), (1, .fieldref 8 39), (0, .nameAndType 40 16), (0, u "aboveMin"), (0, .methodref 42 43), (0, .class_ 44), (0, .nameAndType 19 45), (0, u "java/lang/Math"), (0, u "(JJ)J"), (0, .methodref 42 47), (0, .nameAndType 32 45), (2, u "reset"), (0, u "add"), (0, u "(J)V"), (2, u "(J)J"), (0, u "maxWithout")] 3

def k2c0 : Code := { maxStack := 1, maxLocals := 1, code := prog_44_method_1_code, exceptionTable := #[], attributes := #[] }
def k2m0 : Method := { name := "<init>", desc := "()V", sig := { parameters := [], returnType := none }, accessFlags := 0, code := some k2c0 }
def k2c1 : Code := { maxStack := 3, maxLocals := 1, code := prog_44_method_2_code, exceptionTable := #[], attributes := #[] }
def k2m1 : Method := { name := "reset", desc := "()V", sig := { parameters := [], returnType := none }, accessFlags := 0, code := some k2c1 }
def k2c2 : Code := { maxStack := 5, maxLocals := 3, code := prog_44_method_3_code, exceptionTable := #[], attributes := #[] }
def k2m2 : Method := { name := "add", desc := "(J)V", sig := { parameters := [.long], returnType := none }, accessFlags := 0, code := some k2c2 }
def k2c3 : Code := { maxStack := 4, maxLocals := 3, code := prog_44_method_5_code, exceptionTable := #[], attributes := #[] }
def k2m3 : Method := { name := "maxWithout", desc := "(J)J", sig := { parameters := [.long], returnType := some .long }, accessFlags := 0, code := some k2c3 }
/-- com/example/placecard/placecard/TableValues -/
def k2 : Class := { plain "com/example/placecard/placecard/TableValues" (some 0) with
  accessFlags := 48
  interfaces := #[]
  cf := some (fileOf pool2 8 #[] #[{ accessFlags := 0, nameIndex := 5, descriptorIndex := 6, attributes := #[] }, { accessFlags := 0, nameIndex := 50, descriptorIndex := 6, attributes := #[] }, { accessFlags := 0, nameIndex := 51, descriptorIndex := 52, attributes := #[] }, { accessFlags := 0, nameIndex := 56, descriptorIndex := 55, attributes := #[] }] 48 2 #[] #[{ accessFlags := 2, nameIndex := 11, descriptorIndex := 12, attributes := #[] }, { accessFlags := 2, nameIndex := 15, descriptorIndex := 16, attributes := #[] }, { accessFlags := 2, nameIndex := 19, descriptorIndex := 16, attributes := #[] }, { accessFlags := 2, nameIndex := 22, descriptorIndex := 12, attributes := #[] }, { accessFlags := 2, nameIndex := 29, descriptorIndex := 16, attributes := #[] }, { accessFlags := 2, nameIndex := 32, descriptorIndex := 16, attributes := #[] }, { accessFlags := 2, nameIndex := 35, descriptorIndex := 12, attributes := #[] }, { accessFlags := 2, nameIndex := 40, descriptorIndex := 16, attributes := #[] }])
  fields := #[{ name := "count", type := .int, accessFlags := 2, slot := 0, constantValue := 0 }, { name := "sum", type := .long, accessFlags := 2, slot := 1, constantValue := 0 }, { name := "max", type := .long, accessFlags := 2, slot := 2, constantValue := 0 }, { name := "maxCount", type := .int, accessFlags := 2, slot := 3, constantValue := 0 }, { name := "belowMax", type := .long, accessFlags := 2, slot := 4, constantValue := 0 }, { name := "min", type := .long, accessFlags := 2, slot := 5, constantValue := 0 }, { name := "minCount", type := .int, accessFlags := 2, slot := 6, constantValue := 0 }, { name := "aboveMin", type := .long, accessFlags := 2, slot := 7, constantValue := 0 }]
  methods := #[k2m0, k2m1, k2m2, k2m3]
  instanceTypes := #[.int, .long, .long, .int, .long, .long, .int, .long]
  staticTypes := #[]
  resolved := Array.replicate 60 none
  statics := none }

def pool3 : Array CpInfo := pool [(1, .class_ 2), (0, u "java/lang/Math"), (1, .class_ 6), (1, u "java/lang/Object"), (0, u "<init>"), (0, u "()V"), (89, .class_ 100), (1, u "java/lang/Math$RandomNumberGeneratorHolder"), (20, u "(JJ)J"), (50, u "negativeZeroFloatBits"), (0, u "J"), (2, u "negativeZeroDoubleBits"), (21, u "max"), (2, u "min"), (43, u "$assertionsDisabled"), (0, u "Z"), (91, u "twoToTheDoubleScaleDown"), (0, u "D"), (4, u "twoToTheDoubleScaleUp"), (9, u "E"), (3, u "PI"), (2, u "TAU"), (2, u "DEGREES_TO_RADIANS"), (0, u "RADIANS_TO_DEGREES")] 94

def k3m0 : Method := { name := "<init>", desc := "()V", sig := { parameters := [], returnType := none }, accessFlags := 2, code := none }
def k3c1 : Code := { maxStack := 4, maxLocals := 4, code := jdk_29_method_66_code, exceptionTable := #[], attributes := #[] }
def k3m1 : Method := { name := "max", desc := "(JJ)J", sig := { parameters := [.long, .long], returnType := some .long }, accessFlags := 9, code := some k3c1 }
def k3c2 : Code := { maxStack := 4, maxLocals := 4, code := jdk_29_method_70_code, exceptionTable := #[], attributes := #[] }
def k3m2 : Method := { name := "min", desc := "(JJ)J", sig := { parameters := [.long, .long], returnType := some .long }, accessFlags := 9, code := some k3c2 }
/-- java/lang/Math -/
def k3 : Class := { plain "java/lang/Math" (some 0) with
  accessFlags := 49
  interfaces := #[]
  cf := some (fileOf pool3 1 #[.nestMembers #[98]] #[{ accessFlags := 2, nameIndex := 7, descriptorIndex := 8, attributes := #[] }, { accessFlags := 9, nameIndex := 198, descriptorIndex := 121, attributes := #[] }, { accessFlags := 9, nameIndex := 201, descriptorIndex := 121, attributes := #[] }] 49 4 #[] #[{ accessFlags := 25, nameIndex := 354, descriptorIndex := 339, attributes := #[] }, { accessFlags := 25, nameIndex := 358, descriptorIndex := 339, attributes := #[] }, { accessFlags := 25, nameIndex := 361, descriptorIndex := 339, attributes := #[] }, { accessFlags := 26, nameIndex := 364, descriptorIndex := 339, attributes := #[] }, { accessFlags := 26, nameIndex := 365, descriptorIndex := 339, attributes := #[] }, { accessFlags := 26, nameIndex := 172, descriptorIndex := 173, attributes := #[] }, { accessFlags := 26, nameIndex := 176, descriptorIndex := 173, attributes := #[] }, { accessFlags := 8, nameIndex := 344, descriptorIndex := 339, attributes := #[] }, { accessFlags := 8, nameIndex := 338, descriptorIndex := 339, attributes := #[] }, { accessFlags := 4120, nameIndex := 245, descriptorIndex := 246, attributes := #[] }])
  fields := #[{ name := "E", type := .double, accessFlags := 25, slot := 0, constantValue := 0 }, { name := "PI", type := .double, accessFlags := 25, slot := 1, constantValue := 0 }, { name := "TAU", type := .double, accessFlags := 25, slot := 2, constantValue := 0 }, { name := "DEGREES_TO_RADIANS", type := .double, accessFlags := 26, slot := 3, constantValue := 0 }, { name := "RADIANS_TO_DEGREES", type := .double, accessFlags := 26, slot := 4, constantValue := 0 }, { name := "negativeZeroFloatBits", type := .long, accessFlags := 26, slot := 5, constantValue := 0 }, { name := "negativeZeroDoubleBits", type := .long, accessFlags := 26, slot := 6, constantValue := 0 }, { name := "twoToTheDoubleScaleUp", type := .double, accessFlags := 8, slot := 7, constantValue := 0 }, { name := "twoToTheDoubleScaleDown", type := .double, accessFlags := 8, slot := 8, constantValue := 0 }, { name := "$assertionsDisabled", type := .boolean, accessFlags := 4120, slot := 9, constantValue := 0 }]
  methods := #[k3m0, k3m1, k3m2]
  instanceTypes := #[]
  staticTypes := #[.double, .double, .double, .double, .double, .long, .long, .double, .double, .boolean]
  resolved := Array.replicate 460 none
  statics := none }

def pool4 : Array CpInfo := pool [(1, u "java/lang/Cloneable"), (0, .class_ 1), (0, u "java/lang/Object"), (0, .class_ 3)] 3

/-- java/lang/Cloneable -/
def k4 : Class := { plain "java/lang/Cloneable" (some 0) with
  accessFlags := 1537
  interfaces := #[]
  cf := some (fileOf pool4 2 #[] #[] 1537 4 #[] #[])
  fields := #[]
  methods := #[]
  instanceTypes := #[]
  staticTypes := #[]
  resolved := Array.replicate 8 none
  statics := none }

def pool5 : Array CpInfo := pool [(1, u "java/io/Serializable"), (0, .class_ 1), (0, u "java/lang/Object"), (0, .class_ 3)] 3

/-- java/io/Serializable -/
def k5 : Class := { plain "java/io/Serializable" (some 0) with
  accessFlags := 1537
  interfaces := #[]
  cf := some (fileOf pool5 2 #[] #[] 1537 4 #[] #[])
  fields := #[]
  methods := #[]
  instanceTypes := #[]
  staticTypes := #[]
  resolved := Array.replicate 8 none
  statics := none }

/-- the primitive byte -/
def k6 : Class := { plain "byte" none with kind := .primitive 'B', accessFlags := 0x411 }
/-- [B -/
def k7 : Class := { plain "[B" (some 0) with kind := .array 6 .byte, interfaces := #[4, 5], accessFlags := 1041 }

/-- the primitive int -/
def k8 : Class := { plain "int" none with kind := .primitive 'I', accessFlags := 0x411 }
/-- [I -/
def k9 : Class := { plain "[I" (some 0) with kind := .array 8 .int, interfaces := #[4, 5], accessFlags := 1041 }

/-- the primitive long -/
def k10 : Class := { plain "long" none with kind := .primitive 'J', accessFlags := 0x411 }
/-- [J -/
def k11 : Class := { plain "[J" (some 0) with kind := .array 10 .long, interfaces := #[4, 5], accessFlags := 1041 }

def heap : Heap := #[]
def classes : Array Class := #[k0, k1, k2, k3, k4, k5, k6, k7, k8, k9, k10, k11]
def interned : List (Array UInt16 × Addr) := []
def slotsUsed : Nat := 0
def theMethod : MethodId := ⟨1, 1⟩
def args0 : Array Value := #[.long 5, .long 7, .long 6, .int 9]
def aboutOver (below : List Frame) : State where
  vm := { classes := classes, interned := interned.toArray }
  heap := heap
  slotsUsed := slotsUsed
  threads := #[{ frames := .invoking theMethod args0 :: below }]
def below0 : List Frame := [.native { method := ⟨0, 0⟩, args := #[] }]
def about1 : State := aboutOver below0
def p0 : Program := .bare "" "" ""
def e0 : Env := launch0.env 0 0 0
theorem w_frames : about1.frames = Frame.invoking theMethod args0 :: below0 := rfl
set_option maxRecDepth 65536 in
theorem w_args : argsFit about1.vm theMethod args0 = true := by decide +kernel
set_option maxRecDepth 65536 in
theorem w_heap : heapFits about1 = true := by decide +kernel
set_option maxRecDepth 65536 in
theorem w_runnable : about1.curStatus? = some .runnable := by decide +kernel
set_option maxRecDepth 65536 in
theorem w_alone : about1.alone = true := by decide +kernel
set_option maxRecDepth 65536 in
theorem w_named : about1.methodNamed? x = some theMethod := by decide +kernel
set_option maxRecDepth 65536 in
theorem w_hears : about1.hears theMethod below0 = true := by decide +kernel
set_option maxRecDepth 65536 in
theorem w_ripe : about1.ripe theMethod args0 below0 = true := by decide +kernel
theorem w_running : about1.status = .running := rfl
set_option maxRecDepth 65536 in
theorem w_room : about1.hasRoom e0.platform room_1 = true :=
  launch0.hasRoom_least _ room_1 (by decide +kernel) (by decide +kernel) (by decide +kernel) (by decide +kernel) (by decide +kernel) (by decide +kernel)
theorem allAtoms_all (ts : List Jvm.Cond) (a : Array Jvm.Value) (st : Jvm.State) : (allAtoms ts).before a st = ts.all (fun c => c.before a st) := by
  induction ts with
  | nil => rfl
  | cons c t ih =>
    show (Jvm.Cond.and c (allAtoms t)).before a st = _
    rw [Jvm.Cond.before_and, ih, List.all_cons]
def words1 : List Jvm.Cond := Jvm.Cond.code x code maxLocals ret :: tables_1
/-- a 'code' word, met by the world's own term for the bytes: nothing is compared byte by byte -/
theorem code_word {y : MethodName} {bytes : ByteArray} {mx : Nat} {rt : Option FieldType} {a : Array Value} {s : State} {m : MethodId} {meth : Method} {c : Code} (h1 : s.methodNamed? y = some m) (h2 : s.vm.method? m = some meth) (h3 : meth.code = some c) (h4 : c.code = bytes)
    (h5 : (c.maxLocals == mx && c.exceptionTable.isEmpty && decide (c.maxStack ≤ mostOperands) && decide (meth.sig.returnType = rt) && !meth.locks && decide (parseMethodDescriptor y.desc = some meth.sig)) = true) : (Jvm.Cond.code y bytes mx rt).before a s = true := by
  simp only [Bool.and_eq_true, beq_iff_eq, Bool.not_eq_true', decide_eq_true_eq] at h5
  obtain ⟨⟨⟨⟨⟨g1, g2⟩, g3⟩, g4⟩, g5⟩, g6⟩ := h5
  simp [Cond.before, Cond.holds, Cond.value, h1, h2, h3, h4, g1, g2, g3, g4, g5, g6]
def isCode : Jvm.Cond → Bool
  | .code _ _ _ _ => true
  | _ => false
theorem all_split {L : List Jvm.Cond} {P : Jvm.Cond → Bool} (h1 : L.all (fun c => isCode c || P c) = true) (h2 : ∀ c ∈ L.filter isCode, P c = true) : L.all P = true := by
  refine List.all_eq_true.mpr fun c hc => ?_
  have h := List.all_eq_true.mp h1 c hc
  rcases Bool.eq_false_or_eq_true (isCode c) with hi | hi
  · exact h2 c (List.mem_filter.mpr ⟨hc, hi⟩)
  · simpa [hi] using h
set_option maxRecDepth 65536 in
theorem w_c0 : (Jvm.Cond.code x code maxLocals ret).before args0 about1 = true := code_word (m := ⟨1, 1⟩) (meth := k1m1) (c := k1c1) (by decide +kernel) rfl rfl rfl (by decide +kernel)
set_option maxRecDepth 65536 in
theorem w_c1 : (Jvm.Cond.code ({ cls := "com/example/placecard/placecard/TableValues", name := "<init>", desc := "()V" } : Jvm.MethodName) prog_44_method_1_code (1 : Nat) (Option.none : Option Jvm.ClassFile.FieldType)).before args0 about1 = true := code_word (m := ⟨2, 0⟩) (meth := k2m0) (c := k2c0) (by decide +kernel) rfl rfl rfl (by decide +kernel)
set_option maxRecDepth 65536 in
theorem w_c2 : (Jvm.Cond.code ({ cls := "java/lang/Object", name := "<init>", desc := "()V" } : Jvm.MethodName) object_method_1_code (1 : Nat) (Option.none : Option Jvm.ClassFile.FieldType)).before args0 about1 = true := code_word (m := ⟨0, 0⟩) (meth := k0m0) (c := k0c0) (by decide +kernel) rfl rfl rfl (by decide +kernel)
set_option maxRecDepth 65536 in
theorem w_c3 : (Jvm.Cond.code ({ cls := "com/example/placecard/placecard/TableValues", name := "reset", desc := "()V" } : Jvm.MethodName) prog_44_method_2_code (1 : Nat) (Option.none : Option Jvm.ClassFile.FieldType)).before args0 about1 = true := code_word (m := ⟨2, 1⟩) (meth := k2m1) (c := k2c1) (by decide +kernel) rfl rfl rfl (by decide +kernel)
set_option maxRecDepth 65536 in
theorem w_c4 : (Jvm.Cond.code ({ cls := "com/example/placecard/placecard/TableValues", name := "add", desc := "(J)V" } : Jvm.MethodName) prog_44_method_3_code (3 : Nat) (Option.none : Option Jvm.ClassFile.FieldType)).before args0 about1 = true := code_word (m := ⟨2, 2⟩) (meth := k2m2) (c := k2c2) (by decide +kernel) rfl rfl rfl (by decide +kernel)
set_option maxRecDepth 65536 in
theorem w_c5 : (Jvm.Cond.code ({ cls := "java/lang/Math", name := "max", desc := "(JJ)J" } : Jvm.MethodName) jdk_29_method_66_code (4 : Nat) (Option.some Jvm.ClassFile.FieldType.long)).before args0 about1 = true := code_word (m := ⟨3, 1⟩) (meth := k3m1) (c := k3c1) (by decide +kernel) rfl rfl rfl (by decide +kernel)
set_option maxRecDepth 65536 in
theorem w_c6 : (Jvm.Cond.code ({ cls := "com/example/placecard/placecard/TableValues", name := "maxWithout", desc := "(J)J" } : Jvm.MethodName) prog_44_method_5_code (3 : Nat) (Option.some Jvm.ClassFile.FieldType.long)).before args0 about1 = true := code_word (m := ⟨2, 3⟩) (meth := k2m3) (c := k2c3) (by decide +kernel) rfl rfl rfl (by decide +kernel)
set_option maxRecDepth 65536 in
theorem w_c7 : (Jvm.Cond.code ({ cls := "java/lang/Math", name := "min", desc := "(JJ)J" } : Jvm.MethodName) jdk_29_method_70_code (4 : Nat) (Option.some Jvm.ClassFile.FieldType.long)).before args0 about1 = true := code_word (m := ⟨3, 2⟩) (meth := k3m2) (c := k3c2) (by decide +kernel) rfl rfl rfl (by decide +kernel)
def codes1 : List Jvm.Cond := [Jvm.Cond.code x code maxLocals ret, Jvm.Cond.code ({ cls := "com/example/placecard/placecard/TableValues", name := "<init>", desc := "()V" } : Jvm.MethodName) prog_44_method_1_code (1 : Nat) (Option.none : Option Jvm.ClassFile.FieldType), Jvm.Cond.code ({ cls := "java/lang/Object", name := "<init>", desc := "()V" } : Jvm.MethodName) object_method_1_code (1 : Nat) (Option.none : Option Jvm.ClassFile.FieldType), Jvm.Cond.code ({ cls := "com/example/placecard/placecard/TableValues", name := "reset", desc := "()V" } : Jvm.MethodName) prog_44_method_2_code (1 : Nat) (Option.none : Option Jvm.ClassFile.FieldType), Jvm.Cond.code ({ cls := "com/example/placecard/placecard/TableValues", name := "add", desc := "(J)V" } : Jvm.MethodName) prog_44_method_3_code (3 : Nat) (Option.none : Option Jvm.ClassFile.FieldType), Jvm.Cond.code ({ cls := "java/lang/Math", name := "max", desc := "(JJ)J" } : Jvm.MethodName) jdk_29_method_66_code (4 : Nat) (Option.some Jvm.ClassFile.FieldType.long), Jvm.Cond.code ({ cls := "com/example/placecard/placecard/TableValues", name := "maxWithout", desc := "(J)J" } : Jvm.MethodName) prog_44_method_5_code (3 : Nat) (Option.some Jvm.ClassFile.FieldType.long), Jvm.Cond.code ({ cls := "java/lang/Math", name := "min", desc := "(JJ)J" } : Jvm.MethodName) jdk_29_method_70_code (4 : Nat) (Option.some Jvm.ClassFile.FieldType.long)]
set_option maxRecDepth 65536 in
theorem codes_eq : words1.filter isCode = codes1 := rfl
theorem w_codes : ∀ c ∈ words1.filter isCode, c.before args0 about1 = true := by
  rw [codes_eq]
  intro c hc
  simp only [codes1, List.mem_cons, List.not_mem_nil, or_false] at hc
  rcases hc with rfl | rfl | rfl | rfl | rfl | rfl | rfl | rfl
  · exact w_c0
  · exact w_c1
  · exact w_c2
  · exact w_c3
  · exact w_c4
  · exact w_c5
  · exact w_c6
  · exact w_c7
set_option maxRecDepth 65536 in
theorem w_t1 : (words1.take 24).all (fun c => isCode c || c.before args0 about1) = true := by decide +kernel
set_option maxRecDepth 65536 in
theorem w_t2 : ((words1.drop 24).take 24).all (fun c => isCode c || c.before args0 about1) = true := by decide +kernel
set_option maxRecDepth 65536 in
theorem w_t3 : ((words1.drop 24).drop 24).all (fun c => isCode c || c.before args0 about1) = true := by decide +kernel
theorem w_tables : (allAtoms (Jvm.Cond.code x code maxLocals ret :: tables_1)).before args0 about1 = true := by
  rw [allAtoms_all]
  show words1.all (fun c => c.before args0 about1) = true
  refine all_split ?_ w_codes
  rw [← List.take_append_drop 24 words1, List.all_append, w_t1, ← List.take_append_drop 24 (words1.drop 24), List.all_append, w_t2, w_t3]
  rfl
set_option maxRecDepth 65536 in
theorem w_case : (Jvm.Cond.and given_1 narrow_1).before args0 about1 = true := by decide +kernel
theorem w_applies : (headSpec (Jvm.Cond.code x code maxLocals ret :: tables_1) room_1).applies x e0.platform about1 = true :=
  (Spec.applies_iff w_frames).mpr ⟨w_running, w_runnable, w_alone, w_named, w_hears, w_ripe, w_room, w_tables⟩
theorem atStart : AtStart classFile x code maxLocals ret World_1 tables_1 room_1 Calls_1 rest_1 Pre_1 launch0 p0 e0 about1 theMethod args0 below0 :=
  ⟨lists_1, trivial, launch0.admits_env _ _ _, launch0.least_env, fairChoices_fair.cas, fairChoices_fair.clock, w_frames, w_args, w_heap, w_applies, trivial, trivial, w_case⟩
end start1
theorem witness_1 : WitnessClaimed_1 := ⟨start1.p0, start1.e0, start1.about1, start1.theMethod, start1.args0, start1.below0, start1.atStart⟩
end Jvm.Pilot.@@N@@
