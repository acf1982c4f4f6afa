import JvmDerived
import JvmDerived.Pilot.@@N@@Statement
import JvmDerived.Pilot.@@N@@Code
set_option linter.unusedVariables false
set_option linter.unusedSimpArgs false
namespace Jvm.RoadKit
open Sem ClassFile Op Lib Jvm.Stand Jvm.Free Jvm.LawKit
section New
variable {p : Program} {l : Launch} {e : Env} {R : Room} {s : State} {m : MethodId} {args : Array Value} {below : List Frame} {meth : Method} {c : Code} {T : State} {locs : List Loc} {cells slots : Nat}
theorem retI (X : Stand p l e R s m args below meth c T locs cells slots) (hx : p.tables.exec = Jvm.exec) {pc : Nat} {Ls : Array Slot} {z : Int32} {rest : List Value} (hret : meth.sig.returnType = some .int) (hd : decode c.code pc = .ok (.ireturn, 1)) {fs : List Frame}
    (hl : ∀ (f : JFrame) (acts : List Action), f.method = m → f.locked = none → f.entered = [] → (doReturn e (T.setTop f) acts (some (.int z))).1 = T.setFrames fs) : Steps p.tables e below (T.setTop (mkF m pc Ls (.int z :: rest))) (T.setFrames fs) := by
  have hm' : T.vm.method? m = some meth := X.method'
  have hn : narrow .int (.int z) = .int z := rfl
  show Steps p.tables e below (T.setTop { method := m, pc := pc, locals := Ls, stack := _ :: rest, locked := none }) _
  jvm_step X.here [X.here.top, hx, hd, hm', hret, hn]
  first | (intro acts; rw [hl _ acts rfl rfl rfl]) | rw [hl _ _ rfl rfl rfl]
  exact Steps.refl _
end New
end Jvm.RoadKit
namespace Jvm.Pilot.@@N@@
open Jvm Jvm.ClassFile Sem Op Lib Jvm.Free Jvm.Stand Jvm.LawKit Jvm.RoadKit Bundle Jvm.Pilot.@@N@@.Jvm.D
theorem d2_0 : decode prog_22_method_4_code 0 = .ok (.lload_n 0, 1) := by decide +kernel
theorem d2_1 : decode prog_22_method_4_code 1 = .ok (.lload_n 2, 1) := by decide +kernel
theorem d2_2 : decode prog_22_method_4_code 2 = .ok (.lconst 1, 1) := by decide +kernel
theorem d2_3 : decode prog_22_method_4_code 3 = .ok (.ladd, 1) := by decide +kernel
theorem d2_4 : decode prog_22_method_4_code 4 = .ok (.ldc2_w 15, 3) := by decide +kernel
theorem d2_7 : decode prog_22_method_4_code 7 = .ok (.lmul, 1) := by decide +kernel
theorem d2_8 : decode prog_22_method_4_code 8 = .ok (.ladd, 1) := by decide +kernel
theorem d2_9 : decode prog_22_method_4_code 9 = .ok (.lstore 4, 2) := by decide +kernel
theorem d2_11 : decode prog_22_method_4_code 11 = .ok (.lload 4, 2) := by decide +kernel
theorem d2_13 : decode prog_22_method_4_code 13 = .ok (.lload 4, 2) := by decide +kernel
theorem d2_15 : decode prog_22_method_4_code 15 = .ok (.bipush 33, 2) := by decide +kernel
theorem d2_17 : decode prog_22_method_4_code 17 = .ok (.lushr, 1) := by decide +kernel
theorem d2_18 : decode prog_22_method_4_code 18 = .ok (.lxor, 1) := by decide +kernel
theorem d2_19 : decode prog_22_method_4_code 19 = .ok (.ldc2_w 17, 3) := by decide +kernel
theorem d2_22 : decode prog_22_method_4_code 22 = .ok (.lmul, 1) := by decide +kernel
theorem d2_23 : decode prog_22_method_4_code 23 = .ok (.lstore 4, 2) := by decide +kernel
theorem d2_25 : decode prog_22_method_4_code 25 = .ok (.lload 4, 2) := by decide +kernel
theorem d2_27 : decode prog_22_method_4_code 27 = .ok (.lload 4, 2) := by decide +kernel
theorem d2_29 : decode prog_22_method_4_code 29 = .ok (.bipush 33, 2) := by decide +kernel
theorem d2_31 : decode prog_22_method_4_code 31 = .ok (.lushr, 1) := by decide +kernel
theorem d2_32 : decode prog_22_method_4_code 32 = .ok (.lxor, 1) := by decide +kernel
theorem d2_33 : decode prog_22_method_4_code 33 = .ok (.ldc2_w 19, 3) := by decide +kernel
theorem d2_36 : decode prog_22_method_4_code 36 = .ok (.lmul, 1) := by decide +kernel
theorem d2_37 : decode prog_22_method_4_code 37 = .ok (.lstore 4, 2) := by decide +kernel
theorem d2_39 : decode prog_22_method_4_code 39 = .ok (.lload 4, 2) := by decide +kernel
theorem d2_41 : decode prog_22_method_4_code 41 = .ok (.lload 4, 2) := by decide +kernel
theorem d2_43 : decode prog_22_method_4_code 43 = .ok (.bipush 33, 2) := by decide +kernel
theorem d2_45 : decode prog_22_method_4_code 45 = .ok (.lushr, 1) := by decide +kernel
theorem d2_46 : decode prog_22_method_4_code 46 = .ok (.lxor, 1) := by decide +kernel
theorem d2_47 : decode prog_22_method_4_code 47 = .ok (.lreturn, 1) := by decide +kernel
theorem pn_2 : plainName "dev/shoalmap/workload/KeySet" = true := by first | (simp [plainName, overriddenIn]; done) | decide +kernel
theorem ef_2 (m : MethodId) (x0 : Int64) (x1 : Int64) : entryFrame m #[(.long x0), (.long x1)] 6 = mkF m 0 #[.val (.long x0), .second, .val (.long x1), .second, .unset, .unset] [] := by first | (simp [entryFrame, mkF, argsToLocals, Value.category]; done) | rfl

def f2 (q1 : Int64) (q2 : Int64) : Int64 := ((((((q1 + ((q2 + (1 : Int64)) * (-7046029254386353131 : Int64))) ^^^ (((q1 + ((q2 + (1 : Int64)) * (-7046029254386353131 : Int64))).toUInt64 >>> ((33 : Int32) &&& 0x3f).toInt64.toUInt64).toInt64)) * (-49064778989728563 : Int64)) ^^^ (((((q1 + ((q2 + (1 : Int64)) * (-7046029254386353131 : Int64))) ^^^ (((q1 + ((q2 + (1 : Int64)) * (-7046029254386353131 : Int64))).toUInt64 >>> ((33 : Int32) &&& 0x3f).toInt64.toUInt64).toInt64)) * (-49064778989728563 : Int64)).toUInt64 >>> ((33 : Int32) &&& 0x3f).toInt64.toUInt64).toInt64)) * (-4265267296055464877 : Int64)) ^^^ (((((((q1 + ((q2 + (1 : Int64)) * (-7046029254386353131 : Int64))) ^^^ (((q1 + ((q2 + (1 : Int64)) * (-7046029254386353131 : Int64))).toUInt64 >>> ((33 : Int32) &&& 0x3f).toInt64.toUInt64).toInt64)) * (-49064778989728563 : Int64)) ^^^ (((((q1 + ((q2 + (1 : Int64)) * (-7046029254386353131 : Int64))) ^^^ (((q1 + ((q2 + (1 : Int64)) * (-7046029254386353131 : Int64))).toUInt64 >>> ((33 : Int32) &&& 0x3f).toInt64.toUInt64).toInt64)) * (-49064778989728563 : Int64)).toUInt64 >>> ((33 : Int32) &&& 0x3f).toInt64.toUInt64).toInt64)) * (-4265267296055464877 : Int64)).toUInt64 >>> ((33 : Int32) &&& 0x3f).toInt64.toUInt64).toInt64))
def Q2 (Z : State) (q1 : Int64) (q2 : Int64) (h0 : Heap) (n0 : Nat) (v : Option Value) (h : Heap) (L : List Loc) : Prop := v = some (.long (f2 q1 q2)) ∧ Fr n0 L ∧ h = h0
set_option maxRecDepth 65536 in
set_option maxHeartbeats 40000000 in
theorem rm2 (l : Launch) (Z : State) (a0 : Array Value) (hw : ∀ d ∈ tables_1, d.before a0 Z = true) (ws : List Jvm.Cond) (q1 : Int64) (q2 : Int64) (h0 : Heap) (n0 : Nat) (Z0 : n0 ≤ h0.size) :
    MetFree l (⟨"dev/shoalmap/workload/KeySet", "key", "(JJ)J"⟩ : MethodName) (head1 (Jvm.Cond.code (⟨"dev/shoalmap/workload/KeySet", "key", "(JJ)J"⟩ : MethodName) prog_22_method_4_code 6 (some .long) :: ws) ({ frames := 0, cells := 0, slots := 0, locals := 0 } : Room)) (fun a U => a = #[(.long q1), (.long q2)] ∧ Z.Warmed39 U.vm ∧ U.heap = h0) (fun _ _ _ _ _ => True) (fun _ U o U' => ∃ v L, o = .returned v ∧ Q2 Z q1 q2 h0 n0 v U'.heap L ∧ FrameEnd U o U' L ({ frames := 0, cells := 0, slots := 0, locals := 0 } : Room).cells ({ frames := 0, cells := 0, slots := 0, locals := 0 } : Room).slots) := by
  refine MetFree.of_bodySF (plainFor_of_name pn_2) hisR ?_
  intro p e s m args below meth c s₁ Bd hml0 hP hK
  obtain ⟨rfl, hZ, hh⟩ := hP
  have hx := Bd.exec
  have hby := Bd.bytes
  have hml : c.maxLocals = 6 := hml0
  have hown : s.vm.findClass "dev/shoalmap/workload/KeySet" = some m.cls := findClass_of_methodNamed Bd.named
  have hnm := (name_of_methodNamed Bd.named Bd.method).1
  have X0 : Stand p l e ({ frames := 0, cells := 0, slots := 0, locals := 0 } : Room) s m #[(.long q1), (.long q2)] below meth c s₁ [] 0 0 := Stand.of_body Bd
  have e0 : s₁.heap = h0 := by rw [← hh, Bd.state]; rfl
  have N0 := Fr.nil n0
  have pre0 : ∀ t, Steps p.tables e below (s₁.setTop (mkF m 0 #[.val (.long q1), .second, .val (.long q2), .second, .unset, .unset] [])) t → Steps p.tables e below (s₁.setTop (entryFrame m #[(.long q1), (.long q2)] 6)) t := fun t k => castTop (ef_2 m q1 q2) k
  obtain ⟨fs, hr, hrun, hended, hW, hsame⟩ := X0.leave (v := some (.long ((((((q1 + ((q2 + (1 : Int64)) * (-7046029254386353131 : Int64))) ^^^ (((q1 + ((q2 + (1 : Int64)) * (-7046029254386353131 : Int64))).toUInt64 >>> ((33 : Int32) &&& 0x3f).toInt64.toUInt64).toInt64)) * (-49064778989728563 : Int64)) ^^^ (((((q1 + ((q2 + (1 : Int64)) * (-7046029254386353131 : Int64))) ^^^ (((q1 + ((q2 + (1 : Int64)) * (-7046029254386353131 : Int64))).toUInt64 >>> ((33 : Int32) &&& 0x3f).toInt64.toUInt64).toInt64)) * (-49064778989728563 : Int64)).toUInt64 >>> ((33 : Int32) &&& 0x3f).toInt64.toUInt64).toInt64)) * (-4265267296055464877 : Int64)) ^^^ (((((((q1 + ((q2 + (1 : Int64)) * (-7046029254386353131 : Int64))) ^^^ (((q1 + ((q2 + (1 : Int64)) * (-7046029254386353131 : Int64))).toUInt64 >>> ((33 : Int32) &&& 0x3f).toInt64.toUInt64).toInt64)) * (-49064778989728563 : Int64)) ^^^ (((((q1 + ((q2 + (1 : Int64)) * (-7046029254386353131 : Int64))) ^^^ (((q1 + ((q2 + (1 : Int64)) * (-7046029254386353131 : Int64))).toUInt64 >>> ((33 : Int32) &&& 0x3f).toInt64.toUInt64).toInt64)) * (-49064778989728563 : Int64)).toUInt64 >>> ((33 : Int32) &&& 0x3f).toInt64.toUInt64).toInt64)) * (-4265267296055464877 : Int64)).toUInt64 >>> ((33 : Int32) &&& 0x3f).toInt64.toUInt64).toInt64)))) (fun h => by rw [Bd.returns] at h; cases h)
  refine ⟨_, _, pre0 _ ?_, hrun, hended, _, _, rfl, ?_, ⟨_, rfl⟩, hW, hsame.mono (by decide) (by decide)⟩
  · show Steps p.tables e below (s₁.setTop (mkF m 0 #[.val (.long q1), .second, .val (.long q2), .second, .unset, .unset] [])) _
    refine XS.lloadN X0.here hx rfl (hb hby d2_0) rfl ?_
    show Steps p.tables e below (s₁.setTop (mkF m 1 #[.val (.long q1), .second, .val (.long q2), .second, .unset, .unset] [(.long q1)])) _
    refine XS.lloadN X0.here hx rfl (hb hby d2_1) rfl ?_
    show Steps p.tables e below (s₁.setTop (mkF m 2 #[.val (.long q1), .second, .val (.long q2), .second, .unset, .unset] [(.long q2), (.long q1)])) _
    refine XS.lconst X0.here hx rfl (hb hby d2_2) ?_
    show Steps p.tables e below (s₁.setTop (mkF m 3 #[.val (.long q1), .second, .val (.long q2), .second, .unset, .unset] [(.long (1 : Int64)), (.long q2), (.long q1)])) _
    refine XS.ladd X0.here hx rfl (hb hby d2_3) rfl ?_
    show Steps p.tables e below (s₁.setTop (mkF m 4 #[.val (.long q1), .second, .val (.long q2), .second, .unset, .unset] [(.long (q2 + (1 : Int64))), (.long q1)])) _
    refine X0.ldc2Long hx hown (mvT hZ (hw _ (List.mem_of_getElem? (i := 7) rfl))) (g := (mkF m 4 #[.val (.long q1), .second, .val (.long q2), .second, .unset, .unset] [(.long (q2 + (1 : Int64))), (.long q1)])) rfl (hb hby d2_4) _ ?_
    show Steps p.tables e below (s₁.setTop (mkF m 7 #[.val (.long q1), .second, .val (.long q2), .second, .unset, .unset] [(.long (-7046029254386353131 : Int64)), (.long (q2 + (1 : Int64))), (.long q1)])) _
    refine XS.lmul X0.here hx rfl (hb hby d2_7) rfl ?_
    show Steps p.tables e below (s₁.setTop (mkF m 8 #[.val (.long q1), .second, .val (.long q2), .second, .unset, .unset] [(.long ((q2 + (1 : Int64)) * (-7046029254386353131 : Int64))), (.long q1)])) _
    refine XS.ladd X0.here hx rfl (hb hby d2_8) rfl ?_
    show Steps p.tables e below (s₁.setTop (mkF m 9 #[.val (.long q1), .second, .val (.long q2), .second, .unset, .unset] [(.long (q1 + ((q2 + (1 : Int64)) * (-7046029254386353131 : Int64))))])) _
    refine XS.lstore X0.here hx rfl (hb hby d2_9) rfl (l' := #[.val (.long q1), .second, .val (.long q2), .second, .val (.long (q1 + ((q2 + (1 : Int64)) * (-7046029254386353131 : Int64)))), .second]) rfl ?_
    show Steps p.tables e below (s₁.setTop (mkF m 11 #[.val (.long q1), .second, .val (.long q2), .second, .val (.long (q1 + ((q2 + (1 : Int64)) * (-7046029254386353131 : Int64)))), .second] [])) _
    refine XS.lload X0.here hx rfl (hb hby d2_11) rfl ?_
    show Steps p.tables e below (s₁.setTop (mkF m 13 #[.val (.long q1), .second, .val (.long q2), .second, .val (.long (q1 + ((q2 + (1 : Int64)) * (-7046029254386353131 : Int64)))), .second] [(.long (q1 + ((q2 + (1 : Int64)) * (-7046029254386353131 : Int64))))])) _
    refine XS.lload X0.here hx rfl (hb hby d2_13) rfl ?_
    show Steps p.tables e below (s₁.setTop (mkF m 15 #[.val (.long q1), .second, .val (.long q2), .second, .val (.long (q1 + ((q2 + (1 : Int64)) * (-7046029254386353131 : Int64)))), .second] [(.long (q1 + ((q2 + (1 : Int64)) * (-7046029254386353131 : Int64)))), (.long (q1 + ((q2 + (1 : Int64)) * (-7046029254386353131 : Int64))))])) _
    refine XS.bipush X0.here hx rfl (hb hby d2_15) ?_
    show Steps p.tables e below (s₁.setTop (mkF m 17 #[.val (.long q1), .second, .val (.long q2), .second, .val (.long (q1 + ((q2 + (1 : Int64)) * (-7046029254386353131 : Int64)))), .second] [(.int (33 : Int32)), (.long (q1 + ((q2 + (1 : Int64)) * (-7046029254386353131 : Int64)))), (.long (q1 + ((q2 + (1 : Int64)) * (-7046029254386353131 : Int64))))])) _
    refine XS.lushr X0.here hx rfl (hb hby d2_17) rfl ?_
    show Steps p.tables e below (s₁.setTop (mkF m 18 #[.val (.long q1), .second, .val (.long q2), .second, .val (.long (q1 + ((q2 + (1 : Int64)) * (-7046029254386353131 : Int64)))), .second] [(.long (((q1 + ((q2 + (1 : Int64)) * (-7046029254386353131 : Int64))).toUInt64 >>> ((33 : Int32) &&& 0x3f).toInt64.toUInt64).toInt64)), (.long (q1 + ((q2 + (1 : Int64)) * (-7046029254386353131 : Int64))))])) _
    refine XS.lxor X0.here hx rfl (hb hby d2_18) rfl ?_
    show Steps p.tables e below (s₁.setTop (mkF m 19 #[.val (.long q1), .second, .val (.long q2), .second, .val (.long (q1 + ((q2 + (1 : Int64)) * (-7046029254386353131 : Int64)))), .second] [(.long ((q1 + ((q2 + (1 : Int64)) * (-7046029254386353131 : Int64))) ^^^ (((q1 + ((q2 + (1 : Int64)) * (-7046029254386353131 : Int64))).toUInt64 >>> ((33 : Int32) &&& 0x3f).toInt64.toUInt64).toInt64)))])) _
    refine X0.ldc2Long hx hown (mvT hZ (hw _ (List.mem_of_getElem? (i := 8) rfl))) (g := (mkF m 19 #[.val (.long q1), .second, .val (.long q2), .second, .val (.long (q1 + ((q2 + (1 : Int64)) * (-7046029254386353131 : Int64)))), .second] [(.long ((q1 + ((q2 + (1 : Int64)) * (-7046029254386353131 : Int64))) ^^^ (((q1 + ((q2 + (1 : Int64)) * (-7046029254386353131 : Int64))).toUInt64 >>> ((33 : Int32) &&& 0x3f).toInt64.toUInt64).toInt64)))])) rfl (hb hby d2_19) _ ?_
    show Steps p.tables e below (s₁.setTop (mkF m 22 #[.val (.long q1), .second, .val (.long q2), .second, .val (.long (q1 + ((q2 + (1 : Int64)) * (-7046029254386353131 : Int64)))), .second] [(.long (-49064778989728563 : Int64)), (.long ((q1 + ((q2 + (1 : Int64)) * (-7046029254386353131 : Int64))) ^^^ (((q1 + ((q2 + (1 : Int64)) * (-7046029254386353131 : Int64))).toUInt64 >>> ((33 : Int32) &&& 0x3f).toInt64.toUInt64).toInt64)))])) _
    refine XS.lmul X0.here hx rfl (hb hby d2_22) rfl ?_
    show Steps p.tables e below (s₁.setTop (mkF m 23 #[.val (.long q1), .second, .val (.long q2), .second, .val (.long (q1 + ((q2 + (1 : Int64)) * (-7046029254386353131 : Int64)))), .second] [(.long (((q1 + ((q2 + (1 : Int64)) * (-7046029254386353131 : Int64))) ^^^ (((q1 + ((q2 + (1 : Int64)) * (-7046029254386353131 : Int64))).toUInt64 >>> ((33 : Int32) &&& 0x3f).toInt64.toUInt64).toInt64)) * (-49064778989728563 : Int64)))])) _
    refine XS.lstore X0.here hx rfl (hb hby d2_23) rfl (l' := #[.val (.long q1), .second, .val (.long q2), .second, .val (.long (((q1 + ((q2 + (1 : Int64)) * (-7046029254386353131 : Int64))) ^^^ (((q1 + ((q2 + (1 : Int64)) * (-7046029254386353131 : Int64))).toUInt64 >>> ((33 : Int32) &&& 0x3f).toInt64.toUInt64).toInt64)) * (-49064778989728563 : Int64))), .second]) rfl ?_
    show Steps p.tables e below (s₁.setTop (mkF m 25 #[.val (.long q1), .second, .val (.long q2), .second, .val (.long (((q1 + ((q2 + (1 : Int64)) * (-7046029254386353131 : Int64))) ^^^ (((q1 + ((q2 + (1 : Int64)) * (-7046029254386353131 : Int64))).toUInt64 >>> ((33 : Int32) &&& 0x3f).toInt64.toUInt64).toInt64)) * (-49064778989728563 : Int64))), .second] [])) _
    refine XS.lload X0.here hx rfl (hb hby d2_25) rfl ?_
    show Steps p.tables e below (s₁.setTop (mkF m 27 #[.val (.long q1), .second, .val (.long q2), .second, .val (.long (((q1 + ((q2 + (1 : Int64)) * (-7046029254386353131 : Int64))) ^^^ (((q1 + ((q2 + (1 : Int64)) * (-7046029254386353131 : Int64))).toUInt64 >>> ((33 : Int32) &&& 0x3f).toInt64.toUInt64).toInt64)) * (-49064778989728563 : Int64))), .second] [(.long (((q1 + ((q2 + (1 : Int64)) * (-7046029254386353131 : Int64))) ^^^ (((q1 + ((q2 + (1 : Int64)) * (-7046029254386353131 : Int64))).toUInt64 >>> ((33 : Int32) &&& 0x3f).toInt64.toUInt64).toInt64)) * (-49064778989728563 : Int64)))])) _
    refine XS.lload X0.here hx rfl (hb hby d2_27) rfl ?_
    show Steps p.tables e below (s₁.setTop (mkF m 29 #[.val (.long q1), .second, .val (.long q2), .second, .val (.long (((q1 + ((q2 + (1 : Int64)) * (-7046029254386353131 : Int64))) ^^^ (((q1 + ((q2 + (1 : Int64)) * (-7046029254386353131 : Int64))).toUInt64 >>> ((33 : Int32) &&& 0x3f).toInt64.toUInt64).toInt64)) * (-49064778989728563 : Int64))), .second] [(.long (((q1 + ((q2 + (1 : Int64)) * (-7046029254386353131 : Int64))) ^^^ (((q1 + ((q2 + (1 : Int64)) * (-7046029254386353131 : Int64))).toUInt64 >>> ((33 : Int32) &&& 0x3f).toInt64.toUInt64).toInt64)) * (-49064778989728563 : Int64))), (.long (((q1 + ((q2 + (1 : Int64)) * (-7046029254386353131 : Int64))) ^^^ (((q1 + ((q2 + (1 : Int64)) * (-7046029254386353131 : Int64))).toUInt64 >>> ((33 : Int32) &&& 0x3f).toInt64.toUInt64).toInt64)) * (-49064778989728563 : Int64)))])) _
    refine XS.bipush X0.here hx rfl (hb hby d2_29) ?_
    show Steps p.tables e below (s₁.setTop (mkF m 31 #[.val (.long q1), .second, .val (.long q2), .second, .val (.long (((q1 + ((q2 + (1 : Int64)) * (-7046029254386353131 : Int64))) ^^^ (((q1 + ((q2 + (1 : Int64)) * (-7046029254386353131 : Int64))).toUInt64 >>> ((33 : Int32) &&& 0x3f).toInt64.toUInt64).toInt64)) * (-49064778989728563 : Int64))), .second] [(.int (33 : Int32)), (.long (((q1 + ((q2 + (1 : Int64)) * (-7046029254386353131 : Int64))) ^^^ (((q1 + ((q2 + (1 : Int64)) * (-7046029254386353131 : Int64))).toUInt64 >>> ((33 : Int32) &&& 0x3f).toInt64.toUInt64).toInt64)) * (-49064778989728563 : Int64))), (.long (((q1 + ((q2 + (1 : Int64)) * (-7046029254386353131 : Int64))) ^^^ (((q1 + ((q2 + (1 : Int64)) * (-7046029254386353131 : Int64))).toUInt64 >>> ((33 : Int32) &&& 0x3f).toInt64.toUInt64).toInt64)) * (-49064778989728563 : Int64)))])) _
    refine XS.lushr X0.here hx rfl (hb hby d2_31) rfl ?_
    show Steps p.tables e below (s₁.setTop (mkF m 32 #[.val (.long q1), .second, .val (.long q2), .second, .val (.long (((q1 + ((q2 + (1 : Int64)) * (-7046029254386353131 : Int64))) ^^^ (((q1 + ((q2 + (1 : Int64)) * (-7046029254386353131 : Int64))).toUInt64 >>> ((33 : Int32) &&& 0x3f).toInt64.toUInt64).toInt64)) * (-49064778989728563 : Int64))), .second] [(.long (((((q1 + ((q2 + (1 : Int64)) * (-7046029254386353131 : Int64))) ^^^ (((q1 + ((q2 + (1 : Int64)) * (-7046029254386353131 : Int64))).toUInt64 >>> ((33 : Int32) &&& 0x3f).toInt64.toUInt64).toInt64)) * (-49064778989728563 : Int64)).toUInt64 >>> ((33 : Int32) &&& 0x3f).toInt64.toUInt64).toInt64)), (.long (((q1 + ((q2 + (1 : Int64)) * (-7046029254386353131 : Int64))) ^^^ (((q1 + ((q2 + (1 : Int64)) * (-7046029254386353131 : Int64))).toUInt64 >>> ((33 : Int32) &&& 0x3f).toInt64.toUInt64).toInt64)) * (-49064778989728563 : Int64)))])) _
    refine XS.lxor X0.here hx rfl (hb hby d2_32) rfl ?_
    show Steps p.tables e below (s₁.setTop (mkF m 33 #[.val (.long q1), .second, .val (.long q2), .second, .val (.long (((q1 + ((q2 + (1 : Int64)) * (-7046029254386353131 : Int64))) ^^^ (((q1 + ((q2 + (1 : Int64)) * (-7046029254386353131 : Int64))).toUInt64 >>> ((33 : Int32) &&& 0x3f).toInt64.toUInt64).toInt64)) * (-49064778989728563 : Int64))), .second] [(.long ((((q1 + ((q2 + (1 : Int64)) * (-7046029254386353131 : Int64))) ^^^ (((q1 + ((q2 + (1 : Int64)) * (-7046029254386353131 : Int64))).toUInt64 >>> ((33 : Int32) &&& 0x3f).toInt64.toUInt64).toInt64)) * (-49064778989728563 : Int64)) ^^^ (((((q1 + ((q2 + (1 : Int64)) * (-7046029254386353131 : Int64))) ^^^ (((q1 + ((q2 + (1 : Int64)) * (-7046029254386353131 : Int64))).toUInt64 >>> ((33 : Int32) &&& 0x3f).toInt64.toUInt64).toInt64)) * (-49064778989728563 : Int64)).toUInt64 >>> ((33 : Int32) &&& 0x3f).toInt64.toUInt64).toInt64)))])) _
    refine X0.ldc2Long hx hown (mvT hZ (hw _ (List.mem_of_getElem? (i := 9) rfl))) (g := (mkF m 33 #[.val (.long q1), .second, .val (.long q2), .second, .val (.long (((q1 + ((q2 + (1 : Int64)) * (-7046029254386353131 : Int64))) ^^^ (((q1 + ((q2 + (1 : Int64)) * (-7046029254386353131 : Int64))).toUInt64 >>> ((33 : Int32) &&& 0x3f).toInt64.toUInt64).toInt64)) * (-49064778989728563 : Int64))), .second] [(.long ((((q1 + ((q2 + (1 : Int64)) * (-7046029254386353131 : Int64))) ^^^ (((q1 + ((q2 + (1 : Int64)) * (-7046029254386353131 : Int64))).toUInt64 >>> ((33 : Int32) &&& 0x3f).toInt64.toUInt64).toInt64)) * (-49064778989728563 : Int64)) ^^^ (((((q1 + ((q2 + (1 : Int64)) * (-7046029254386353131 : Int64))) ^^^ (((q1 + ((q2 + (1 : Int64)) * (-7046029254386353131 : Int64))).toUInt64 >>> ((33 : Int32) &&& 0x3f).toInt64.toUInt64).toInt64)) * (-49064778989728563 : Int64)).toUInt64 >>> ((33 : Int32) &&& 0x3f).toInt64.toUInt64).toInt64)))])) rfl (hb hby d2_33) _ ?_
    show Steps p.tables e below (s₁.setTop (mkF m 36 #[.val (.long q1), .second, .val (.long q2), .second, .val (.long (((q1 + ((q2 + (1 : Int64)) * (-7046029254386353131 : Int64))) ^^^ (((q1 + ((q2 + (1 : Int64)) * (-7046029254386353131 : Int64))).toUInt64 >>> ((33 : Int32) &&& 0x3f).toInt64.toUInt64).toInt64)) * (-49064778989728563 : Int64))), .second] [(.long (-4265267296055464877 : Int64)), (.long ((((q1 + ((q2 + (1 : Int64)) * (-7046029254386353131 : Int64))) ^^^ (((q1 + ((q2 + (1 : Int64)) * (-7046029254386353131 : Int64))).toUInt64 >>> ((33 : Int32) &&& 0x3f).toInt64.toUInt64).toInt64)) * (-49064778989728563 : Int64)) ^^^ (((((q1 + ((q2 + (1 : Int64)) * (-7046029254386353131 : Int64))) ^^^ (((q1 + ((q2 + (1 : Int64)) * (-7046029254386353131 : Int64))).toUInt64 >>> ((33 : Int32) &&& 0x3f).toInt64.toUInt64).toInt64)) * (-49064778989728563 : Int64)).toUInt64 >>> ((33 : Int32) &&& 0x3f).toInt64.toUInt64).toInt64)))])) _
    refine XS.lmul X0.here hx rfl (hb hby d2_36) rfl ?_
    show Steps p.tables e below (s₁.setTop (mkF m 37 #[.val (.long q1), .second, .val (.long q2), .second, .val (.long (((q1 + ((q2 + (1 : Int64)) * (-7046029254386353131 : Int64))) ^^^ (((q1 + ((q2 + (1 : Int64)) * (-7046029254386353131 : Int64))).toUInt64 >>> ((33 : Int32) &&& 0x3f).toInt64.toUInt64).toInt64)) * (-49064778989728563 : Int64))), .second] [(.long (((((q1 + ((q2 + (1 : Int64)) * (-7046029254386353131 : Int64))) ^^^ (((q1 + ((q2 + (1 : Int64)) * (-7046029254386353131 : Int64))).toUInt64 >>> ((33 : Int32) &&& 0x3f).toInt64.toUInt64).toInt64)) * (-49064778989728563 : Int64)) ^^^ (((((q1 + ((q2 + (1 : Int64)) * (-7046029254386353131 : Int64))) ^^^ (((q1 + ((q2 + (1 : Int64)) * (-7046029254386353131 : Int64))).toUInt64 >>> ((33 : Int32) &&& 0x3f).toInt64.toUInt64).toInt64)) * (-49064778989728563 : Int64)).toUInt64 >>> ((33 : Int32) &&& 0x3f).toInt64.toUInt64).toInt64)) * (-4265267296055464877 : Int64)))])) _
    refine XS.lstore X0.here hx rfl (hb hby d2_37) rfl (l' := #[.val (.long q1), .second, .val (.long q2), .second, .val (.long (((((q1 + ((q2 + (1 : Int64)) * (-7046029254386353131 : Int64))) ^^^ (((q1 + ((q2 + (1 : Int64)) * (-7046029254386353131 : Int64))).toUInt64 >>> ((33 : Int32) &&& 0x3f).toInt64.toUInt64).toInt64)) * (-49064778989728563 : Int64)) ^^^ (((((q1 + ((q2 + (1 : Int64)) * (-7046029254386353131 : Int64))) ^^^ (((q1 + ((q2 + (1 : Int64)) * (-7046029254386353131 : Int64))).toUInt64 >>> ((33 : Int32) &&& 0x3f).toInt64.toUInt64).toInt64)) * (-49064778989728563 : Int64)).toUInt64 >>> ((33 : Int32) &&& 0x3f).toInt64.toUInt64).toInt64)) * (-4265267296055464877 : Int64))), .second]) rfl ?_
    show Steps p.tables e below (s₁.setTop (mkF m 39 #[.val (.long q1), .second, .val (.long q2), .second, .val (.long (((((q1 + ((q2 + (1 : Int64)) * (-7046029254386353131 : Int64))) ^^^ (((q1 + ((q2 + (1 : Int64)) * (-7046029254386353131 : Int64))).toUInt64 >>> ((33 : Int32) &&& 0x3f).toInt64.toUInt64).toInt64)) * (-49064778989728563 : Int64)) ^^^ (((((q1 + ((q2 + (1 : Int64)) * (-7046029254386353131 : Int64))) ^^^ (((q1 + ((q2 + (1 : Int64)) * (-7046029254386353131 : Int64))).toUInt64 >>> ((33 : Int32) &&& 0x3f).toInt64.toUInt64).toInt64)) * (-49064778989728563 : Int64)).toUInt64 >>> ((33 : Int32) &&& 0x3f).toInt64.toUInt64).toInt64)) * (-4265267296055464877 : Int64))), .second] [])) _
    refine XS.lload X0.here hx rfl (hb hby d2_39) rfl ?_
    show Steps p.tables e below (s₁.setTop (mkF m 41 #[.val (.long q1), .second, .val (.long q2), .second, .val (.long (((((q1 + ((q2 + (1 : Int64)) * (-7046029254386353131 : Int64))) ^^^ (((q1 + ((q2 + (1 : Int64)) * (-7046029254386353131 : Int64))).toUInt64 >>> ((33 : Int32) &&& 0x3f).toInt64.toUInt64).toInt64)) * (-49064778989728563 : Int64)) ^^^ (((((q1 + ((q2 + (1 : Int64)) * (-7046029254386353131 : Int64))) ^^^ (((q1 + ((q2 + (1 : Int64)) * (-7046029254386353131 : Int64))).toUInt64 >>> ((33 : Int32) &&& 0x3f).toInt64.toUInt64).toInt64)) * (-49064778989728563 : Int64)).toUInt64 >>> ((33 : Int32) &&& 0x3f).toInt64.toUInt64).toInt64)) * (-4265267296055464877 : Int64))), .second] [(.long (((((q1 + ((q2 + (1 : Int64)) * (-7046029254386353131 : Int64))) ^^^ (((q1 + ((q2 + (1 : Int64)) * (-7046029254386353131 : Int64))).toUInt64 >>> ((33 : Int32) &&& 0x3f).toInt64.toUInt64).toInt64)) * (-49064778989728563 : Int64)) ^^^ (((((q1 + ((q2 + (1 : Int64)) * (-7046029254386353131 : Int64))) ^^^ (((q1 + ((q2 + (1 : Int64)) * (-7046029254386353131 : Int64))).toUInt64 >>> ((33 : Int32) &&& 0x3f).toInt64.toUInt64).toInt64)) * (-49064778989728563 : Int64)).toUInt64 >>> ((33 : Int32) &&& 0x3f).toInt64.toUInt64).toInt64)) * (-4265267296055464877 : Int64)))])) _
    refine XS.lload X0.here hx rfl (hb hby d2_41) rfl ?_
    show Steps p.tables e below (s₁.setTop (mkF m 43 #[.val (.long q1), .second, .val (.long q2), .second, .val (.long (((((q1 + ((q2 + (1 : Int64)) * (-7046029254386353131 : Int64))) ^^^ (((q1 + ((q2 + (1 : Int64)) * (-7046029254386353131 : Int64))).toUInt64 >>> ((33 : Int32) &&& 0x3f).toInt64.toUInt64).toInt64)) * (-49064778989728563 : Int64)) ^^^ (((((q1 + ((q2 + (1 : Int64)) * (-7046029254386353131 : Int64))) ^^^ (((q1 + ((q2 + (1 : Int64)) * (-7046029254386353131 : Int64))).toUInt64 >>> ((33 : Int32) &&& 0x3f).toInt64.toUInt64).toInt64)) * (-49064778989728563 : Int64)).toUInt64 >>> ((33 : Int32) &&& 0x3f).toInt64.toUInt64).toInt64)) * (-4265267296055464877 : Int64))), .second] [(.long (((((q1 + ((q2 + (1 : Int64)) * (-7046029254386353131 : Int64))) ^^^ (((q1 + ((q2 + (1 : Int64)) * (-7046029254386353131 : Int64))).toUInt64 >>> ((33 : Int32) &&& 0x3f).toInt64.toUInt64).toInt64)) * (-49064778989728563 : Int64)) ^^^ (((((q1 + ((q2 + (1 : Int64)) * (-7046029254386353131 : Int64))) ^^^ (((q1 + ((q2 + (1 : Int64)) * (-7046029254386353131 : Int64))).toUInt64 >>> ((33 : Int32) &&& 0x3f).toInt64.toUInt64).toInt64)) * (-49064778989728563 : Int64)).toUInt64 >>> ((33 : Int32) &&& 0x3f).toInt64.toUInt64).toInt64)) * (-4265267296055464877 : Int64))), (.long (((((q1 + ((q2 + (1 : Int64)) * (-7046029254386353131 : Int64))) ^^^ (((q1 + ((q2 + (1 : Int64)) * (-7046029254386353131 : Int64))).toUInt64 >>> ((33 : Int32) &&& 0x3f).toInt64.toUInt64).toInt64)) * (-49064778989728563 : Int64)) ^^^ (((((q1 + ((q2 + (1 : Int64)) * (-7046029254386353131 : Int64))) ^^^ (((q1 + ((q2 + (1 : Int64)) * (-7046029254386353131 : Int64))).toUInt64 >>> ((33 : Int32) &&& 0x3f).toInt64.toUInt64).toInt64)) * (-49064778989728563 : Int64)).toUInt64 >>> ((33 : Int32) &&& 0x3f).toInt64.toUInt64).toInt64)) * (-4265267296055464877 : Int64)))])) _
    refine XS.bipush X0.here hx rfl (hb hby d2_43) ?_
    show Steps p.tables e below (s₁.setTop (mkF m 45 #[.val (.long q1), .second, .val (.long q2), .second, .val (.long (((((q1 + ((q2 + (1 : Int64)) * (-7046029254386353131 : Int64))) ^^^ (((q1 + ((q2 + (1 : Int64)) * (-7046029254386353131 : Int64))).toUInt64 >>> ((33 : Int32) &&& 0x3f).toInt64.toUInt64).toInt64)) * (-49064778989728563 : Int64)) ^^^ (((((q1 + ((q2 + (1 : Int64)) * (-7046029254386353131 : Int64))) ^^^ (((q1 + ((q2 + (1 : Int64)) * (-7046029254386353131 : Int64))).toUInt64 >>> ((33 : Int32) &&& 0x3f).toInt64.toUInt64).toInt64)) * (-49064778989728563 : Int64)).toUInt64 >>> ((33 : Int32) &&& 0x3f).toInt64.toUInt64).toInt64)) * (-4265267296055464877 : Int64))), .second] [(.int (33 : Int32)), (.long (((((q1 + ((q2 + (1 : Int64)) * (-7046029254386353131 : Int64))) ^^^ (((q1 + ((q2 + (1 : Int64)) * (-7046029254386353131 : Int64))).toUInt64 >>> ((33 : Int32) &&& 0x3f).toInt64.toUInt64).toInt64)) * (-49064778989728563 : Int64)) ^^^ (((((q1 + ((q2 + (1 : Int64)) * (-7046029254386353131 : Int64))) ^^^ (((q1 + ((q2 + (1 : Int64)) * (-7046029254386353131 : Int64))).toUInt64 >>> ((33 : Int32) &&& 0x3f).toInt64.toUInt64).toInt64)) * (-49064778989728563 : Int64)).toUInt64 >>> ((33 : Int32) &&& 0x3f).toInt64.toUInt64).toInt64)) * (-4265267296055464877 : Int64))), (.long (((((q1 + ((q2 + (1 : Int64)) * (-7046029254386353131 : Int64))) ^^^ (((q1 + ((q2 + (1 : Int64)) * (-7046029254386353131 : Int64))).toUInt64 >>> ((33 : Int32) &&& 0x3f).toInt64.toUInt64).toInt64)) * (-49064778989728563 : Int64)) ^^^ (((((q1 + ((q2 + (1 : Int64)) * (-7046029254386353131 : Int64))) ^^^ (((q1 + ((q2 + (1 : Int64)) * (-7046029254386353131 : Int64))).toUInt64 >>> ((33 : Int32) &&& 0x3f).toInt64.toUInt64).toInt64)) * (-49064778989728563 : Int64)).toUInt64 >>> ((33 : Int32) &&& 0x3f).toInt64.toUInt64).toInt64)) * (-4265267296055464877 : Int64)))])) _
    refine XS.lushr X0.here hx rfl (hb hby d2_45) rfl ?_
    show Steps p.tables e below (s₁.setTop (mkF m 46 #[.val (.long q1), .second, .val (.long q2), .second, .val (.long (((((q1 + ((q2 + (1 : Int64)) * (-7046029254386353131 : Int64))) ^^^ (((q1 + ((q2 + (1 : Int64)) * (-7046029254386353131 : Int64))).toUInt64 >>> ((33 : Int32) &&& 0x3f).toInt64.toUInt64).toInt64)) * (-49064778989728563 : Int64)) ^^^ (((((q1 + ((q2 + (1 : Int64)) * (-7046029254386353131 : Int64))) ^^^ (((q1 + ((q2 + (1 : Int64)) * (-7046029254386353131 : Int64))).toUInt64 >>> ((33 : Int32) &&& 0x3f).toInt64.toUInt64).toInt64)) * (-49064778989728563 : Int64)).toUInt64 >>> ((33 : Int32) &&& 0x3f).toInt64.toUInt64).toInt64)) * (-4265267296055464877 : Int64))), .second] [(.long (((((((q1 + ((q2 + (1 : Int64)) * (-7046029254386353131 : Int64))) ^^^ (((q1 + ((q2 + (1 : Int64)) * (-7046029254386353131 : Int64))).toUInt64 >>> ((33 : Int32) &&& 0x3f).toInt64.toUInt64).toInt64)) * (-49064778989728563 : Int64)) ^^^ (((((q1 + ((q2 + (1 : Int64)) * (-7046029254386353131 : Int64))) ^^^ (((q1 + ((q2 + (1 : Int64)) * (-7046029254386353131 : Int64))).toUInt64 >>> ((33 : Int32) &&& 0x3f).toInt64.toUInt64).toInt64)) * (-49064778989728563 : Int64)).toUInt64 >>> ((33 : Int32) &&& 0x3f).toInt64.toUInt64).toInt64)) * (-4265267296055464877 : Int64)).toUInt64 >>> ((33 : Int32) &&& 0x3f).toInt64.toUInt64).toInt64)), (.long (((((q1 + ((q2 + (1 : Int64)) * (-7046029254386353131 : Int64))) ^^^ (((q1 + ((q2 + (1 : Int64)) * (-7046029254386353131 : Int64))).toUInt64 >>> ((33 : Int32) &&& 0x3f).toInt64.toUInt64).toInt64)) * (-49064778989728563 : Int64)) ^^^ (((((q1 + ((q2 + (1 : Int64)) * (-7046029254386353131 : Int64))) ^^^ (((q1 + ((q2 + (1 : Int64)) * (-7046029254386353131 : Int64))).toUInt64 >>> ((33 : Int32) &&& 0x3f).toInt64.toUInt64).toInt64)) * (-49064778989728563 : Int64)).toUInt64 >>> ((33 : Int32) &&& 0x3f).toInt64.toUInt64).toInt64)) * (-4265267296055464877 : Int64)))])) _
    refine XS.lxor X0.here hx rfl (hb hby d2_46) rfl ?_
    show Steps p.tables e below (s₁.setTop (mkF m 47 #[.val (.long q1), .second, .val (.long q2), .second, .val (.long (((((q1 + ((q2 + (1 : Int64)) * (-7046029254386353131 : Int64))) ^^^ (((q1 + ((q2 + (1 : Int64)) * (-7046029254386353131 : Int64))).toUInt64 >>> ((33 : Int32) &&& 0x3f).toInt64.toUInt64).toInt64)) * (-49064778989728563 : Int64)) ^^^ (((((q1 + ((q2 + (1 : Int64)) * (-7046029254386353131 : Int64))) ^^^ (((q1 + ((q2 + (1 : Int64)) * (-7046029254386353131 : Int64))).toUInt64 >>> ((33 : Int32) &&& 0x3f).toInt64.toUInt64).toInt64)) * (-49064778989728563 : Int64)).toUInt64 >>> ((33 : Int32) &&& 0x3f).toInt64.toUInt64).toInt64)) * (-4265267296055464877 : Int64))), .second] [(.long ((((((q1 + ((q2 + (1 : Int64)) * (-7046029254386353131 : Int64))) ^^^ (((q1 + ((q2 + (1 : Int64)) * (-7046029254386353131 : Int64))).toUInt64 >>> ((33 : Int32) &&& 0x3f).toInt64.toUInt64).toInt64)) * (-49064778989728563 : Int64)) ^^^ (((((q1 + ((q2 + (1 : Int64)) * (-7046029254386353131 : Int64))) ^^^ (((q1 + ((q2 + (1 : Int64)) * (-7046029254386353131 : Int64))).toUInt64 >>> ((33 : Int32) &&& 0x3f).toInt64.toUInt64).toInt64)) * (-49064778989728563 : Int64)).toUInt64 >>> ((33 : Int32) &&& 0x3f).toInt64.toUInt64).toInt64)) * (-4265267296055464877 : Int64)) ^^^ (((((((q1 + ((q2 + (1 : Int64)) * (-7046029254386353131 : Int64))) ^^^ (((q1 + ((q2 + (1 : Int64)) * (-7046029254386353131 : Int64))).toUInt64 >>> ((33 : Int32) &&& 0x3f).toInt64.toUInt64).toInt64)) * (-49064778989728563 : Int64)) ^^^ (((((q1 + ((q2 + (1 : Int64)) * (-7046029254386353131 : Int64))) ^^^ (((q1 + ((q2 + (1 : Int64)) * (-7046029254386353131 : Int64))).toUInt64 >>> ((33 : Int32) &&& 0x3f).toInt64.toUInt64).toInt64)) * (-49064778989728563 : Int64)).toUInt64 >>> ((33 : Int32) &&& 0x3f).toInt64.toUInt64).toInt64)) * (-4265267296055464877 : Int64)).toUInt64 >>> ((33 : Int32) &&& 0x3f).toInt64.toUInt64).toInt64)))])) _
    exact X0.lreturnOut hx Bd.returns (hb hby d2_47) hr
  · show Q2 Z q1 q2 h0 n0 _ s₁.heap _
    rw [e0]
    exact ⟨by rw [f2], N0, rfl⟩
theorem d3_0 : decode method_2_code 0 = .ok (.lload_n 0, 1) := by decide +kernel
theorem d3_1 : decode method_2_code 1 = .ok (.lload_n 0, 1) := by decide +kernel
theorem d3_2 : decode method_2_code 2 = .ok (.bipush 33, 2) := by decide +kernel
theorem d3_4 : decode method_2_code 4 = .ok (.lushr, 1) := by decide +kernel
theorem d3_5 : decode method_2_code 5 = .ok (.lxor, 1) := by decide +kernel
theorem d3_6 : decode method_2_code 6 = .ok (.lstore_n 0, 1) := by decide +kernel
theorem d3_7 : decode method_2_code 7 = .ok (.lload_n 0, 1) := by decide +kernel
theorem d3_8 : decode method_2_code 8 = .ok (.ldc2_w 7, 3) := by decide +kernel
theorem d3_11 : decode method_2_code 11 = .ok (.lmul, 1) := by decide +kernel
theorem d3_12 : decode method_2_code 12 = .ok (.lstore_n 0, 1) := by decide +kernel
theorem d3_13 : decode method_2_code 13 = .ok (.lload_n 0, 1) := by decide +kernel
theorem d3_14 : decode method_2_code 14 = .ok (.lload_n 0, 1) := by decide +kernel
theorem d3_15 : decode method_2_code 15 = .ok (.bipush 33, 2) := by decide +kernel
theorem d3_17 : decode method_2_code 17 = .ok (.lushr, 1) := by decide +kernel
theorem d3_18 : decode method_2_code 18 = .ok (.lxor, 1) := by decide +kernel
theorem d3_19 : decode method_2_code 19 = .ok (.lstore_n 0, 1) := by decide +kernel
theorem d3_20 : decode method_2_code 20 = .ok (.lload_n 0, 1) := by decide +kernel
theorem d3_21 : decode method_2_code 21 = .ok (.ldc2_w 9, 3) := by decide +kernel
theorem d3_24 : decode method_2_code 24 = .ok (.lmul, 1) := by decide +kernel
theorem d3_25 : decode method_2_code 25 = .ok (.lstore_n 0, 1) := by decide +kernel
theorem d3_26 : decode method_2_code 26 = .ok (.lload_n 0, 1) := by decide +kernel
theorem d3_27 : decode method_2_code 27 = .ok (.lload_n 0, 1) := by decide +kernel
theorem d3_28 : decode method_2_code 28 = .ok (.bipush 33, 2) := by decide +kernel
theorem d3_30 : decode method_2_code 30 = .ok (.lushr, 1) := by decide +kernel
theorem d3_31 : decode method_2_code 31 = .ok (.lxor, 1) := by decide +kernel
theorem d3_32 : decode method_2_code 32 = .ok (.lstore_n 0, 1) := by decide +kernel
theorem d3_33 : decode method_2_code 33 = .ok (.lload_n 0, 1) := by decide +kernel
theorem d3_34 : decode method_2_code 34 = .ok (.lreturn, 1) := by decide +kernel
theorem pn_3 : plainName "dev/shoalmap/workload/KeySetLowPinLaw" = true := by first | (simp [plainName, overriddenIn]; done) | decide +kernel
theorem ef_3 (m : MethodId) (x0 : Int64) : entryFrame m #[(.long x0)] 2 = mkF m 0 #[.val (.long x0), .second] [] := by first | (simp [entryFrame, mkF, argsToLocals, Value.category]; done) | rfl

def f3 (q1 : Int64) : Int64 := (((((q1 ^^^ ((q1.toUInt64 >>> ((33 : Int32) &&& 0x3f).toInt64.toUInt64).toInt64)) * (-49064778989728563 : Int64)) ^^^ ((((q1 ^^^ ((q1.toUInt64 >>> ((33 : Int32) &&& 0x3f).toInt64.toUInt64).toInt64)) * (-49064778989728563 : Int64)).toUInt64 >>> ((33 : Int32) &&& 0x3f).toInt64.toUInt64).toInt64)) * (-4265267296055464877 : Int64)) ^^^ ((((((q1 ^^^ ((q1.toUInt64 >>> ((33 : Int32) &&& 0x3f).toInt64.toUInt64).toInt64)) * (-49064778989728563 : Int64)) ^^^ ((((q1 ^^^ ((q1.toUInt64 >>> ((33 : Int32) &&& 0x3f).toInt64.toUInt64).toInt64)) * (-49064778989728563 : Int64)).toUInt64 >>> ((33 : Int32) &&& 0x3f).toInt64.toUInt64).toInt64)) * (-4265267296055464877 : Int64)).toUInt64 >>> ((33 : Int32) &&& 0x3f).toInt64.toUInt64).toInt64))
def Q3 (Z : State) (q1 : Int64) (h0 : Heap) (n0 : Nat) (v : Option Value) (h : Heap) (L : List Loc) : Prop := v = some (.long (f3 q1)) ∧ Fr n0 L ∧ h = h0
set_option maxRecDepth 65536 in
set_option maxHeartbeats 40000000 in
theorem rm3 (l : Launch) (Z : State) (a0 : Array Value) (hw : ∀ d ∈ tables_1, d.before a0 Z = true) (ws : List Jvm.Cond) (q1 : Int64) (h0 : Heap) (n0 : Nat) (Z0 : n0 ≤ h0.size) :
    MetFree l (⟨"dev/shoalmap/workload/KeySetLowPinLaw", "fmix64", "(J)J"⟩ : MethodName) (head1 (Jvm.Cond.code (⟨"dev/shoalmap/workload/KeySetLowPinLaw", "fmix64", "(J)J"⟩ : MethodName) method_2_code 2 (some .long) :: ws) ({ frames := 0, cells := 0, slots := 0, locals := 0 } : Room)) (fun a U => a = #[(.long q1)] ∧ Z.Warmed39 U.vm ∧ U.heap = h0) (fun _ _ _ _ _ => True) (fun _ U o U' => ∃ v L, o = .returned v ∧ Q3 Z q1 h0 n0 v U'.heap L ∧ FrameEnd U o U' L ({ frames := 0, cells := 0, slots := 0, locals := 0 } : Room).cells ({ frames := 0, cells := 0, slots := 0, locals := 0 } : Room).slots) := by
  refine MetFree.of_bodySF (plainFor_of_name pn_3) hisR ?_
  intro p e s m args below meth c s₁ Bd hml0 hP hK
  obtain ⟨rfl, hZ, hh⟩ := hP
  have hx := Bd.exec
  have hby := Bd.bytes
  have hml : c.maxLocals = 2 := hml0
  have hown : s.vm.findClass "dev/shoalmap/workload/KeySetLowPinLaw" = some m.cls := findClass_of_methodNamed Bd.named
  have hnm := (name_of_methodNamed Bd.named Bd.method).1
  have X0 : Stand p l e ({ frames := 0, cells := 0, slots := 0, locals := 0 } : Room) s m #[(.long q1)] below meth c s₁ [] 0 0 := Stand.of_body Bd
  have e0 : s₁.heap = h0 := by rw [← hh, Bd.state]; rfl
  have N0 := Fr.nil n0
  have pre0 : ∀ t, Steps p.tables e below (s₁.setTop (mkF m 0 #[.val (.long q1), .second] [])) t → Steps p.tables e below (s₁.setTop (entryFrame m #[(.long q1)] 2)) t := fun t k => castTop (ef_3 m q1) k
  obtain ⟨fs, hr, hrun, hended, hW, hsame⟩ := X0.leave (v := some (.long (((((q1 ^^^ ((q1.toUInt64 >>> ((33 : Int32) &&& 0x3f).toInt64.toUInt64).toInt64)) * (-49064778989728563 : Int64)) ^^^ ((((q1 ^^^ ((q1.toUInt64 >>> ((33 : Int32) &&& 0x3f).toInt64.toUInt64).toInt64)) * (-49064778989728563 : Int64)).toUInt64 >>> ((33 : Int32) &&& 0x3f).toInt64.toUInt64).toInt64)) * (-4265267296055464877 : Int64)) ^^^ ((((((q1 ^^^ ((q1.toUInt64 >>> ((33 : Int32) &&& 0x3f).toInt64.toUInt64).toInt64)) * (-49064778989728563 : Int64)) ^^^ ((((q1 ^^^ ((q1.toUInt64 >>> ((33 : Int32) &&& 0x3f).toInt64.toUInt64).toInt64)) * (-49064778989728563 : Int64)).toUInt64 >>> ((33 : Int32) &&& 0x3f).toInt64.toUInt64).toInt64)) * (-4265267296055464877 : Int64)).toUInt64 >>> ((33 : Int32) &&& 0x3f).toInt64.toUInt64).toInt64)))) (fun h => by rw [Bd.returns] at h; cases h)
  refine ⟨_, _, pre0 _ ?_, hrun, hended, _, _, rfl, ?_, ⟨_, rfl⟩, hW, hsame.mono (by decide) (by decide)⟩
  · show Steps p.tables e below (s₁.setTop (mkF m 0 #[.val (.long q1), .second] [])) _
    refine XS.lloadN X0.here hx rfl (hb hby d3_0) rfl ?_
    show Steps p.tables e below (s₁.setTop (mkF m 1 #[.val (.long q1), .second] [(.long q1)])) _
    refine XS.lloadN X0.here hx rfl (hb hby d3_1) rfl ?_
    show Steps p.tables e below (s₁.setTop (mkF m 2 #[.val (.long q1), .second] [(.long q1), (.long q1)])) _
    refine XS.bipush X0.here hx rfl (hb hby d3_2) ?_
    show Steps p.tables e below (s₁.setTop (mkF m 4 #[.val (.long q1), .second] [(.int (33 : Int32)), (.long q1), (.long q1)])) _
    refine XS.lushr X0.here hx rfl (hb hby d3_4) rfl ?_
    show Steps p.tables e below (s₁.setTop (mkF m 5 #[.val (.long q1), .second] [(.long ((q1.toUInt64 >>> ((33 : Int32) &&& 0x3f).toInt64.toUInt64).toInt64)), (.long q1)])) _
    refine XS.lxor X0.here hx rfl (hb hby d3_5) rfl ?_
    show Steps p.tables e below (s₁.setTop (mkF m 6 #[.val (.long q1), .second] [(.long (q1 ^^^ ((q1.toUInt64 >>> ((33 : Int32) &&& 0x3f).toInt64.toUInt64).toInt64)))])) _
    refine XS.lstoreN X0.here hx rfl (hb hby d3_6) rfl (l' := #[.val (.long (q1 ^^^ ((q1.toUInt64 >>> ((33 : Int32) &&& 0x3f).toInt64.toUInt64).toInt64))), .second]) rfl ?_
    show Steps p.tables e below (s₁.setTop (mkF m 7 #[.val (.long (q1 ^^^ ((q1.toUInt64 >>> ((33 : Int32) &&& 0x3f).toInt64.toUInt64).toInt64))), .second] [])) _
    refine XS.lloadN X0.here hx rfl (hb hby d3_7) rfl ?_
    show Steps p.tables e below (s₁.setTop (mkF m 8 #[.val (.long (q1 ^^^ ((q1.toUInt64 >>> ((33 : Int32) &&& 0x3f).toInt64.toUInt64).toInt64))), .second] [(.long (q1 ^^^ ((q1.toUInt64 >>> ((33 : Int32) &&& 0x3f).toInt64.toUInt64).toInt64)))])) _
    refine X0.ldc2Long hx hown (mvT hZ (hw _ (List.mem_of_getElem? (i := 16) rfl))) (g := (mkF m 8 #[.val (.long (q1 ^^^ ((q1.toUInt64 >>> ((33 : Int32) &&& 0x3f).toInt64.toUInt64).toInt64))), .second] [(.long (q1 ^^^ ((q1.toUInt64 >>> ((33 : Int32) &&& 0x3f).toInt64.toUInt64).toInt64)))])) rfl (hb hby d3_8) _ ?_
    show Steps p.tables e below (s₁.setTop (mkF m 11 #[.val (.long (q1 ^^^ ((q1.toUInt64 >>> ((33 : Int32) &&& 0x3f).toInt64.toUInt64).toInt64))), .second] [(.long (-49064778989728563 : Int64)), (.long (q1 ^^^ ((q1.toUInt64 >>> ((33 : Int32) &&& 0x3f).toInt64.toUInt64).toInt64)))])) _
    refine XS.lmul X0.here hx rfl (hb hby d3_11) rfl ?_
    show Steps p.tables e below (s₁.setTop (mkF m 12 #[.val (.long (q1 ^^^ ((q1.toUInt64 >>> ((33 : Int32) &&& 0x3f).toInt64.toUInt64).toInt64))), .second] [(.long ((q1 ^^^ ((q1.toUInt64 >>> ((33 : Int32) &&& 0x3f).toInt64.toUInt64).toInt64)) * (-49064778989728563 : Int64)))])) _
    refine XS.lstoreN X0.here hx rfl (hb hby d3_12) rfl (l' := #[.val (.long ((q1 ^^^ ((q1.toUInt64 >>> ((33 : Int32) &&& 0x3f).toInt64.toUInt64).toInt64)) * (-49064778989728563 : Int64))), .second]) rfl ?_
    show Steps p.tables e below (s₁.setTop (mkF m 13 #[.val (.long ((q1 ^^^ ((q1.toUInt64 >>> ((33 : Int32) &&& 0x3f).toInt64.toUInt64).toInt64)) * (-49064778989728563 : Int64))), .second] [])) _
    refine XS.lloadN X0.here hx rfl (hb hby d3_13) rfl ?_
    show Steps p.tables e below (s₁.setTop (mkF m 14 #[.val (.long ((q1 ^^^ ((q1.toUInt64 >>> ((33 : Int32) &&& 0x3f).toInt64.toUInt64).toInt64)) * (-49064778989728563 : Int64))), .second] [(.long ((q1 ^^^ ((q1.toUInt64 >>> ((33 : Int32) &&& 0x3f).toInt64.toUInt64).toInt64)) * (-49064778989728563 : Int64)))])) _
    refine XS.lloadN X0.here hx rfl (hb hby d3_14) rfl ?_
    show Steps p.tables e below (s₁.setTop (mkF m 15 #[.val (.long ((q1 ^^^ ((q1.toUInt64 >>> ((33 : Int32) &&& 0x3f).toInt64.toUInt64).toInt64)) * (-49064778989728563 : Int64))), .second] [(.long ((q1 ^^^ ((q1.toUInt64 >>> ((33 : Int32) &&& 0x3f).toInt64.toUInt64).toInt64)) * (-49064778989728563 : Int64))), (.long ((q1 ^^^ ((q1.toUInt64 >>> ((33 : Int32) &&& 0x3f).toInt64.toUInt64).toInt64)) * (-49064778989728563 : Int64)))])) _
    refine XS.bipush X0.here hx rfl (hb hby d3_15) ?_
    show Steps p.tables e below (s₁.setTop (mkF m 17 #[.val (.long ((q1 ^^^ ((q1.toUInt64 >>> ((33 : Int32) &&& 0x3f).toInt64.toUInt64).toInt64)) * (-49064778989728563 : Int64))), .second] [(.int (33 : Int32)), (.long ((q1 ^^^ ((q1.toUInt64 >>> ((33 : Int32) &&& 0x3f).toInt64.toUInt64).toInt64)) * (-49064778989728563 : Int64))), (.long ((q1 ^^^ ((q1.toUInt64 >>> ((33 : Int32) &&& 0x3f).toInt64.toUInt64).toInt64)) * (-49064778989728563 : Int64)))])) _
    refine XS.lushr X0.here hx rfl (hb hby d3_17) rfl ?_
    show Steps p.tables e below (s₁.setTop (mkF m 18 #[.val (.long ((q1 ^^^ ((q1.toUInt64 >>> ((33 : Int32) &&& 0x3f).toInt64.toUInt64).toInt64)) * (-49064778989728563 : Int64))), .second] [(.long ((((q1 ^^^ ((q1.toUInt64 >>> ((33 : Int32) &&& 0x3f).toInt64.toUInt64).toInt64)) * (-49064778989728563 : Int64)).toUInt64 >>> ((33 : Int32) &&& 0x3f).toInt64.toUInt64).toInt64)), (.long ((q1 ^^^ ((q1.toUInt64 >>> ((33 : Int32) &&& 0x3f).toInt64.toUInt64).toInt64)) * (-49064778989728563 : Int64)))])) _
    refine XS.lxor X0.here hx rfl (hb hby d3_18) rfl ?_
    show Steps p.tables e below (s₁.setTop (mkF m 19 #[.val (.long ((q1 ^^^ ((q1.toUInt64 >>> ((33 : Int32) &&& 0x3f).toInt64.toUInt64).toInt64)) * (-49064778989728563 : Int64))), .second] [(.long (((q1 ^^^ ((q1.toUInt64 >>> ((33 : Int32) &&& 0x3f).toInt64.toUInt64).toInt64)) * (-49064778989728563 : Int64)) ^^^ ((((q1 ^^^ ((q1.toUInt64 >>> ((33 : Int32) &&& 0x3f).toInt64.toUInt64).toInt64)) * (-49064778989728563 : Int64)).toUInt64 >>> ((33 : Int32) &&& 0x3f).toInt64.toUInt64).toInt64)))])) _
    refine XS.lstoreN X0.here hx rfl (hb hby d3_19) rfl (l' := #[.val (.long (((q1 ^^^ ((q1.toUInt64 >>> ((33 : Int32) &&& 0x3f).toInt64.toUInt64).toInt64)) * (-49064778989728563 : Int64)) ^^^ ((((q1 ^^^ ((q1.toUInt64 >>> ((33 : Int32) &&& 0x3f).toInt64.toUInt64).toInt64)) * (-49064778989728563 : Int64)).toUInt64 >>> ((33 : Int32) &&& 0x3f).toInt64.toUInt64).toInt64))), .second]) rfl ?_
    show Steps p.tables e below (s₁.setTop (mkF m 20 #[.val (.long (((q1 ^^^ ((q1.toUInt64 >>> ((33 : Int32) &&& 0x3f).toInt64.toUInt64).toInt64)) * (-49064778989728563 : Int64)) ^^^ ((((q1 ^^^ ((q1.toUInt64 >>> ((33 : Int32) &&& 0x3f).toInt64.toUInt64).toInt64)) * (-49064778989728563 : Int64)).toUInt64 >>> ((33 : Int32) &&& 0x3f).toInt64.toUInt64).toInt64))), .second] [])) _
    refine XS.lloadN X0.here hx rfl (hb hby d3_20) rfl ?_
    show Steps p.tables e below (s₁.setTop (mkF m 21 #[.val (.long (((q1 ^^^ ((q1.toUInt64 >>> ((33 : Int32) &&& 0x3f).toInt64.toUInt64).toInt64)) * (-49064778989728563 : Int64)) ^^^ ((((q1 ^^^ ((q1.toUInt64 >>> ((33 : Int32) &&& 0x3f).toInt64.toUInt64).toInt64)) * (-49064778989728563 : Int64)).toUInt64 >>> ((33 : Int32) &&& 0x3f).toInt64.toUInt64).toInt64))), .second] [(.long (((q1 ^^^ ((q1.toUInt64 >>> ((33 : Int32) &&& 0x3f).toInt64.toUInt64).toInt64)) * (-49064778989728563 : Int64)) ^^^ ((((q1 ^^^ ((q1.toUInt64 >>> ((33 : Int32) &&& 0x3f).toInt64.toUInt64).toInt64)) * (-49064778989728563 : Int64)).toUInt64 >>> ((33 : Int32) &&& 0x3f).toInt64.toUInt64).toInt64)))])) _
    refine X0.ldc2Long hx hown (mvT hZ (hw _ (List.mem_of_getElem? (i := 17) rfl))) (g := (mkF m 21 #[.val (.long (((q1 ^^^ ((q1.toUInt64 >>> ((33 : Int32) &&& 0x3f).toInt64.toUInt64).toInt64)) * (-49064778989728563 : Int64)) ^^^ ((((q1 ^^^ ((q1.toUInt64 >>> ((33 : Int32) &&& 0x3f).toInt64.toUInt64).toInt64)) * (-49064778989728563 : Int64)).toUInt64 >>> ((33 : Int32) &&& 0x3f).toInt64.toUInt64).toInt64))), .second] [(.long (((q1 ^^^ ((q1.toUInt64 >>> ((33 : Int32) &&& 0x3f).toInt64.toUInt64).toInt64)) * (-49064778989728563 : Int64)) ^^^ ((((q1 ^^^ ((q1.toUInt64 >>> ((33 : Int32) &&& 0x3f).toInt64.toUInt64).toInt64)) * (-49064778989728563 : Int64)).toUInt64 >>> ((33 : Int32) &&& 0x3f).toInt64.toUInt64).toInt64)))])) rfl (hb hby d3_21) _ ?_
    show Steps p.tables e below (s₁.setTop (mkF m 24 #[.val (.long (((q1 ^^^ ((q1.toUInt64 >>> ((33 : Int32) &&& 0x3f).toInt64.toUInt64).toInt64)) * (-49064778989728563 : Int64)) ^^^ ((((q1 ^^^ ((q1.toUInt64 >>> ((33 : Int32) &&& 0x3f).toInt64.toUInt64).toInt64)) * (-49064778989728563 : Int64)).toUInt64 >>> ((33 : Int32) &&& 0x3f).toInt64.toUInt64).toInt64))), .second] [(.long (-4265267296055464877 : Int64)), (.long (((q1 ^^^ ((q1.toUInt64 >>> ((33 : Int32) &&& 0x3f).toInt64.toUInt64).toInt64)) * (-49064778989728563 : Int64)) ^^^ ((((q1 ^^^ ((q1.toUInt64 >>> ((33 : Int32) &&& 0x3f).toInt64.toUInt64).toInt64)) * (-49064778989728563 : Int64)).toUInt64 >>> ((33 : Int32) &&& 0x3f).toInt64.toUInt64).toInt64)))])) _
    refine XS.lmul X0.here hx rfl (hb hby d3_24) rfl ?_
    show Steps p.tables e below (s₁.setTop (mkF m 25 #[.val (.long (((q1 ^^^ ((q1.toUInt64 >>> ((33 : Int32) &&& 0x3f).toInt64.toUInt64).toInt64)) * (-49064778989728563 : Int64)) ^^^ ((((q1 ^^^ ((q1.toUInt64 >>> ((33 : Int32) &&& 0x3f).toInt64.toUInt64).toInt64)) * (-49064778989728563 : Int64)).toUInt64 >>> ((33 : Int32) &&& 0x3f).toInt64.toUInt64).toInt64))), .second] [(.long ((((q1 ^^^ ((q1.toUInt64 >>> ((33 : Int32) &&& 0x3f).toInt64.toUInt64).toInt64)) * (-49064778989728563 : Int64)) ^^^ ((((q1 ^^^ ((q1.toUInt64 >>> ((33 : Int32) &&& 0x3f).toInt64.toUInt64).toInt64)) * (-49064778989728563 : Int64)).toUInt64 >>> ((33 : Int32) &&& 0x3f).toInt64.toUInt64).toInt64)) * (-4265267296055464877 : Int64)))])) _
    refine XS.lstoreN X0.here hx rfl (hb hby d3_25) rfl (l' := #[.val (.long ((((q1 ^^^ ((q1.toUInt64 >>> ((33 : Int32) &&& 0x3f).toInt64.toUInt64).toInt64)) * (-49064778989728563 : Int64)) ^^^ ((((q1 ^^^ ((q1.toUInt64 >>> ((33 : Int32) &&& 0x3f).toInt64.toUInt64).toInt64)) * (-49064778989728563 : Int64)).toUInt64 >>> ((33 : Int32) &&& 0x3f).toInt64.toUInt64).toInt64)) * (-4265267296055464877 : Int64))), .second]) rfl ?_
    show Steps p.tables e below (s₁.setTop (mkF m 26 #[.val (.long ((((q1 ^^^ ((q1.toUInt64 >>> ((33 : Int32) &&& 0x3f).toInt64.toUInt64).toInt64)) * (-49064778989728563 : Int64)) ^^^ ((((q1 ^^^ ((q1.toUInt64 >>> ((33 : Int32) &&& 0x3f).toInt64.toUInt64).toInt64)) * (-49064778989728563 : Int64)).toUInt64 >>> ((33 : Int32) &&& 0x3f).toInt64.toUInt64).toInt64)) * (-4265267296055464877 : Int64))), .second] [])) _
    refine XS.lloadN X0.here hx rfl (hb hby d3_26) rfl ?_
    show Steps p.tables e below (s₁.setTop (mkF m 27 #[.val (.long ((((q1 ^^^ ((q1.toUInt64 >>> ((33 : Int32) &&& 0x3f).toInt64.toUInt64).toInt64)) * (-49064778989728563 : Int64)) ^^^ ((((q1 ^^^ ((q1.toUInt64 >>> ((33 : Int32) &&& 0x3f).toInt64.toUInt64).toInt64)) * (-49064778989728563 : Int64)).toUInt64 >>> ((33 : Int32) &&& 0x3f).toInt64.toUInt64).toInt64)) * (-4265267296055464877 : Int64))), .second] [(.long ((((q1 ^^^ ((q1.toUInt64 >>> ((33 : Int32) &&& 0x3f).toInt64.toUInt64).toInt64)) * (-49064778989728563 : Int64)) ^^^ ((((q1 ^^^ ((q1.toUInt64 >>> ((33 : Int32) &&& 0x3f).toInt64.toUInt64).toInt64)) * (-49064778989728563 : Int64)).toUInt64 >>> ((33 : Int32) &&& 0x3f).toInt64.toUInt64).toInt64)) * (-4265267296055464877 : Int64)))])) _
    refine XS.lloadN X0.here hx rfl (hb hby d3_27) rfl ?_
    show Steps p.tables e below (s₁.setTop (mkF m 28 #[.val (.long ((((q1 ^^^ ((q1.toUInt64 >>> ((33 : Int32) &&& 0x3f).toInt64.toUInt64).toInt64)) * (-49064778989728563 : Int64)) ^^^ ((((q1 ^^^ ((q1.toUInt64 >>> ((33 : Int32) &&& 0x3f).toInt64.toUInt64).toInt64)) * (-49064778989728563 : Int64)).toUInt64 >>> ((33 : Int32) &&& 0x3f).toInt64.toUInt64).toInt64)) * (-4265267296055464877 : Int64))), .second] [(.long ((((q1 ^^^ ((q1.toUInt64 >>> ((33 : Int32) &&& 0x3f).toInt64.toUInt64).toInt64)) * (-49064778989728563 : Int64)) ^^^ ((((q1 ^^^ ((q1.toUInt64 >>> ((33 : Int32) &&& 0x3f).toInt64.toUInt64).toInt64)) * (-49064778989728563 : Int64)).toUInt64 >>> ((33 : Int32) &&& 0x3f).toInt64.toUInt64).toInt64)) * (-4265267296055464877 : Int64))), (.long ((((q1 ^^^ ((q1.toUInt64 >>> ((33 : Int32) &&& 0x3f).toInt64.toUInt64).toInt64)) * (-49064778989728563 : Int64)) ^^^ ((((q1 ^^^ ((q1.toUInt64 >>> ((33 : Int32) &&& 0x3f).toInt64.toUInt64).toInt64)) * (-49064778989728563 : Int64)).toUInt64 >>> ((33 : Int32) &&& 0x3f).toInt64.toUInt64).toInt64)) * (-4265267296055464877 : Int64)))])) _
    refine XS.bipush X0.here hx rfl (hb hby d3_28) ?_
    show Steps p.tables e below (s₁.setTop (mkF m 30 #[.val (.long ((((q1 ^^^ ((q1.toUInt64 >>> ((33 : Int32) &&& 0x3f).toInt64.toUInt64).toInt64)) * (-49064778989728563 : Int64)) ^^^ ((((q1 ^^^ ((q1.toUInt64 >>> ((33 : Int32) &&& 0x3f).toInt64.toUInt64).toInt64)) * (-49064778989728563 : Int64)).toUInt64 >>> ((33 : Int32) &&& 0x3f).toInt64.toUInt64).toInt64)) * (-4265267296055464877 : Int64))), .second] [(.int (33 : Int32)), (.long ((((q1 ^^^ ((q1.toUInt64 >>> ((33 : Int32) &&& 0x3f).toInt64.toUInt64).toInt64)) * (-49064778989728563 : Int64)) ^^^ ((((q1 ^^^ ((q1.toUInt64 >>> ((33 : Int32) &&& 0x3f).toInt64.toUInt64).toInt64)) * (-49064778989728563 : Int64)).toUInt64 >>> ((33 : Int32) &&& 0x3f).toInt64.toUInt64).toInt64)) * (-4265267296055464877 : Int64))), (.long ((((q1 ^^^ ((q1.toUInt64 >>> ((33 : Int32) &&& 0x3f).toInt64.toUInt64).toInt64)) * (-49064778989728563 : Int64)) ^^^ ((((q1 ^^^ ((q1.toUInt64 >>> ((33 : Int32) &&& 0x3f).toInt64.toUInt64).toInt64)) * (-49064778989728563 : Int64)).toUInt64 >>> ((33 : Int32) &&& 0x3f).toInt64.toUInt64).toInt64)) * (-4265267296055464877 : Int64)))])) _
    refine XS.lushr X0.here hx rfl (hb hby d3_30) rfl ?_
    show Steps p.tables e below (s₁.setTop (mkF m 31 #[.val (.long ((((q1 ^^^ ((q1.toUInt64 >>> ((33 : Int32) &&& 0x3f).toInt64.toUInt64).toInt64)) * (-49064778989728563 : Int64)) ^^^ ((((q1 ^^^ ((q1.toUInt64 >>> ((33 : Int32) &&& 0x3f).toInt64.toUInt64).toInt64)) * (-49064778989728563 : Int64)).toUInt64 >>> ((33 : Int32) &&& 0x3f).toInt64.toUInt64).toInt64)) * (-4265267296055464877 : Int64))), .second] [(.long ((((((q1 ^^^ ((q1.toUInt64 >>> ((33 : Int32) &&& 0x3f).toInt64.toUInt64).toInt64)) * (-49064778989728563 : Int64)) ^^^ ((((q1 ^^^ ((q1.toUInt64 >>> ((33 : Int32) &&& 0x3f).toInt64.toUInt64).toInt64)) * (-49064778989728563 : Int64)).toUInt64 >>> ((33 : Int32) &&& 0x3f).toInt64.toUInt64).toInt64)) * (-4265267296055464877 : Int64)).toUInt64 >>> ((33 : Int32) &&& 0x3f).toInt64.toUInt64).toInt64)), (.long ((((q1 ^^^ ((q1.toUInt64 >>> ((33 : Int32) &&& 0x3f).toInt64.toUInt64).toInt64)) * (-49064778989728563 : Int64)) ^^^ ((((q1 ^^^ ((q1.toUInt64 >>> ((33 : Int32) &&& 0x3f).toInt64.toUInt64).toInt64)) * (-49064778989728563 : Int64)).toUInt64 >>> ((33 : Int32) &&& 0x3f).toInt64.toUInt64).toInt64)) * (-4265267296055464877 : Int64)))])) _
    refine XS.lxor X0.here hx rfl (hb hby d3_31) rfl ?_
    show Steps p.tables e below (s₁.setTop (mkF m 32 #[.val (.long ((((q1 ^^^ ((q1.toUInt64 >>> ((33 : Int32) &&& 0x3f).toInt64.toUInt64).toInt64)) * (-49064778989728563 : Int64)) ^^^ ((((q1 ^^^ ((q1.toUInt64 >>> ((33 : Int32) &&& 0x3f).toInt64.toUInt64).toInt64)) * (-49064778989728563 : Int64)).toUInt64 >>> ((33 : Int32) &&& 0x3f).toInt64.toUInt64).toInt64)) * (-4265267296055464877 : Int64))), .second] [(.long (((((q1 ^^^ ((q1.toUInt64 >>> ((33 : Int32) &&& 0x3f).toInt64.toUInt64).toInt64)) * (-49064778989728563 : Int64)) ^^^ ((((q1 ^^^ ((q1.toUInt64 >>> ((33 : Int32) &&& 0x3f).toInt64.toUInt64).toInt64)) * (-49064778989728563 : Int64)).toUInt64 >>> ((33 : Int32) &&& 0x3f).toInt64.toUInt64).toInt64)) * (-4265267296055464877 : Int64)) ^^^ ((((((q1 ^^^ ((q1.toUInt64 >>> ((33 : Int32) &&& 0x3f).toInt64.toUInt64).toInt64)) * (-49064778989728563 : Int64)) ^^^ ((((q1 ^^^ ((q1.toUInt64 >>> ((33 : Int32) &&& 0x3f).toInt64.toUInt64).toInt64)) * (-49064778989728563 : Int64)).toUInt64 >>> ((33 : Int32) &&& 0x3f).toInt64.toUInt64).toInt64)) * (-4265267296055464877 : Int64)).toUInt64 >>> ((33 : Int32) &&& 0x3f).toInt64.toUInt64).toInt64)))])) _
    refine XS.lstoreN X0.here hx rfl (hb hby d3_32) rfl (l' := #[.val (.long (((((q1 ^^^ ((q1.toUInt64 >>> ((33 : Int32) &&& 0x3f).toInt64.toUInt64).toInt64)) * (-49064778989728563 : Int64)) ^^^ ((((q1 ^^^ ((q1.toUInt64 >>> ((33 : Int32) &&& 0x3f).toInt64.toUInt64).toInt64)) * (-49064778989728563 : Int64)).toUInt64 >>> ((33 : Int32) &&& 0x3f).toInt64.toUInt64).toInt64)) * (-4265267296055464877 : Int64)) ^^^ ((((((q1 ^^^ ((q1.toUInt64 >>> ((33 : Int32) &&& 0x3f).toInt64.toUInt64).toInt64)) * (-49064778989728563 : Int64)) ^^^ ((((q1 ^^^ ((q1.toUInt64 >>> ((33 : Int32) &&& 0x3f).toInt64.toUInt64).toInt64)) * (-49064778989728563 : Int64)).toUInt64 >>> ((33 : Int32) &&& 0x3f).toInt64.toUInt64).toInt64)) * (-4265267296055464877 : Int64)).toUInt64 >>> ((33 : Int32) &&& 0x3f).toInt64.toUInt64).toInt64))), .second]) rfl ?_
    show Steps p.tables e below (s₁.setTop (mkF m 33 #[.val (.long (((((q1 ^^^ ((q1.toUInt64 >>> ((33 : Int32) &&& 0x3f).toInt64.toUInt64).toInt64)) * (-49064778989728563 : Int64)) ^^^ ((((q1 ^^^ ((q1.toUInt64 >>> ((33 : Int32) &&& 0x3f).toInt64.toUInt64).toInt64)) * (-49064778989728563 : Int64)).toUInt64 >>> ((33 : Int32) &&& 0x3f).toInt64.toUInt64).toInt64)) * (-4265267296055464877 : Int64)) ^^^ ((((((q1 ^^^ ((q1.toUInt64 >>> ((33 : Int32) &&& 0x3f).toInt64.toUInt64).toInt64)) * (-49064778989728563 : Int64)) ^^^ ((((q1 ^^^ ((q1.toUInt64 >>> ((33 : Int32) &&& 0x3f).toInt64.toUInt64).toInt64)) * (-49064778989728563 : Int64)).toUInt64 >>> ((33 : Int32) &&& 0x3f).toInt64.toUInt64).toInt64)) * (-4265267296055464877 : Int64)).toUInt64 >>> ((33 : Int32) &&& 0x3f).toInt64.toUInt64).toInt64))), .second] [])) _
    refine XS.lloadN X0.here hx rfl (hb hby d3_33) rfl ?_
    show Steps p.tables e below (s₁.setTop (mkF m 34 #[.val (.long (((((q1 ^^^ ((q1.toUInt64 >>> ((33 : Int32) &&& 0x3f).toInt64.toUInt64).toInt64)) * (-49064778989728563 : Int64)) ^^^ ((((q1 ^^^ ((q1.toUInt64 >>> ((33 : Int32) &&& 0x3f).toInt64.toUInt64).toInt64)) * (-49064778989728563 : Int64)).toUInt64 >>> ((33 : Int32) &&& 0x3f).toInt64.toUInt64).toInt64)) * (-4265267296055464877 : Int64)) ^^^ ((((((q1 ^^^ ((q1.toUInt64 >>> ((33 : Int32) &&& 0x3f).toInt64.toUInt64).toInt64)) * (-49064778989728563 : Int64)) ^^^ ((((q1 ^^^ ((q1.toUInt64 >>> ((33 : Int32) &&& 0x3f).toInt64.toUInt64).toInt64)) * (-49064778989728563 : Int64)).toUInt64 >>> ((33 : Int32) &&& 0x3f).toInt64.toUInt64).toInt64)) * (-4265267296055464877 : Int64)).toUInt64 >>> ((33 : Int32) &&& 0x3f).toInt64.toUInt64).toInt64))), .second] [(.long (((((q1 ^^^ ((q1.toUInt64 >>> ((33 : Int32) &&& 0x3f).toInt64.toUInt64).toInt64)) * (-49064778989728563 : Int64)) ^^^ ((((q1 ^^^ ((q1.toUInt64 >>> ((33 : Int32) &&& 0x3f).toInt64.toUInt64).toInt64)) * (-49064778989728563 : Int64)).toUInt64 >>> ((33 : Int32) &&& 0x3f).toInt64.toUInt64).toInt64)) * (-4265267296055464877 : Int64)) ^^^ ((((((q1 ^^^ ((q1.toUInt64 >>> ((33 : Int32) &&& 0x3f).toInt64.toUInt64).toInt64)) * (-49064778989728563 : Int64)) ^^^ ((((q1 ^^^ ((q1.toUInt64 >>> ((33 : Int32) &&& 0x3f).toInt64.toUInt64).toInt64)) * (-49064778989728563 : Int64)).toUInt64 >>> ((33 : Int32) &&& 0x3f).toInt64.toUInt64).toInt64)) * (-4265267296055464877 : Int64)).toUInt64 >>> ((33 : Int32) &&& 0x3f).toInt64.toUInt64).toInt64)))])) _
    exact X0.lreturnOut hx Bd.returns (hb hby d3_34) hr
  · show Q3 Z q1 h0 n0 _ s₁.heap _
    rw [e0]
    exact ⟨by rw [f3], N0, rfl⟩
theorem d1_0 : decode prog_22_method_3_code 0 = .ok (.iload 4, 2) := by decide +kernel
theorem d1_2 : decode prog_22_method_3_code 2 = .ok (.sipush 128, 3) := by decide +kernel
theorem d1_5 : decode prog_22_method_3_code 5 = .ok (.if_icmp .ne 17, 3) := by decide +kernel
theorem d1_8 : decode prog_22_method_3_code 8 = .ok (.lload_n 0, 1) := by decide +kernel
theorem d1_9 : decode prog_22_method_3_code 9 = .ok (.ldc2_w 7, 3) := by decide +kernel
theorem d1_12 : decode prog_22_method_3_code 12 = .ok (.lload_n 2, 1) := by decide +kernel
theorem d1_13 : decode prog_22_method_3_code 13 = .ok (.lmul, 1) := by decide +kernel
theorem d1_14 : decode prog_22_method_3_code 14 = .ok (.lconst 1, 1) := by decide +kernel
theorem d1_15 : decode prog_22_method_3_code 15 = .ok (.ladd, 1) := by decide +kernel
theorem d1_16 : decode prog_22_method_3_code 16 = .ok (.invokestatic 9, 3) := by decide +kernel
theorem d1_19 : decode prog_22_method_3_code 19 = .ok (.goto 8, 3) := by decide +kernel
theorem d1_22 : decode prog_22_method_3_code 22 = .ok (.lload_n 0, 1) := by decide +kernel
theorem d1_23 : decode prog_22_method_3_code 23 = .ok (.lload_n 2, 1) := by decide +kernel
theorem d1_24 : decode prog_22_method_3_code 24 = .ok (.invokestatic 9, 3) := by decide +kernel
theorem d1_27 : decode prog_22_method_3_code 27 = .ok (.lreturn, 1) := by decide +kernel
theorem pn_1 : plainName "dev/shoalmap/workload/KeySet" = true := by first | (simp [plainName, overriddenIn]; done) | decide +kernel
theorem pd_1_1 : parseMethodDescriptor "(JJ)J" = some ⟨[.long, .long], some .long⟩ := by decide +kernel
theorem ef_1 (m : MethodId) (x0 : Int64) (x1 : Int64) (x2 : Int32) : entryFrame m #[(.long x0), (.long x1), (.int x2)] 5 = mkF m 0 #[.val (.long x0), .second, .val (.long x1), .second, .val (.int x2)] [] := by first | (simp [entryFrame, mkF, argsToLocals, Value.category]; done) | rfl

def f1 (q1 : Int64) (q2 : Int64) (p3 : Int32) : Int64 := (if p3 = (128 : Int32) then (f2 q1 (((2 : Int64) * q2) + (1 : Int64))) else (f2 q1 q2))
def Q1 (Z : State) (q1 : Int64) (q2 : Int64) (p3 : Int32) (h0 : Heap) (n0 : Nat) (v : Option Value) (h : Heap) (L : List Loc) : Prop := v = some (.long (f1 q1 q2 p3)) ∧ Fr n0 L ∧ h = h0
set_option maxRecDepth 65536 in
set_option maxHeartbeats 40000000 in
theorem rm1 (l : Launch) (Z : State) (a0 : Array Value) (hw : ∀ d ∈ tables_1, d.before a0 Z = true) (ws : List Jvm.Cond) (q1 : Int64) (q2 : Int64) (p3 : Int32) (h0 : Heap) (n0 : Nat) (Z0 : n0 ≤ h0.size) :
    MetFree l (⟨"dev/shoalmap/workload/KeySet", "low", "(JJI)J"⟩ : MethodName) (head1 (Jvm.Cond.code (⟨"dev/shoalmap/workload/KeySet", "low", "(JJI)J"⟩ : MethodName) prog_22_method_3_code 5 (some .long) :: ws) ({ frames := 1, cells := 0, slots := 0, locals := 17 } : Room)) (fun a U => a = #[(.long q1), (.long q2), (.int p3)] ∧ Z.Warmed39 U.vm ∧ U.heap = h0) (fun _ _ _ _ _ => True) (fun _ U o U' => ∃ v L, o = .returned v ∧ Q1 Z q1 q2 p3 h0 n0 v U'.heap L ∧ FrameEnd U o U' L ({ frames := 1, cells := 0, slots := 0, locals := 17 } : Room).cells ({ frames := 1, cells := 0, slots := 0, locals := 17 } : Room).slots) := by
  refine MetFree.of_bodySF (plainFor_of_name pn_1) hisR ?_
  intro p e s m args below meth c s₁ Bd hml0 hP hK
  obtain ⟨rfl, hZ, hh⟩ := hP
  have hx := Bd.exec
  have hby := Bd.bytes
  have hml : c.maxLocals = 5 := hml0
  have hown : s.vm.findClass "dev/shoalmap/workload/KeySet" = some m.cls := findClass_of_methodNamed Bd.named
  have hnm := (name_of_methodNamed Bd.named Bd.method).1
  have X0 : Stand p l e ({ frames := 1, cells := 0, slots := 0, locals := 17 } : Room) s m #[(.long q1), (.long q2), (.int p3)] below meth c s₁ [] 0 0 := Stand.of_body Bd
  have e0 : s₁.heap = h0 := by rw [← hh, Bd.state]; rfl
  have N0 := Fr.nil n0
  have pre0 : ∀ t, Steps p.tables e below (s₁.setTop (mkF m 0 #[.val (.long q1), .second, .val (.long q2), .second, .val (.int p3)] [])) t → Steps p.tables e below (s₁.setTop (entryFrame m #[(.long q1), (.long q2), (.int p3)] 5)) t := fun t k => castTop (ef_1 m q1 q2 p3) k
  have pre1 : ∀ t, Steps p.tables e below (s₁.setTop (mkF m 5 #[.val (.long q1), .second, .val (.long q2), .second, .val (.int p3)] [(.int (128 : Int32)), (.int p3)])) t → Steps p.tables e below (s₁.setTop (entryFrame m #[(.long q1), (.long q2), (.int p3)] 5)) t := fun t kt => by
    refine pre0 _ ?_
    show Steps p.tables e below (s₁.setTop (mkF m 0 #[.val (.long q1), .second, .val (.long q2), .second, .val (.int p3)] [])) _
    refine XS.iload X0.here hx rfl (hb hby d1_0) rfl ?_
    show Steps p.tables e below (s₁.setTop (mkF m 2 #[.val (.long q1), .second, .val (.long q2), .second, .val (.int p3)] [(.int p3)])) _
    refine XS.sipush X0.here hx rfl (hb hby d1_2) ?_
    exact kt
  by_cases hc2 : p3 = (128 : Int32)
  · obtain ⟨_, _, ⟨T3, L3, k3, n3⟩, -, X3, ⟨Lc3, hQ3, l3, y3, z3⟩, st3⟩ := Jvm.LawKit.callS X0 hx (y := (⟨"dev/shoalmap/workload/KeySet", "key", "(JJ)J"⟩ : MethodName)) hown (mvT hZ (hw _ (List.mem_of_getElem? (i := 4) rfl))) (mvT hZ (hw _ (List.mem_of_getElem? (i := 5) rfl))) (mvT hZ (hw _ (List.mem_of_getElem? (i := 2) rfl))) (mvT hZ (hw _ (List.mem_of_getElem? (i := 6) rfl))) (by decide) (backOf (W := 0) (rm2 l Z a0 hw [] q1 (((2 : Int64) * q2) + (1 : Int64)) h0 n0 Z0 ) hZ (hw _ (List.mem_of_getElem? (i := 6) rfl)) (hw _ (List.mem_of_getElem? (i := 2) rfl)) (by decide) (by decide)) (g := (mkF m 16 #[.val (.long q1), .second, .val (.long q2), .second, .val (.int p3)] [(.long (((2 : Int64) * q2) + (1 : Int64))), (.long q1)])) rfl (by rw [hml]; rfl) (argsL := [(.long q1), (.long (((2 : Int64) * q2) + (1 : Int64)))]) (rest := []) (lenOf pd_1_1 rfl) rfl (by show 2 * 0 + _ ≤ _; exact Nat.le_of_eq rfl) (hb hby d1_16) (fun _ _ => ⟨rfl, e0, (by decide : 0 + 0 ≤ _), (by decide : 0 + 0 ≤ _)⟩)
    dsimp only [Pt.U, Pt.locs, Pt.cells, Pt.slots] at X3 l3 y3 z3 st3 hQ3
    subst l3 y3 z3
    obtain ⟨rfl, N3q, e3⟩ := hQ3
    have N3 := Fr.app N0 N3q
    obtain ⟨fs, hr, hrun, hended, hW, hsame⟩ := X3.leave (v := some (.long (f2 q1 (((2 : Int64) * q2) + (1 : Int64))))) (fun h => by rw [Bd.returns] at h; cases h)
    refine ⟨_, _, pre1 _ ?_, hrun, hended, _, _, rfl, ?_, ⟨_, rfl⟩, hW, hsame.mono (by decide) (by decide)⟩
    · show Steps p.tables e below (s₁.setTop (mkF m 5 #[.val (.long q1), .second, .val (.long q2), .second, .val (.int p3)] [(.int (128 : Int32)), (.int p3)])) _
      refine XS.icmpNo X0.here hx rfl (hb hby d1_5) rfl (teq hc2).2 ?_
      show Steps p.tables e below (s₁.setTop (mkF m 8 #[.val (.long q1), .second, .val (.long q2), .second, .val (.int p3)] [])) _
      refine XS.lloadN X0.here hx rfl (hb hby d1_8) rfl ?_
      show Steps p.tables e below (s₁.setTop (mkF m 9 #[.val (.long q1), .second, .val (.long q2), .second, .val (.int p3)] [(.long q1)])) _
      refine X0.ldc2Long hx hown (mvT hZ (hw _ (List.mem_of_getElem? (i := 10) rfl))) (g := (mkF m 9 #[.val (.long q1), .second, .val (.long q2), .second, .val (.int p3)] [(.long q1)])) rfl (hb hby d1_9) _ ?_
      show Steps p.tables e below (s₁.setTop (mkF m 12 #[.val (.long q1), .second, .val (.long q2), .second, .val (.int p3)] [(.long (2 : Int64)), (.long q1)])) _
      refine XS.lloadN X0.here hx rfl (hb hby d1_12) rfl ?_
      show Steps p.tables e below (s₁.setTop (mkF m 13 #[.val (.long q1), .second, .val (.long q2), .second, .val (.int p3)] [(.long q2), (.long (2 : Int64)), (.long q1)])) _
      refine XS.lmul X0.here hx rfl (hb hby d1_13) rfl ?_
      show Steps p.tables e below (s₁.setTop (mkF m 14 #[.val (.long q1), .second, .val (.long q2), .second, .val (.int p3)] [(.long ((2 : Int64) * q2)), (.long q1)])) _
      refine XS.lconst X0.here hx rfl (hb hby d1_14) ?_
      show Steps p.tables e below (s₁.setTop (mkF m 15 #[.val (.long q1), .second, .val (.long q2), .second, .val (.int p3)] [(.long (1 : Int64)), (.long ((2 : Int64) * q2)), (.long q1)])) _
      refine XS.ladd X0.here hx rfl (hb hby d1_15) rfl ?_
      show Steps p.tables e below (s₁.setTop (mkF m 16 #[.val (.long q1), .second, .val (.long q2), .second, .val (.int p3)] [(.long (((2 : Int64) * q2) + (1 : Int64))), (.long q1)])) _
      refine st3 _ ?_
      show Steps p.tables e below (T3.setTop (mkF m 19 #[.val (.long q1), .second, .val (.long q2), .second, .val (.int p3)] [(.long (f2 q1 (((2 : Int64) * q2) + (1 : Int64))))])) _
      refine XS.goto X3.here hx rfl (pc0 := 19) (pc' := 27) rfl (hb hby d1_19) (by decide) (by decide) ?_
      show Steps p.tables e below (T3.setTop (mkF m 27 #[.val (.long q1), .second, .val (.long q2), .second, .val (.int p3)] [(.long (f2 q1 (((2 : Int64) * q2) + (1 : Int64))))])) _
      exact X3.lreturnOut hx Bd.returns (hb hby d1_27) hr
    · show Q1 Z q1 q2 p3 h0 n0 _ T3.heap _
      rw [e3]
      exact ⟨by rw [f1, if_pos hc2], N3, rfl⟩
  · obtain ⟨_, _, ⟨T4, L4, k4, n4⟩, -, X4, ⟨Lc4, hQ4, l4, y4, z4⟩, st4⟩ := Jvm.LawKit.callS X0 hx (y := (⟨"dev/shoalmap/workload/KeySet", "key", "(JJ)J"⟩ : MethodName)) hown (mvT hZ (hw _ (List.mem_of_getElem? (i := 4) rfl))) (mvT hZ (hw _ (List.mem_of_getElem? (i := 5) rfl))) (mvT hZ (hw _ (List.mem_of_getElem? (i := 2) rfl))) (mvT hZ (hw _ (List.mem_of_getElem? (i := 6) rfl))) (by decide) (backOf (W := 0) (rm2 l Z a0 hw [] q1 q2 h0 n0 Z0 ) hZ (hw _ (List.mem_of_getElem? (i := 6) rfl)) (hw _ (List.mem_of_getElem? (i := 2) rfl)) (by decide) (by decide)) (g := (mkF m 24 #[.val (.long q1), .second, .val (.long q2), .second, .val (.int p3)] [(.long q2), (.long q1)])) rfl (by rw [hml]; rfl) (argsL := [(.long q1), (.long q2)]) (rest := []) (lenOf pd_1_1 rfl) rfl (by show 2 * 0 + _ ≤ _; exact Nat.le_of_eq rfl) (hb hby d1_24) (fun _ _ => ⟨rfl, e0, (by decide : 0 + 0 ≤ _), (by decide : 0 + 0 ≤ _)⟩)
    dsimp only [Pt.U, Pt.locs, Pt.cells, Pt.slots] at X4 l4 y4 z4 st4 hQ4
    subst l4 y4 z4
    obtain ⟨rfl, N4q, e4⟩ := hQ4
    have N4 := Fr.app N0 N4q
    obtain ⟨fs, hr, hrun, hended, hW, hsame⟩ := X4.leave (v := some (.long (f2 q1 q2))) (fun h => by rw [Bd.returns] at h; cases h)
    refine ⟨_, _, pre1 _ ?_, hrun, hended, _, _, rfl, ?_, ⟨_, rfl⟩, hW, hsame.mono (by decide) (by decide)⟩
    · show Steps p.tables e below (s₁.setTop (mkF m 5 #[.val (.long q1), .second, .val (.long q2), .second, .val (.int p3)] [(.int (128 : Int32)), (.int p3)])) _
      refine XS.icmpYes X0.here hx rfl (pc0 := 5) (pc' := 22) rfl (hb hby d1_5) rfl (feq hc2).2 (by decide) (by decide) ?_
      show Steps p.tables e below (s₁.setTop (mkF m 22 #[.val (.long q1), .second, .val (.long q2), .second, .val (.int p3)] [])) _
      refine XS.lloadN X0.here hx rfl (hb hby d1_22) rfl ?_
      show Steps p.tables e below (s₁.setTop (mkF m 23 #[.val (.long q1), .second, .val (.long q2), .second, .val (.int p3)] [(.long q1)])) _
      refine XS.lloadN X0.here hx rfl (hb hby d1_23) rfl ?_
      show Steps p.tables e below (s₁.setTop (mkF m 24 #[.val (.long q1), .second, .val (.long q2), .second, .val (.int p3)] [(.long q2), (.long q1)])) _
      refine st4 _ ?_
      show Steps p.tables e below (T4.setTop (mkF m 27 #[.val (.long q1), .second, .val (.long q2), .second, .val (.int p3)] [(.long (f2 q1 q2))])) _
      exact X4.lreturnOut hx Bd.returns (hb hby d1_27) hr
    · show Q1 Z q1 q2 p3 h0 n0 _ T4.heap _
      rw [e4]
      exact ⟨by rw [f1, if_neg hc2], N4, rfl⟩
theorem d4_0 : decode prog_22_method_2_code 0 = .ok (.iload 4, 2) := by decide +kernel
theorem d4_2 : decode prog_22_method_2_code 2 = .ok (.sipush 128, 3) := by decide +kernel
theorem d4_5 : decode prog_22_method_2_code 5 = .ok (.if_icmp .ne 15, 3) := by decide +kernel
theorem d4_8 : decode prog_22_method_2_code 8 = .ok (.lload_n 0, 1) := by decide +kernel
theorem d4_9 : decode prog_22_method_2_code 9 = .ok (.ldc2_w 7, 3) := by decide +kernel
theorem d4_12 : decode prog_22_method_2_code 12 = .ok (.lload_n 2, 1) := by decide +kernel
theorem d4_13 : decode prog_22_method_2_code 13 = .ok (.lmul, 1) := by decide +kernel
theorem d4_14 : decode prog_22_method_2_code 14 = .ok (.invokestatic 9, 3) := by decide +kernel
theorem d4_17 : decode prog_22_method_2_code 17 = .ok (.goto 4, 3) := by decide +kernel
theorem d4_20 : decode prog_22_method_2_code 20 = .ok (.lconst 0, 1) := by decide +kernel
theorem d4_21 : decode prog_22_method_2_code 21 = .ok (.lreturn, 1) := by decide +kernel
theorem pn_4 : plainName "dev/shoalmap/workload/KeySet" = true := by first | (simp [plainName, overriddenIn]; done) | decide +kernel
theorem pd_4_1 : parseMethodDescriptor "(JJ)J" = some ⟨[.long, .long], some .long⟩ := by decide +kernel
theorem ef_4 (m : MethodId) (x0 : Int64) (x1 : Int64) (x2 : Int32) : entryFrame m #[(.long x0), (.long x1), (.int x2)] 5 = mkF m 0 #[.val (.long x0), .second, .val (.long x1), .second, .val (.int x2)] [] := by first | (simp [entryFrame, mkF, argsToLocals, Value.category]; done) | rfl

def f4 (q1 : Int64) (q2 : Int64) (p3 : Int32) : Int64 := (if p3 = (128 : Int32) then (f2 q1 ((2 : Int64) * q2)) else (0 : Int64))
def Q4 (Z : State) (q1 : Int64) (q2 : Int64) (p3 : Int32) (h0 : Heap) (n0 : Nat) (v : Option Value) (h : Heap) (L : List Loc) : Prop := v = some (.long (f4 q1 q2 p3)) ∧ Fr n0 L ∧ h = h0
set_option maxRecDepth 65536 in
set_option maxHeartbeats 40000000 in
theorem rm4 (l : Launch) (Z : State) (a0 : Array Value) (hw : ∀ d ∈ tables_1, d.before a0 Z = true) (ws : List Jvm.Cond) (q1 : Int64) (q2 : Int64) (p3 : Int32) (h0 : Heap) (n0 : Nat) (Z0 : n0 ≤ h0.size) :
    MetFree l (⟨"dev/shoalmap/workload/KeySet", "high", "(JJI)J"⟩ : MethodName) (head1 (Jvm.Cond.code (⟨"dev/shoalmap/workload/KeySet", "high", "(JJI)J"⟩ : MethodName) prog_22_method_2_code 5 (some .long) :: ws) ({ frames := 1, cells := 0, slots := 0, locals := 17 } : Room)) (fun a U => a = #[(.long q1), (.long q2), (.int p3)] ∧ Z.Warmed39 U.vm ∧ U.heap = h0) (fun _ _ _ _ _ => True) (fun _ U o U' => ∃ v L, o = .returned v ∧ Q4 Z q1 q2 p3 h0 n0 v U'.heap L ∧ FrameEnd U o U' L ({ frames := 1, cells := 0, slots := 0, locals := 17 } : Room).cells ({ frames := 1, cells := 0, slots := 0, locals := 17 } : Room).slots) := by
  refine MetFree.of_bodySF (plainFor_of_name pn_4) hisR ?_
  intro p e s m args below meth c s₁ Bd hml0 hP hK
  obtain ⟨rfl, hZ, hh⟩ := hP
  have hx := Bd.exec
  have hby := Bd.bytes
  have hml : c.maxLocals = 5 := hml0
  have hown : s.vm.findClass "dev/shoalmap/workload/KeySet" = some m.cls := findClass_of_methodNamed Bd.named
  have hnm := (name_of_methodNamed Bd.named Bd.method).1
  have X0 : Stand p l e ({ frames := 1, cells := 0, slots := 0, locals := 17 } : Room) s m #[(.long q1), (.long q2), (.int p3)] below meth c s₁ [] 0 0 := Stand.of_body Bd
  have e0 : s₁.heap = h0 := by rw [← hh, Bd.state]; rfl
  have N0 := Fr.nil n0
  have pre0 : ∀ t, Steps p.tables e below (s₁.setTop (mkF m 0 #[.val (.long q1), .second, .val (.long q2), .second, .val (.int p3)] [])) t → Steps p.tables e below (s₁.setTop (entryFrame m #[(.long q1), (.long q2), (.int p3)] 5)) t := fun t k => castTop (ef_4 m q1 q2 p3) k
  have pre1 : ∀ t, Steps p.tables e below (s₁.setTop (mkF m 5 #[.val (.long q1), .second, .val (.long q2), .second, .val (.int p3)] [(.int (128 : Int32)), (.int p3)])) t → Steps p.tables e below (s₁.setTop (entryFrame m #[(.long q1), (.long q2), (.int p3)] 5)) t := fun t kt => by
    refine pre0 _ ?_
    show Steps p.tables e below (s₁.setTop (mkF m 0 #[.val (.long q1), .second, .val (.long q2), .second, .val (.int p3)] [])) _
    refine XS.iload X0.here hx rfl (hb hby d4_0) rfl ?_
    show Steps p.tables e below (s₁.setTop (mkF m 2 #[.val (.long q1), .second, .val (.long q2), .second, .val (.int p3)] [(.int p3)])) _
    refine XS.sipush X0.here hx rfl (hb hby d4_2) ?_
    exact kt
  by_cases hc2 : p3 = (128 : Int32)
  · obtain ⟨_, _, ⟨T3, L3, k3, n3⟩, -, X3, ⟨Lc3, hQ3, l3, y3, z3⟩, st3⟩ := Jvm.LawKit.callS X0 hx (y := (⟨"dev/shoalmap/workload/KeySet", "key", "(JJ)J"⟩ : MethodName)) hown (mvT hZ (hw _ (List.mem_of_getElem? (i := 4) rfl))) (mvT hZ (hw _ (List.mem_of_getElem? (i := 5) rfl))) (mvT hZ (hw _ (List.mem_of_getElem? (i := 2) rfl))) (mvT hZ (hw _ (List.mem_of_getElem? (i := 6) rfl))) (by decide) (backOf (W := 0) (rm2 l Z a0 hw [] q1 ((2 : Int64) * q2) h0 n0 Z0 ) hZ (hw _ (List.mem_of_getElem? (i := 6) rfl)) (hw _ (List.mem_of_getElem? (i := 2) rfl)) (by decide) (by decide)) (g := (mkF m 14 #[.val (.long q1), .second, .val (.long q2), .second, .val (.int p3)] [(.long ((2 : Int64) * q2)), (.long q1)])) rfl (by rw [hml]; rfl) (argsL := [(.long q1), (.long ((2 : Int64) * q2))]) (rest := []) (lenOf pd_4_1 rfl) rfl (by show 2 * 0 + _ ≤ _; exact Nat.le_of_eq rfl) (hb hby d4_14) (fun _ _ => ⟨rfl, e0, (by decide : 0 + 0 ≤ _), (by decide : 0 + 0 ≤ _)⟩)
    dsimp only [Pt.U, Pt.locs, Pt.cells, Pt.slots] at X3 l3 y3 z3 st3 hQ3
    subst l3 y3 z3
    obtain ⟨rfl, N3q, e3⟩ := hQ3
    have N3 := Fr.app N0 N3q
    obtain ⟨fs, hr, hrun, hended, hW, hsame⟩ := X3.leave (v := some (.long (f2 q1 ((2 : Int64) * q2)))) (fun h => by rw [Bd.returns] at h; cases h)
    refine ⟨_, _, pre1 _ ?_, hrun, hended, _, _, rfl, ?_, ⟨_, rfl⟩, hW, hsame.mono (by decide) (by decide)⟩
    · show Steps p.tables e below (s₁.setTop (mkF m 5 #[.val (.long q1), .second, .val (.long q2), .second, .val (.int p3)] [(.int (128 : Int32)), (.int p3)])) _
      refine XS.icmpNo X0.here hx rfl (hb hby d4_5) rfl (teq hc2).2 ?_
      show Steps p.tables e below (s₁.setTop (mkF m 8 #[.val (.long q1), .second, .val (.long q2), .second, .val (.int p3)] [])) _
      refine XS.lloadN X0.here hx rfl (hb hby d4_8) rfl ?_
      show Steps p.tables e below (s₁.setTop (mkF m 9 #[.val (.long q1), .second, .val (.long q2), .second, .val (.int p3)] [(.long q1)])) _
      refine X0.ldc2Long hx hown (mvT hZ (hw _ (List.mem_of_getElem? (i := 10) rfl))) (g := (mkF m 9 #[.val (.long q1), .second, .val (.long q2), .second, .val (.int p3)] [(.long q1)])) rfl (hb hby d4_9) _ ?_
      show Steps p.tables e below (s₁.setTop (mkF m 12 #[.val (.long q1), .second, .val (.long q2), .second, .val (.int p3)] [(.long (2 : Int64)), (.long q1)])) _
      refine XS.lloadN X0.here hx rfl (hb hby d4_12) rfl ?_
      show Steps p.tables e below (s₁.setTop (mkF m 13 #[.val (.long q1), .second, .val (.long q2), .second, .val (.int p3)] [(.long q2), (.long (2 : Int64)), (.long q1)])) _
      refine XS.lmul X0.here hx rfl (hb hby d4_13) rfl ?_
      show Steps p.tables e below (s₁.setTop (mkF m 14 #[.val (.long q1), .second, .val (.long q2), .second, .val (.int p3)] [(.long ((2 : Int64) * q2)), (.long q1)])) _
      refine st3 _ ?_
      show Steps p.tables e below (T3.setTop (mkF m 17 #[.val (.long q1), .second, .val (.long q2), .second, .val (.int p3)] [(.long (f2 q1 ((2 : Int64) * q2)))])) _
      refine XS.goto X3.here hx rfl (pc0 := 17) (pc' := 21) rfl (hb hby d4_17) (by decide) (by decide) ?_
      show Steps p.tables e below (T3.setTop (mkF m 21 #[.val (.long q1), .second, .val (.long q2), .second, .val (.int p3)] [(.long (f2 q1 ((2 : Int64) * q2)))])) _
      exact X3.lreturnOut hx Bd.returns (hb hby d4_21) hr
    · show Q4 Z q1 q2 p3 h0 n0 _ T3.heap _
      rw [e3]
      exact ⟨by rw [f4, if_pos hc2], N3, rfl⟩
  · obtain ⟨fs, hr, hrun, hended, hW, hsame⟩ := X0.leave (v := some (.long (0 : Int64))) (fun h => by rw [Bd.returns] at h; cases h)
    refine ⟨_, _, pre1 _ ?_, hrun, hended, _, _, rfl, ?_, ⟨_, rfl⟩, hW, hsame.mono (by decide) (by decide)⟩
    · show Steps p.tables e below (s₁.setTop (mkF m 5 #[.val (.long q1), .second, .val (.long q2), .second, .val (.int p3)] [(.int (128 : Int32)), (.int p3)])) _
      refine XS.icmpYes X0.here hx rfl (pc0 := 5) (pc' := 20) rfl (hb hby d4_5) rfl (feq hc2).2 (by decide) (by decide) ?_
      show Steps p.tables e below (s₁.setTop (mkF m 20 #[.val (.long q1), .second, .val (.long q2), .second, .val (.int p3)] [])) _
      refine XS.lconst X0.here hx rfl (hb hby d4_20) ?_
      show Steps p.tables e below (s₁.setTop (mkF m 21 #[.val (.long q1), .second, .val (.long q2), .second, .val (.int p3)] [(.long (0 : Int64))])) _
      exact X0.lreturnOut hx Bd.returns (hb hby d4_21) hr
    · show Q4 Z q1 q2 p3 h0 n0 _ s₁.heap _
      rw [e0]
      exact ⟨by rw [f4, if_neg hc2], N0, rfl⟩
theorem own_km (x y : Int64) : f2 x y = f3 (x + (y + 1) * (-7046029254386353131 : Int64)) := rfl
theorem own_a (q : Int64) : (2 * q + 1) + 1 = 2 * q + (2 : Int64) := by
  rw [Int64.add_assoc]; rfl
theorem own_b (x q : Int64) : x + (-7046029254386353131 : Int64) + q * (-7046029254386353131 : Int64) = x + (q + 1) * (-7046029254386353131 : Int64) := by
  rw [Int64.add_mul, Int64.one_mul, Int64.add_assoc, Int64.add_comm (-7046029254386353131 : Int64)]
theorem own_p0 (q1 q2 : Int64) : (f2 q1 q2) = (f3 (q1 + ((q2 + (1 : Int64)) * (-7046029254386353131 : Int64)))) := own_km q1 q2
theorem own_p1 (q1 q2 : Int64) : (f2 q1 (((2 : Int64) * q2) + (1 : Int64))) = (f3 (q1 + ((((2 : Int64) * q2) + (2 : Int64)) * (-7046029254386353131 : Int64)))) := by
  rw [own_km, own_a]
theorem own_p2 (q1 q2 : Int64) : (f2 q1 (((2 : Int64) * q2) + (1 : Int64))) = (f2 (q1 + (-7046029254386353131 : Int64)) ((2 : Int64) * q2)) := by
  rw [own_km, own_km, own_b]
theorem pn_0 : plainName "dev/shoalmap/workload/KeySetLowPinLaw" = true := by first | (simp [plainName, overriddenIn]; done) | decide +kernel
theorem pd_0_0 : parseMethodDescriptor "(JJI)J" = some ⟨[.long, .long, .int], some .long⟩ := by decide +kernel
theorem pd_0_2 : parseMethodDescriptor "(J)J" = some ⟨[.long], some .long⟩ := by decide +kernel
theorem ef_0 (m : MethodId) (x0 : Int64) (x1 : Int64) : entryFrame m #[(.long x0), (.long x1)] maxLocals = mkF m 0 #[.val (.long x0), .second, .val (.long x1), .second, .unset, .unset, .unset, .unset, .unset, .unset, .unset] [] := by first | (simp [entryFrame, mkF, argsToLocals, Value.category, maxLocals]; done) | rfl

def f0 (q1 : Int64) (q2 : Int64) : Int32 := (1 : Int32)
def Q0 (Z : State) (q1 : Int64) (q2 : Int64) (h0 : Heap) (n0 : Nat) (v : Option Value) (h : Heap) (L : List Loc) : Prop := v = some (.int (f0 q1 q2)) ∧ Fr n0 L
set_option maxRecDepth 65536 in
set_option maxHeartbeats 40000000 in
theorem rm0 (l : Launch) (Z : State) (a0 : Array Value) (hw : ∀ d ∈ tables_1, d.before a0 Z = true) (ws : List Jvm.Cond) (q1 : Int64) (q2 : Int64) (h0 : Heap) (n0 : Nat) (Z0 : n0 ≤ h0.size) :
    MetFree l x (head1 (Jvm.Cond.code x code maxLocals ret :: ws) room_1) (fun a U => a = #[(.long q1), (.long q2)] ∧ Z.Warmed39 U.vm ∧ U.heap = h0) (fun _ _ _ _ _ => True) (fun _ U o U' => ∃ v L, o = .returned v ∧ Q0 Z q1 q2 h0 n0 v U'.heap L ∧ FrameEnd U o U' L room_1.cells room_1.slots) := by
  refine MetFree.of_bodySF (plainFor_of_name pn_0) hisR ?_
  intro p e s m args below meth c s₁ Bd hml0 hP hK
  obtain ⟨rfl, hZ, hh⟩ := hP
  have hx := Bd.exec
  have hby := Bd.bytes
  have hml : c.maxLocals = 11 := hml0
  have hown : s.vm.findClass "dev/shoalmap/workload/KeySetLowPinLaw" = some m.cls := findClass_of_methodNamed Bd.named
  have hnm := (name_of_methodNamed Bd.named Bd.method).1
  have X0 : Stand p l e room_1 s m #[(.long q1), (.long q2)] below meth c s₁ [] 0 0 := Stand.of_body Bd
  have e0 : s₁.heap = h0 := by rw [← hh, Bd.state]; rfl
  have N0 := Fr.nil n0
  have pre0 : ∀ t, Steps p.tables e below (s₁.setTop (mkF m 0 #[.val (.long q1), .second, .val (.long q2), .second, .unset, .unset, .unset, .unset, .unset, .unset, .unset] [])) t → Steps p.tables e below (s₁.setTop (entryFrame m #[(.long q1), (.long q2)] maxLocals)) t := fun t k => castTop (ef_0 m q1 q2) k
  obtain ⟨_, _, ⟨T1, L1, k1, n1⟩, -, X1, ⟨Lc1, hQ1, l1, y1, z1⟩, st1⟩ := Jvm.LawKit.callS X0 hx (y := (⟨"dev/shoalmap/workload/KeySet", "low", "(JJI)J"⟩ : MethodName)) hown (mvT hZ (hw _ (List.mem_of_getElem? (i := 0) rfl))) (mvT hZ (hw _ (List.mem_of_getElem? (i := 1) rfl))) (mvT hZ (hw _ (List.mem_of_getElem? (i := 2) rfl))) (mvT hZ (hw _ (List.mem_of_getElem? (i := 3) rfl))) (by decide) (backOf (W := 0) (rm1 l Z a0 hw [] q1 q2 (64 : Int32) h0 n0 Z0 ) hZ (hw _ (List.mem_of_getElem? (i := 3) rfl)) (hw _ (List.mem_of_getElem? (i := 2) rfl)) (by decide) (by decide)) (g := (mkF m 4 #[.val (.long q1), .second, .val (.long q2), .second, .unset, .unset, .unset, .unset, .unset, .unset, .unset] [(.int (64 : Int32)), (.long q2), (.long q1)])) rfl (by rw [hml]; rfl) (argsL := [(.long q1), (.long q2), (.int (64 : Int32))]) (rest := []) (lenOf pd_0_0 rfl) rfl (by show 2 * 0 + _ ≤ _; exact Nat.le_of_eq rfl) (hb hby at_4) (fun _ _ => ⟨rfl, e0, (by decide : 0 + 0 ≤ _), (by decide : 0 + 0 ≤ _)⟩)
  dsimp only [Pt.U, Pt.locs, Pt.cells, Pt.slots] at X1 l1 y1 z1 st1 hQ1
  subst l1 y1 z1
  obtain ⟨hv1, N1q, e1⟩ := hQ1
  have N1 := Fr.app N0 N1q
  rw [f1, if_neg (by decide : ¬ ((64 : Int32) = (128 : Int32)))] at hv1
  subst hv1
  obtain ⟨_, _, ⟨T2, L2, k2, n2⟩, -, X2, ⟨Lc2, hQ2, l2, y2, z2⟩, st2⟩ := Jvm.LawKit.callS X1 hx (y := (⟨"dev/shoalmap/workload/KeySet", "low", "(JJI)J"⟩ : MethodName)) hown (mvT hZ (hw _ (List.mem_of_getElem? (i := 0) rfl))) (mvT hZ (hw _ (List.mem_of_getElem? (i := 1) rfl))) (mvT hZ (hw _ (List.mem_of_getElem? (i := 2) rfl))) (mvT hZ (hw _ (List.mem_of_getElem? (i := 3) rfl))) (by decide) (backOf (W := 0) (rm1 l Z a0 hw [] q1 q2 (128 : Int32) h0 n0 Z0 ) hZ (hw _ (List.mem_of_getElem? (i := 3) rfl)) (hw _ (List.mem_of_getElem? (i := 2) rfl)) (by decide) (by decide)) (g := (mkF m 14 #[.val (.long q1), .second, .val (.long q2), .second, .val (.long (f2 q1 q2)), .second, .unset, .unset, .unset, .unset, .unset] [(.int (128 : Int32)), (.long q2), (.long q1)])) rfl (by rw [hml]; rfl) (argsL := [(.long q1), (.long q2), (.int (128 : Int32))]) (rest := []) (lenOf pd_0_0 rfl) rfl (by show 2 * 0 + _ ≤ _; exact Nat.le_of_eq rfl) (hb hby at_14) (fun _ _ => ⟨rfl, e1, (by decide : 0 + 0 ≤ _), (by decide : 0 + 0 ≤ _)⟩)
  dsimp only [Pt.U, Pt.locs, Pt.cells, Pt.slots] at X2 l2 y2 z2 st2 hQ2
  subst l2 y2 z2
  obtain ⟨hv2, N2q, e2⟩ := hQ2
  have N2 := Fr.app N1 N2q
  rw [f1, if_pos (by decide : (128 : Int32) = (128 : Int32))] at hv2
  subst hv2
  obtain ⟨_, _, ⟨T3, L3, k3, n3⟩, -, X3, ⟨Lc3, hQ3, l3, y3, z3⟩, st3⟩ := Jvm.LawKit.callS X2 hx (y := (⟨"dev/shoalmap/workload/KeySetLowPinLaw", "fmix64", "(J)J"⟩ : MethodName)) hown (mvT hZ (hw _ (List.mem_of_getElem? (i := 12) rfl))) (mvT hZ (hw _ (List.mem_of_getElem? (i := 13) rfl))) (mvT hZ (hw _ (List.mem_of_getElem? (i := 14) rfl))) (mvT hZ (hw _ (List.mem_of_getElem? (i := 15) rfl))) (by decide) (backOf (W := 2) (rm3 l Z a0 hw [] (q1 + ((q2 + (1 : Int64)) * (-7046029254386353131 : Int64))) h0 n0 Z0 ) hZ (hw _ (List.mem_of_getElem? (i := 15) rfl)) (hw _ (List.mem_of_getElem? (i := 14) rfl)) (by decide) (by decide)) (g := (mkF m 30 #[.val (.long q1), .second, .val (.long q2), .second, .val (.long (f2 q1 q2)), .second, .val (.long (f2 q1 (((2 : Int64) * q2) + (1 : Int64)))), .second, .unset, .unset, .unset] [(.long (q1 + ((q2 + (1 : Int64)) * (-7046029254386353131 : Int64)))), (.long (f2 q1 q2))])) rfl (by rw [hml]; rfl) (argsL := [(.long (q1 + ((q2 + (1 : Int64)) * (-7046029254386353131 : Int64))))]) (rest := [(.long (f2 q1 q2))]) (lenOf pd_0_2 rfl) rfl (by show 2 * 0 + _ ≤ _; exact Nat.le_of_eq rfl) (hb hby at_30) (fun _ _ => ⟨rfl, e2, (by decide : 0 + 0 ≤ _), (by decide : 0 + 0 ≤ _)⟩)
  dsimp only [Pt.U, Pt.locs, Pt.cells, Pt.slots] at X3 l3 y3 z3 st3 hQ3
  subst l3 y3 z3
  obtain ⟨rfl, N3q, e3⟩ := hQ3
  have N3 := Fr.app N2 N3q
  obtain ⟨_, _, ⟨T4, L4, k4, n4⟩, -, X4, ⟨Lc4, hQ4, l4, y4, z4⟩, st4⟩ := Jvm.LawKit.callS X3 hx (y := (⟨"dev/shoalmap/workload/KeySetLowPinLaw", "fmix64", "(J)J"⟩ : MethodName)) hown (mvT hZ (hw _ (List.mem_of_getElem? (i := 12) rfl))) (mvT hZ (hw _ (List.mem_of_getElem? (i := 13) rfl))) (mvT hZ (hw _ (List.mem_of_getElem? (i := 14) rfl))) (mvT hZ (hw _ (List.mem_of_getElem? (i := 15) rfl))) (by decide) (backOf (W := 2) (rm3 l Z a0 hw [] (q1 + ((((2 : Int64) * q2) + (2 : Int64)) * (-7046029254386353131 : Int64))) h0 n0 Z0 ) hZ (hw _ (List.mem_of_getElem? (i := 15) rfl)) (hw _ (List.mem_of_getElem? (i := 14) rfl)) (by decide) (by decide)) (g := (mkF m 61 #[.val (.long q1), .second, .val (.long q2), .second, .val (.long (f2 q1 q2)), .second, .val (.long (f2 q1 (((2 : Int64) * q2) + (1 : Int64)))), .second, .val (.int (1 : Int32)), .unset, .unset] [(.long (q1 + ((((2 : Int64) * q2) + (2 : Int64)) * (-7046029254386353131 : Int64)))), (.long (f2 q1 (((2 : Int64) * q2) + (1 : Int64))))])) rfl (by rw [hml]; rfl) (argsL := [(.long (q1 + ((((2 : Int64) * q2) + (2 : Int64)) * (-7046029254386353131 : Int64))))]) (rest := [(.long (f2 q1 (((2 : Int64) * q2) + (1 : Int64))))]) (lenOf pd_0_2 rfl) rfl (by show 2 * 0 + _ ≤ _; exact Nat.le_of_eq rfl) (hb hby at_61) (fun _ _ => ⟨rfl, e3, (by decide : 0 + 0 ≤ _), (by decide : 0 + 0 ≤ _)⟩)
  dsimp only [Pt.U, Pt.locs, Pt.cells, Pt.slots] at X4 l4 y4 z4 st4 hQ4
  subst l4 y4 z4
  obtain ⟨rfl, N4q, e4⟩ := hQ4
  have N4 := Fr.app N3 N4q
  obtain ⟨_, _, ⟨T5, L5, k5, n5⟩, -, X5, ⟨Lc5, hQ5, l5, y5, z5⟩, st5⟩ := Jvm.LawKit.callS X4 hx (y := (⟨"dev/shoalmap/workload/KeySet", "high", "(JJI)J"⟩ : MethodName)) hown (mvT hZ (hw _ (List.mem_of_getElem? (i := 19) rfl))) (mvT hZ (hw _ (List.mem_of_getElem? (i := 20) rfl))) (mvT hZ (hw _ (List.mem_of_getElem? (i := 2) rfl))) (mvT hZ (hw _ (List.mem_of_getElem? (i := 21) rfl))) (by decide) (backOf (W := 2) (rm4 l Z a0 hw [] (q1 + (-7046029254386353131 : Int64)) q2 (128 : Int32) h0 n0 Z0 ) hZ (hw _ (List.mem_of_getElem? (i := 21) rfl)) (hw _ (List.mem_of_getElem? (i := 2) rfl)) (by decide) (by decide)) (g := (mkF m 86 #[.val (.long q1), .second, .val (.long q2), .second, .val (.long (f2 q1 q2)), .second, .val (.long (f2 q1 (((2 : Int64) * q2) + (1 : Int64)))), .second, .val (.int (1 : Int32)), .val (.int (1 : Int32)), .unset] [(.int (128 : Int32)), (.long q2), (.long (q1 + (-7046029254386353131 : Int64))), (.long (f2 q1 (((2 : Int64) * q2) + (1 : Int64))))])) rfl (by rw [hml]; rfl) (argsL := [(.long (q1 + (-7046029254386353131 : Int64))), (.long q2), (.int (128 : Int32))]) (rest := [(.long (f2 q1 (((2 : Int64) * q2) + (1 : Int64))))]) (lenOf pd_0_0 rfl) rfl (by show 2 * 0 + _ ≤ _; exact Nat.le_of_eq rfl) (hb hby at_86) (fun _ _ => ⟨rfl, e4, (by decide : 0 + 0 ≤ _), (by decide : 0 + 0 ≤ _)⟩)
  dsimp only [Pt.U, Pt.locs, Pt.cells, Pt.slots] at X5 l5 y5 z5 st5 hQ5
  subst l5 y5 z5
  obtain ⟨hv5, N5q, e5⟩ := hQ5
  have N5 := Fr.app N4 N5q
  rw [f4, if_pos (by decide : (128 : Int32) = (128 : Int32))] at hv5
  subst hv5
  obtain ⟨fs, hr, hrun, hended, hW, hsame⟩ := X5.leave (v := some (.int (1 : Int32))) (fun h => by rw [Bd.returns] at h; cases h)
  refine ⟨_, _, pre0 _ ?_, hrun, hended, _, _, rfl, ?_, ⟨_, rfl⟩, hW, hsame.mono (by decide) (by decide)⟩
  · show Steps p.tables e below (s₁.setTop (mkF m 0 #[.val (.long q1), .second, .val (.long q2), .second, .unset, .unset, .unset, .unset, .unset, .unset, .unset] [])) _
    refine XS.lloadN X0.here hx rfl (hb hby at_0) rfl ?_
    show Steps p.tables e below (s₁.setTop (mkF m 1 #[.val (.long q1), .second, .val (.long q2), .second, .unset, .unset, .unset, .unset, .unset, .unset, .unset] [(.long q1)])) _
    refine XS.lloadN X0.here hx rfl (hb hby at_1) rfl ?_
    show Steps p.tables e below (s₁.setTop (mkF m 2 #[.val (.long q1), .second, .val (.long q2), .second, .unset, .unset, .unset, .unset, .unset, .unset, .unset] [(.long q2), (.long q1)])) _
    refine XS.bipush X0.here hx rfl (hb hby at_2) ?_
    show Steps p.tables e below (s₁.setTop (mkF m 4 #[.val (.long q1), .second, .val (.long q2), .second, .unset, .unset, .unset, .unset, .unset, .unset, .unset] [(.int (64 : Int32)), (.long q2), (.long q1)])) _
    refine st1 _ ?_
    show Steps p.tables e below (T1.setTop (mkF m 7 #[.val (.long q1), .second, .val (.long q2), .second, .unset, .unset, .unset, .unset, .unset, .unset, .unset] [(.long (f2 q1 q2))])) _
    refine XS.lstore X1.here hx rfl (hb hby at_7) rfl (l' := #[.val (.long q1), .second, .val (.long q2), .second, .val (.long (f2 q1 q2)), .second, .unset, .unset, .unset, .unset, .unset]) rfl ?_
    show Steps p.tables e below (T1.setTop (mkF m 9 #[.val (.long q1), .second, .val (.long q2), .second, .val (.long (f2 q1 q2)), .second, .unset, .unset, .unset, .unset, .unset] [])) _
    refine XS.lloadN X1.here hx rfl (hb hby at_9) rfl ?_
    show Steps p.tables e below (T1.setTop (mkF m 10 #[.val (.long q1), .second, .val (.long q2), .second, .val (.long (f2 q1 q2)), .second, .unset, .unset, .unset, .unset, .unset] [(.long q1)])) _
    refine XS.lloadN X1.here hx rfl (hb hby at_10) rfl ?_
    show Steps p.tables e below (T1.setTop (mkF m 11 #[.val (.long q1), .second, .val (.long q2), .second, .val (.long (f2 q1 q2)), .second, .unset, .unset, .unset, .unset, .unset] [(.long q2), (.long q1)])) _
    refine XS.sipush X1.here hx rfl (hb hby at_11) ?_
    show Steps p.tables e below (T1.setTop (mkF m 14 #[.val (.long q1), .second, .val (.long q2), .second, .val (.long (f2 q1 q2)), .second, .unset, .unset, .unset, .unset, .unset] [(.int (128 : Int32)), (.long q2), (.long q1)])) _
    refine st2 _ ?_
    show Steps p.tables e below (T2.setTop (mkF m 17 #[.val (.long q1), .second, .val (.long q2), .second, .val (.long (f2 q1 q2)), .second, .unset, .unset, .unset, .unset, .unset] [(.long (f2 q1 (((2 : Int64) * q2) + (1 : Int64))))])) _
    refine XS.lstore X2.here hx rfl (hb hby at_17) rfl (l' := #[.val (.long q1), .second, .val (.long q2), .second, .val (.long (f2 q1 q2)), .second, .val (.long (f2 q1 (((2 : Int64) * q2) + (1 : Int64)))), .second, .unset, .unset, .unset]) rfl ?_
    show Steps p.tables e below (T2.setTop (mkF m 19 #[.val (.long q1), .second, .val (.long q2), .second, .val (.long (f2 q1 q2)), .second, .val (.long (f2 q1 (((2 : Int64) * q2) + (1 : Int64)))), .second, .unset, .unset, .unset] [])) _
    refine XS.lload X2.here hx rfl (hb hby at_19) rfl ?_
    show Steps p.tables e below (T2.setTop (mkF m 21 #[.val (.long q1), .second, .val (.long q2), .second, .val (.long (f2 q1 q2)), .second, .val (.long (f2 q1 (((2 : Int64) * q2) + (1 : Int64)))), .second, .unset, .unset, .unset] [(.long (f2 q1 q2))])) _
    refine XS.lloadN X2.here hx rfl (hb hby at_21) rfl ?_
    show Steps p.tables e below (T2.setTop (mkF m 22 #[.val (.long q1), .second, .val (.long q2), .second, .val (.long (f2 q1 q2)), .second, .val (.long (f2 q1 (((2 : Int64) * q2) + (1 : Int64)))), .second, .unset, .unset, .unset] [(.long q1), (.long (f2 q1 q2))])) _
    refine XS.lloadN X2.here hx rfl (hb hby at_22) rfl ?_
    show Steps p.tables e below (T2.setTop (mkF m 23 #[.val (.long q1), .second, .val (.long q2), .second, .val (.long (f2 q1 q2)), .second, .val (.long (f2 q1 (((2 : Int64) * q2) + (1 : Int64)))), .second, .unset, .unset, .unset] [(.long q2), (.long q1), (.long (f2 q1 q2))])) _
    refine XS.lconst X2.here hx rfl (hb hby at_23) ?_
    show Steps p.tables e below (T2.setTop (mkF m 24 #[.val (.long q1), .second, .val (.long q2), .second, .val (.long (f2 q1 q2)), .second, .val (.long (f2 q1 (((2 : Int64) * q2) + (1 : Int64)))), .second, .unset, .unset, .unset] [(.long (1 : Int64)), (.long q2), (.long q1), (.long (f2 q1 q2))])) _
    refine XS.ladd X2.here hx rfl (hb hby at_24) rfl ?_
    show Steps p.tables e below (T2.setTop (mkF m 25 #[.val (.long q1), .second, .val (.long q2), .second, .val (.long (f2 q1 q2)), .second, .val (.long (f2 q1 (((2 : Int64) * q2) + (1 : Int64)))), .second, .unset, .unset, .unset] [(.long (q2 + (1 : Int64))), (.long q1), (.long (f2 q1 q2))])) _
    refine X2.ldc2Long hx hown (mvT hZ (hw _ (List.mem_of_getElem? (i := 11) rfl))) (g := (mkF m 25 #[.val (.long q1), .second, .val (.long q2), .second, .val (.long (f2 q1 q2)), .second, .val (.long (f2 q1 (((2 : Int64) * q2) + (1 : Int64)))), .second, .unset, .unset, .unset] [(.long (q2 + (1 : Int64))), (.long q1), (.long (f2 q1 q2))])) rfl (hb hby at_25) _ ?_
    show Steps p.tables e below (T2.setTop (mkF m 28 #[.val (.long q1), .second, .val (.long q2), .second, .val (.long (f2 q1 q2)), .second, .val (.long (f2 q1 (((2 : Int64) * q2) + (1 : Int64)))), .second, .unset, .unset, .unset] [(.long (-7046029254386353131 : Int64)), (.long (q2 + (1 : Int64))), (.long q1), (.long (f2 q1 q2))])) _
    refine XS.lmul X2.here hx rfl (hb hby at_28) rfl ?_
    show Steps p.tables e below (T2.setTop (mkF m 29 #[.val (.long q1), .second, .val (.long q2), .second, .val (.long (f2 q1 q2)), .second, .val (.long (f2 q1 (((2 : Int64) * q2) + (1 : Int64)))), .second, .unset, .unset, .unset] [(.long ((q2 + (1 : Int64)) * (-7046029254386353131 : Int64))), (.long q1), (.long (f2 q1 q2))])) _
    refine XS.ladd X2.here hx rfl (hb hby at_29) rfl ?_
    show Steps p.tables e below (T2.setTop (mkF m 30 #[.val (.long q1), .second, .val (.long q2), .second, .val (.long (f2 q1 q2)), .second, .val (.long (f2 q1 (((2 : Int64) * q2) + (1 : Int64)))), .second, .unset, .unset, .unset] [(.long (q1 + ((q2 + (1 : Int64)) * (-7046029254386353131 : Int64)))), (.long (f2 q1 q2))])) _
    refine st3 _ ?_
    show Steps p.tables e below (T3.setTop (mkF m 33 #[.val (.long q1), .second, .val (.long q2), .second, .val (.long (f2 q1 q2)), .second, .val (.long (f2 q1 (((2 : Int64) * q2) + (1 : Int64)))), .second, .unset, .unset, .unset] [(.long (f3 (q1 + ((q2 + (1 : Int64)) * (-7046029254386353131 : Int64))))), (.long (f2 q1 q2))])) _
    refine XS.lcmp X3.here hx rfl (hb hby at_33) rfl ?_
    show Steps p.tables e below (T3.setTop (mkF m 34 #[.val (.long q1), .second, .val (.long q2), .second, .val (.long (f2 q1 q2)), .second, .val (.long (f2 q1 (((2 : Int64) * q2) + (1 : Int64)))), .second, .unset, .unset, .unset] [(.int (lcmpW (f2 q1 q2) (f3 (q1 + ((q2 + (1 : Int64)) * (-7046029254386353131 : Int64))))))])) _
    refine XS.ifNo X3.here hx rfl (hb hby at_34) rfl ((if0 _ _).trans (teq ((lw_eq (f2 q1 q2) (f3 (q1 + ((q2 + (1 : Int64)) * (-7046029254386353131 : Int64))))).mpr (own_p0 q1 q2))).2) ?_
    show Steps p.tables e below (T3.setTop (mkF m 37 #[.val (.long q1), .second, .val (.long q2), .second, .val (.long (f2 q1 q2)), .second, .val (.long (f2 q1 (((2 : Int64) * q2) + (1 : Int64)))), .second, .unset, .unset, .unset] [])) _
    refine XS.iconst X3.here hx rfl (hb hby at_37) ?_
    show Steps p.tables e below (T3.setTop (mkF m 38 #[.val (.long q1), .second, .val (.long q2), .second, .val (.long (f2 q1 q2)), .second, .val (.long (f2 q1 (((2 : Int64) * q2) + (1 : Int64)))), .second, .unset, .unset, .unset] [(.int (1 : Int32))])) _
    refine XS.goto X3.here hx rfl (pc0 := 38) (pc' := 42) rfl (hb hby at_38) (by decide) (by decide) ?_
    show Steps p.tables e below (T3.setTop (mkF m 42 #[.val (.long q1), .second, .val (.long q2), .second, .val (.long (f2 q1 q2)), .second, .val (.long (f2 q1 (((2 : Int64) * q2) + (1 : Int64)))), .second, .unset, .unset, .unset] [(.int (1 : Int32))])) _
    refine XS.istore X3.here hx rfl (hb hby at_42) rfl (l' := #[.val (.long q1), .second, .val (.long q2), .second, .val (.long (f2 q1 q2)), .second, .val (.long (f2 q1 (((2 : Int64) * q2) + (1 : Int64)))), .second, .val (.int (1 : Int32)), .unset, .unset]) rfl ?_
    show Steps p.tables e below (T3.setTop (mkF m 44 #[.val (.long q1), .second, .val (.long q2), .second, .val (.long (f2 q1 q2)), .second, .val (.long (f2 q1 (((2 : Int64) * q2) + (1 : Int64)))), .second, .val (.int (1 : Int32)), .unset, .unset] [])) _
    refine XS.lload X3.here hx rfl (hb hby at_44) rfl ?_
    show Steps p.tables e below (T3.setTop (mkF m 46 #[.val (.long q1), .second, .val (.long q2), .second, .val (.long (f2 q1 q2)), .second, .val (.long (f2 q1 (((2 : Int64) * q2) + (1 : Int64)))), .second, .val (.int (1 : Int32)), .unset, .unset] [(.long (f2 q1 (((2 : Int64) * q2) + (1 : Int64))))])) _
    refine XS.lloadN X3.here hx rfl (hb hby at_46) rfl ?_
    show Steps p.tables e below (T3.setTop (mkF m 47 #[.val (.long q1), .second, .val (.long q2), .second, .val (.long (f2 q1 q2)), .second, .val (.long (f2 q1 (((2 : Int64) * q2) + (1 : Int64)))), .second, .val (.int (1 : Int32)), .unset, .unset] [(.long q1), (.long (f2 q1 (((2 : Int64) * q2) + (1 : Int64))))])) _
    refine X3.ldc2Long hx hown (mvT hZ (hw _ (List.mem_of_getElem? (i := 18) rfl))) (g := (mkF m 47 #[.val (.long q1), .second, .val (.long q2), .second, .val (.long (f2 q1 q2)), .second, .val (.long (f2 q1 (((2 : Int64) * q2) + (1 : Int64)))), .second, .val (.int (1 : Int32)), .unset, .unset] [(.long q1), (.long (f2 q1 (((2 : Int64) * q2) + (1 : Int64))))])) rfl (hb hby at_47) _ ?_
    show Steps p.tables e below (T3.setTop (mkF m 50 #[.val (.long q1), .second, .val (.long q2), .second, .val (.long (f2 q1 q2)), .second, .val (.long (f2 q1 (((2 : Int64) * q2) + (1 : Int64)))), .second, .val (.int (1 : Int32)), .unset, .unset] [(.long (2 : Int64)), (.long q1), (.long (f2 q1 (((2 : Int64) * q2) + (1 : Int64))))])) _
    refine XS.lloadN X3.here hx rfl (hb hby at_50) rfl ?_
    show Steps p.tables e below (T3.setTop (mkF m 51 #[.val (.long q1), .second, .val (.long q2), .second, .val (.long (f2 q1 q2)), .second, .val (.long (f2 q1 (((2 : Int64) * q2) + (1 : Int64)))), .second, .val (.int (1 : Int32)), .unset, .unset] [(.long q2), (.long (2 : Int64)), (.long q1), (.long (f2 q1 (((2 : Int64) * q2) + (1 : Int64))))])) _
    refine XS.lmul X3.here hx rfl (hb hby at_51) rfl ?_
    show Steps p.tables e below (T3.setTop (mkF m 52 #[.val (.long q1), .second, .val (.long q2), .second, .val (.long (f2 q1 q2)), .second, .val (.long (f2 q1 (((2 : Int64) * q2) + (1 : Int64)))), .second, .val (.int (1 : Int32)), .unset, .unset] [(.long ((2 : Int64) * q2)), (.long q1), (.long (f2 q1 (((2 : Int64) * q2) + (1 : Int64))))])) _
    refine X3.ldc2Long hx hown (mvT hZ (hw _ (List.mem_of_getElem? (i := 18) rfl))) (g := (mkF m 52 #[.val (.long q1), .second, .val (.long q2), .second, .val (.long (f2 q1 q2)), .second, .val (.long (f2 q1 (((2 : Int64) * q2) + (1 : Int64)))), .second, .val (.int (1 : Int32)), .unset, .unset] [(.long ((2 : Int64) * q2)), (.long q1), (.long (f2 q1 (((2 : Int64) * q2) + (1 : Int64))))])) rfl (hb hby at_52) _ ?_
    show Steps p.tables e below (T3.setTop (mkF m 55 #[.val (.long q1), .second, .val (.long q2), .second, .val (.long (f2 q1 q2)), .second, .val (.long (f2 q1 (((2 : Int64) * q2) + (1 : Int64)))), .second, .val (.int (1 : Int32)), .unset, .unset] [(.long (2 : Int64)), (.long ((2 : Int64) * q2)), (.long q1), (.long (f2 q1 (((2 : Int64) * q2) + (1 : Int64))))])) _
    refine XS.ladd X3.here hx rfl (hb hby at_55) rfl ?_
    show Steps p.tables e below (T3.setTop (mkF m 56 #[.val (.long q1), .second, .val (.long q2), .second, .val (.long (f2 q1 q2)), .second, .val (.long (f2 q1 (((2 : Int64) * q2) + (1 : Int64)))), .second, .val (.int (1 : Int32)), .unset, .unset] [(.long (((2 : Int64) * q2) + (2 : Int64))), (.long q1), (.long (f2 q1 (((2 : Int64) * q2) + (1 : Int64))))])) _
    refine X3.ldc2Long hx hown (mvT hZ (hw _ (List.mem_of_getElem? (i := 11) rfl))) (g := (mkF m 56 #[.val (.long q1), .second, .val (.long q2), .second, .val (.long (f2 q1 q2)), .second, .val (.long (f2 q1 (((2 : Int64) * q2) + (1 : Int64)))), .second, .val (.int (1 : Int32)), .unset, .unset] [(.long (((2 : Int64) * q2) + (2 : Int64))), (.long q1), (.long (f2 q1 (((2 : Int64) * q2) + (1 : Int64))))])) rfl (hb hby at_56) _ ?_
    show Steps p.tables e below (T3.setTop (mkF m 59 #[.val (.long q1), .second, .val (.long q2), .second, .val (.long (f2 q1 q2)), .second, .val (.long (f2 q1 (((2 : Int64) * q2) + (1 : Int64)))), .second, .val (.int (1 : Int32)), .unset, .unset] [(.long (-7046029254386353131 : Int64)), (.long (((2 : Int64) * q2) + (2 : Int64))), (.long q1), (.long (f2 q1 (((2 : Int64) * q2) + (1 : Int64))))])) _
    refine XS.lmul X3.here hx rfl (hb hby at_59) rfl ?_
    show Steps p.tables e below (T3.setTop (mkF m 60 #[.val (.long q1), .second, .val (.long q2), .second, .val (.long (f2 q1 q2)), .second, .val (.long (f2 q1 (((2 : Int64) * q2) + (1 : Int64)))), .second, .val (.int (1 : Int32)), .unset, .unset] [(.long ((((2 : Int64) * q2) + (2 : Int64)) * (-7046029254386353131 : Int64))), (.long q1), (.long (f2 q1 (((2 : Int64) * q2) + (1 : Int64))))])) _
    refine XS.ladd X3.here hx rfl (hb hby at_60) rfl ?_
    show Steps p.tables e below (T3.setTop (mkF m 61 #[.val (.long q1), .second, .val (.long q2), .second, .val (.long (f2 q1 q2)), .second, .val (.long (f2 q1 (((2 : Int64) * q2) + (1 : Int64)))), .second, .val (.int (1 : Int32)), .unset, .unset] [(.long (q1 + ((((2 : Int64) * q2) + (2 : Int64)) * (-7046029254386353131 : Int64)))), (.long (f2 q1 (((2 : Int64) * q2) + (1 : Int64))))])) _
    refine st4 _ ?_
    show Steps p.tables e below (T4.setTop (mkF m 64 #[.val (.long q1), .second, .val (.long q2), .second, .val (.long (f2 q1 q2)), .second, .val (.long (f2 q1 (((2 : Int64) * q2) + (1 : Int64)))), .second, .val (.int (1 : Int32)), .unset, .unset] [(.long (f3 (q1 + ((((2 : Int64) * q2) + (2 : Int64)) * (-7046029254386353131 : Int64))))), (.long (f2 q1 (((2 : Int64) * q2) + (1 : Int64))))])) _
    refine XS.lcmp X4.here hx rfl (hb hby at_64) rfl ?_
    show Steps p.tables e below (T4.setTop (mkF m 65 #[.val (.long q1), .second, .val (.long q2), .second, .val (.long (f2 q1 q2)), .second, .val (.long (f2 q1 (((2 : Int64) * q2) + (1 : Int64)))), .second, .val (.int (1 : Int32)), .unset, .unset] [(.int (lcmpW (f2 q1 (((2 : Int64) * q2) + (1 : Int64))) (f3 (q1 + ((((2 : Int64) * q2) + (2 : Int64)) * (-7046029254386353131 : Int64))))))])) _
    refine XS.ifNo X4.here hx rfl (hb hby at_65) rfl ((if0 _ _).trans (teq ((lw_eq (f2 q1 (((2 : Int64) * q2) + (1 : Int64))) (f3 (q1 + ((((2 : Int64) * q2) + (2 : Int64)) * (-7046029254386353131 : Int64))))).mpr (own_p1 q1 q2))).2) ?_
    show Steps p.tables e below (T4.setTop (mkF m 68 #[.val (.long q1), .second, .val (.long q2), .second, .val (.long (f2 q1 q2)), .second, .val (.long (f2 q1 (((2 : Int64) * q2) + (1 : Int64)))), .second, .val (.int (1 : Int32)), .unset, .unset] [])) _
    refine XS.iconst X4.here hx rfl (hb hby at_68) ?_
    show Steps p.tables e below (T4.setTop (mkF m 69 #[.val (.long q1), .second, .val (.long q2), .second, .val (.long (f2 q1 q2)), .second, .val (.long (f2 q1 (((2 : Int64) * q2) + (1 : Int64)))), .second, .val (.int (1 : Int32)), .unset, .unset] [(.int (1 : Int32))])) _
    refine XS.goto X4.here hx rfl (pc0 := 69) (pc' := 73) rfl (hb hby at_69) (by decide) (by decide) ?_
    show Steps p.tables e below (T4.setTop (mkF m 73 #[.val (.long q1), .second, .val (.long q2), .second, .val (.long (f2 q1 q2)), .second, .val (.long (f2 q1 (((2 : Int64) * q2) + (1 : Int64)))), .second, .val (.int (1 : Int32)), .unset, .unset] [(.int (1 : Int32))])) _
    refine XS.istore X4.here hx rfl (hb hby at_73) rfl (l' := #[.val (.long q1), .second, .val (.long q2), .second, .val (.long (f2 q1 q2)), .second, .val (.long (f2 q1 (((2 : Int64) * q2) + (1 : Int64)))), .second, .val (.int (1 : Int32)), .val (.int (1 : Int32)), .unset]) rfl ?_
    show Steps p.tables e below (T4.setTop (mkF m 75 #[.val (.long q1), .second, .val (.long q2), .second, .val (.long (f2 q1 q2)), .second, .val (.long (f2 q1 (((2 : Int64) * q2) + (1 : Int64)))), .second, .val (.int (1 : Int32)), .val (.int (1 : Int32)), .unset] [])) _
    refine XS.lload X4.here hx rfl (hb hby at_75) rfl ?_
    show Steps p.tables e below (T4.setTop (mkF m 77 #[.val (.long q1), .second, .val (.long q2), .second, .val (.long (f2 q1 q2)), .second, .val (.long (f2 q1 (((2 : Int64) * q2) + (1 : Int64)))), .second, .val (.int (1 : Int32)), .val (.int (1 : Int32)), .unset] [(.long (f2 q1 (((2 : Int64) * q2) + (1 : Int64))))])) _
    refine XS.lloadN X4.here hx rfl (hb hby at_77) rfl ?_
    show Steps p.tables e below (T4.setTop (mkF m 78 #[.val (.long q1), .second, .val (.long q2), .second, .val (.long (f2 q1 q2)), .second, .val (.long (f2 q1 (((2 : Int64) * q2) + (1 : Int64)))), .second, .val (.int (1 : Int32)), .val (.int (1 : Int32)), .unset] [(.long q1), (.long (f2 q1 (((2 : Int64) * q2) + (1 : Int64))))])) _
    refine X4.ldc2Long hx hown (mvT hZ (hw _ (List.mem_of_getElem? (i := 11) rfl))) (g := (mkF m 78 #[.val (.long q1), .second, .val (.long q2), .second, .val (.long (f2 q1 q2)), .second, .val (.long (f2 q1 (((2 : Int64) * q2) + (1 : Int64)))), .second, .val (.int (1 : Int32)), .val (.int (1 : Int32)), .unset] [(.long q1), (.long (f2 q1 (((2 : Int64) * q2) + (1 : Int64))))])) rfl (hb hby at_78) _ ?_
    show Steps p.tables e below (T4.setTop (mkF m 81 #[.val (.long q1), .second, .val (.long q2), .second, .val (.long (f2 q1 q2)), .second, .val (.long (f2 q1 (((2 : Int64) * q2) + (1 : Int64)))), .second, .val (.int (1 : Int32)), .val (.int (1 : Int32)), .unset] [(.long (-7046029254386353131 : Int64)), (.long q1), (.long (f2 q1 (((2 : Int64) * q2) + (1 : Int64))))])) _
    refine XS.ladd X4.here hx rfl (hb hby at_81) rfl ?_
    show Steps p.tables e below (T4.setTop (mkF m 82 #[.val (.long q1), .second, .val (.long q2), .second, .val (.long (f2 q1 q2)), .second, .val (.long (f2 q1 (((2 : Int64) * q2) + (1 : Int64)))), .second, .val (.int (1 : Int32)), .val (.int (1 : Int32)), .unset] [(.long (q1 + (-7046029254386353131 : Int64))), (.long (f2 q1 (((2 : Int64) * q2) + (1 : Int64))))])) _
    refine XS.lloadN X4.here hx rfl (hb hby at_82) rfl ?_
    show Steps p.tables e below (T4.setTop (mkF m 83 #[.val (.long q1), .second, .val (.long q2), .second, .val (.long (f2 q1 q2)), .second, .val (.long (f2 q1 (((2 : Int64) * q2) + (1 : Int64)))), .second, .val (.int (1 : Int32)), .val (.int (1 : Int32)), .unset] [(.long q2), (.long (q1 + (-7046029254386353131 : Int64))), (.long (f2 q1 (((2 : Int64) * q2) + (1 : Int64))))])) _
    refine XS.sipush X4.here hx rfl (hb hby at_83) ?_
    show Steps p.tables e below (T4.setTop (mkF m 86 #[.val (.long q1), .second, .val (.long q2), .second, .val (.long (f2 q1 q2)), .second, .val (.long (f2 q1 (((2 : Int64) * q2) + (1 : Int64)))), .second, .val (.int (1 : Int32)), .val (.int (1 : Int32)), .unset] [(.int (128 : Int32)), (.long q2), (.long (q1 + (-7046029254386353131 : Int64))), (.long (f2 q1 (((2 : Int64) * q2) + (1 : Int64))))])) _
    refine st5 _ ?_
    show Steps p.tables e below (T5.setTop (mkF m 89 #[.val (.long q1), .second, .val (.long q2), .second, .val (.long (f2 q1 q2)), .second, .val (.long (f2 q1 (((2 : Int64) * q2) + (1 : Int64)))), .second, .val (.int (1 : Int32)), .val (.int (1 : Int32)), .unset] [(.long (f2 (q1 + (-7046029254386353131 : Int64)) ((2 : Int64) * q2))), (.long (f2 q1 (((2 : Int64) * q2) + (1 : Int64))))])) _
    refine XS.lcmp X5.here hx rfl (hb hby at_89) rfl ?_
    show Steps p.tables e below (T5.setTop (mkF m 90 #[.val (.long q1), .second, .val (.long q2), .second, .val (.long (f2 q1 q2)), .second, .val (.long (f2 q1 (((2 : Int64) * q2) + (1 : Int64)))), .second, .val (.int (1 : Int32)), .val (.int (1 : Int32)), .unset] [(.int (lcmpW (f2 q1 (((2 : Int64) * q2) + (1 : Int64))) (f2 (q1 + (-7046029254386353131 : Int64)) ((2 : Int64) * q2))))])) _
    refine XS.ifNo X5.here hx rfl (hb hby at_90) rfl ((if0 _ _).trans (teq ((lw_eq (f2 q1 (((2 : Int64) * q2) + (1 : Int64))) (f2 (q1 + (-7046029254386353131 : Int64)) ((2 : Int64) * q2))).mpr (own_p2 q1 q2))).2) ?_
    show Steps p.tables e below (T5.setTop (mkF m 93 #[.val (.long q1), .second, .val (.long q2), .second, .val (.long (f2 q1 q2)), .second, .val (.long (f2 q1 (((2 : Int64) * q2) + (1 : Int64)))), .second, .val (.int (1 : Int32)), .val (.int (1 : Int32)), .unset] [])) _
    refine XS.iconst X5.here hx rfl (hb hby at_93) ?_
    show Steps p.tables e below (T5.setTop (mkF m 94 #[.val (.long q1), .second, .val (.long q2), .second, .val (.long (f2 q1 q2)), .second, .val (.long (f2 q1 (((2 : Int64) * q2) + (1 : Int64)))), .second, .val (.int (1 : Int32)), .val (.int (1 : Int32)), .unset] [(.int (1 : Int32))])) _
    refine XS.goto X5.here hx rfl (pc0 := 94) (pc' := 98) rfl (hb hby at_94) (by decide) (by decide) ?_
    show Steps p.tables e below (T5.setTop (mkF m 98 #[.val (.long q1), .second, .val (.long q2), .second, .val (.long (f2 q1 q2)), .second, .val (.long (f2 q1 (((2 : Int64) * q2) + (1 : Int64)))), .second, .val (.int (1 : Int32)), .val (.int (1 : Int32)), .unset] [(.int (1 : Int32))])) _
    refine XS.istore X5.here hx rfl (hb hby at_98) rfl (l' := #[.val (.long q1), .second, .val (.long q2), .second, .val (.long (f2 q1 q2)), .second, .val (.long (f2 q1 (((2 : Int64) * q2) + (1 : Int64)))), .second, .val (.int (1 : Int32)), .val (.int (1 : Int32)), .val (.int (1 : Int32))]) rfl ?_
    show Steps p.tables e below (T5.setTop (mkF m 100 #[.val (.long q1), .second, .val (.long q2), .second, .val (.long (f2 q1 q2)), .second, .val (.long (f2 q1 (((2 : Int64) * q2) + (1 : Int64)))), .second, .val (.int (1 : Int32)), .val (.int (1 : Int32)), .val (.int (1 : Int32))] [])) _
    refine XS.iload X5.here hx rfl (hb hby at_100) rfl ?_
    show Steps p.tables e below (T5.setTop (mkF m 102 #[.val (.long q1), .second, .val (.long q2), .second, .val (.long (f2 q1 q2)), .second, .val (.long (f2 q1 (((2 : Int64) * q2) + (1 : Int64)))), .second, .val (.int (1 : Int32)), .val (.int (1 : Int32)), .val (.int (1 : Int32))] [(.int (1 : Int32))])) _
    refine XS.ifNo X5.here hx rfl (hb hby at_102) rfl ((if0 _ _).trans (feq (by decide : ¬ ((1 : Int32) = (0 : Int32)))).1) ?_
    show Steps p.tables e below (T5.setTop (mkF m 105 #[.val (.long q1), .second, .val (.long q2), .second, .val (.long (f2 q1 q2)), .second, .val (.long (f2 q1 (((2 : Int64) * q2) + (1 : Int64)))), .second, .val (.int (1 : Int32)), .val (.int (1 : Int32)), .val (.int (1 : Int32))] [])) _
    refine XS.iload X5.here hx rfl (hb hby at_105) rfl ?_
    show Steps p.tables e below (T5.setTop (mkF m 107 #[.val (.long q1), .second, .val (.long q2), .second, .val (.long (f2 q1 q2)), .second, .val (.long (f2 q1 (((2 : Int64) * q2) + (1 : Int64)))), .second, .val (.int (1 : Int32)), .val (.int (1 : Int32)), .val (.int (1 : Int32))] [(.int (1 : Int32))])) _
    refine XS.ifNo X5.here hx rfl (hb hby at_107) rfl ((if0 _ _).trans (feq (by decide : ¬ ((1 : Int32) = (0 : Int32)))).1) ?_
    show Steps p.tables e below (T5.setTop (mkF m 110 #[.val (.long q1), .second, .val (.long q2), .second, .val (.long (f2 q1 q2)), .second, .val (.long (f2 q1 (((2 : Int64) * q2) + (1 : Int64)))), .second, .val (.int (1 : Int32)), .val (.int (1 : Int32)), .val (.int (1 : Int32))] [])) _
    refine XS.iload X5.here hx rfl (hb hby at_110) rfl ?_
    show Steps p.tables e below (T5.setTop (mkF m 112 #[.val (.long q1), .second, .val (.long q2), .second, .val (.long (f2 q1 q2)), .second, .val (.long (f2 q1 (((2 : Int64) * q2) + (1 : Int64)))), .second, .val (.int (1 : Int32)), .val (.int (1 : Int32)), .val (.int (1 : Int32))] [(.int (1 : Int32))])) _
    refine XS.ifNo X5.here hx rfl (hb hby at_112) rfl ((if0 _ _).trans (feq (by decide : ¬ ((1 : Int32) = (0 : Int32)))).1) ?_
    show Steps p.tables e below (T5.setTop (mkF m 115 #[.val (.long q1), .second, .val (.long q2), .second, .val (.long (f2 q1 q2)), .second, .val (.long (f2 q1 (((2 : Int64) * q2) + (1 : Int64)))), .second, .val (.int (1 : Int32)), .val (.int (1 : Int32)), .val (.int (1 : Int32))] [])) _
    refine XS.iconst X5.here hx rfl (hb hby at_115) ?_
    show Steps p.tables e below (T5.setTop (mkF m 116 #[.val (.long q1), .second, .val (.long q2), .second, .val (.long (f2 q1 q2)), .second, .val (.long (f2 q1 (((2 : Int64) * q2) + (1 : Int64)))), .second, .val (.int (1 : Int32)), .val (.int (1 : Int32)), .val (.int (1 : Int32))] [(.int (1 : Int32))])) _
    refine XS.goto X5.here hx rfl (pc0 := 116) (pc' := 120) rfl (hb hby at_116) (by decide) (by decide) ?_
    show Steps p.tables e below (T5.setTop (mkF m 120 #[.val (.long q1), .second, .val (.long q2), .second, .val (.long (f2 q1 q2)), .second, .val (.long (f2 q1 (((2 : Int64) * q2) + (1 : Int64)))), .second, .val (.int (1 : Int32)), .val (.int (1 : Int32)), .val (.int (1 : Int32))] [(.int (1 : Int32))])) _
    exact retN X5 hx (t := .boolean) Bd.returns (by simp) (hb hby at_120) hr
  · show Q0 Z q1 q2 h0 n0 _ T5.heap _
    rw [e5]
    exact ⟨by rw [f0], N5⟩
set_option maxRecDepth 65536 in
set_option maxHeartbeats 40000000 in
theorem comes_1 {Post : Tables → Env → Array Value → State → Outcome → State → Prop} (hpost : ∀ tb e args s v u, (limb_1_1.after args s (.returned v) u = true ∧ limb_1_2.after args s (.returned v) u = true ∧ True) → FrameEnd s (.returned v) u (Jvm.fieldLocs frame_1_writes args s ++ Jvm.arrayLocs frame_1_arrays args s ++ Jvm.staticLocs frame_1_statics s) 0 0 → Post tb e args s (.returned v) u) :
    ArmFor flags0 classFile x code maxLocals ret World_1 tables_1 room_1 Calls_1 rest_1 Pre_1 Post := by
  intro l hfl _ _ p e ha hc hk s m args below hf hA hF happ hP
  obtain ⟨hcalls, hrest, hpre⟩ := hP
  obtain ⟨-, -, -, hnamed, -, -, -, hat⟩ := (Spec.applies_iff hf).mp happ
  obtain ⟨hg, hn⟩ := and_e (Cond.before_iff.mp (show (Jvm.Cond.and given_1 narrow_1).before args s = true from hpre))
  obtain ⟨g1, g2⟩ := and_e hg
  obtain ⟨g3, g4⟩ := and_e g2
  obtain ⟨w0, w1, rfl⟩ : ∃ w0 w1 : Value, args = #[w0, w1] := by
    have hs : args.size = 2 := by simpa [Cond.value, given_1] using g1
    obtain ⟨L⟩ := args
    match L, hs with
    | [w0, w1], _ => exact ⟨w0, w1, rfl⟩
  have hw := fun d (hd : d ∈ tables_1) => atoms_spec (ws := Jvm.Cond.code x code maxLocals ret :: tables_1) hat d (List.mem_cons_of_mem _ hd)
  have hfit : Fit s := fun {y c} hc i hi => by
    obtain ⟨ha, rfl⟩ := Array.getElem?_eq_some_iff.mp hc
    have q := List.all_eq_true.mp ((Array.all_eq_true_iff_forall_mem.mp hF) _ (Array.getElem_mem ha)) i (List.mem_range.mpr hi)
    simpa [Array.getElem?_eq_getElem hi] using q
  obtain ⟨i0, ei0⟩ := isL_v g3
  obtain rfl : w0 = (.long i0) := Option.some.inj ei0
  obtain ⟨i1, ei1⟩ := isL_v g4
  obtain rfl : w1 = (.long i1) := Option.some.inj ei1
  obtain ⟨n, o, h1, h2, h3, v, L, rfl, hQ, hq⟩ := rm0 l s _ hw tables_1 i0 i1  s.heap s.heap.size (Nat.le_refl _)  p e ha hc hk s m _ below hf ((Spec.applies_iff_loose hf).mp happ).1 ⟨rfl, State.Warmed39.refl s, rfl⟩ trivial
  obtain ⟨hv, N⟩ := hQ
  rw [f0] at hv
  subst hv
  refine ⟨n, _, h1, h2, h3, hpost _ _ _ _ _ _ ⟨Cond.after_iff.mpr rfl, Cond.after_iff.mpr (eq_i res_at (Term.int_eval (1)) rfl), trivial⟩ ⟨hq.1, hq.2.1, (hq.2.2.sift fun y hy => Or.inr (N y hy)).mono (by decide) (by decide)⟩⟩
theorem main_1_1 : Claimed_1_1 := comes_1 fun _ _ _ _ _ _ h hF => ⟨h.1, hF⟩
theorem main_1_2 : Claimed_1_2 := comes_1 fun _ _ _ _ _ _ h hF => ⟨h.2.1, hF⟩
end Jvm.Pilot.@@N@@
namespace Jvm.Pilot.@@N@@
open Jvm Jvm.ClassFile Sem Op Lib Jvm.Free Jvm.Stand Jvm.Pilot.@@N@@.Jvm.D
/-! MADE BY PROGRAM (witnessworld.py) out of the Statement's table words and the real class files: 9 classes; the members and pool entries that the words name. The judged class is class 1, her method 2. -/
namespace start1
open Jvm.ClassFile
def u (s : String) : CpInfo := .utf8 (stringToUtf16 s)
/-- a pool by its gaps: so many unusable entries, then the entry; so many at the end -/
def gap : Nat → List CpInfo → List CpInfo
  | 0, r => r
  | n + 1, r => .unusable :: gap n r
def poolList (es : List (Nat × CpInfo)) (last : Nat) : List CpInfo := es.foldr (fun e r => gap e.1 (e.2 :: r)) (gap last [])
def pool (es : List (Nat × CpInfo)) (last : Nat) : Array CpInfo := ⟨poolList es last⟩
def fileOf (pool : Array CpInfo) (this : Nat) (attrs : Array Attribute := #[]) (ms : Array MethodInfo := #[]) (fl : Nat := 33) (sup : Nat := 0) (ifs : Array Nat := #[]) (fds : Array FieldInfo := #[]) : ClassFile where
  minorVersion := 0
  majorVersion := 65
  constantPool := pool
  accessFlags := fl
  thisClass := this
  superClass := sup
  interfaces := ifs
  fields := fds
  methods := ms
  attributes := attrs
def plain (name : String) (sup : Option ClassId) : Class where
  name := name
  kind := .ordinary
  loader := none
  accessFlags := 33
  super := sup
  interfaces := #[]
  cf := none
  fields := #[]
  methods := #[]
  instanceTypes := #[]
  staticTypes := #[]
  resolved := #[]
  callSites := []
  init := .initialized
  statics := none
  mirror := none

def pool0 : Array CpInfo := pool [(5, u "<init>"), (0, u "()V"), (1, .class_ 10), (1, u "java/lang/Object")] 113

def k0m0 : Method := { name := "<init>", desc := "()V", sig := { parameters := [], returnType := none }, accessFlags := 1, code := none }
/-- java/lang/Object -/
def k0 : Class := { plain "java/lang/Object" none with
  accessFlags := 33
  interfaces := #[]
  cf := some (fileOf pool0 8 #[] #[{ accessFlags := 1, nameIndex := 5, descriptorIndex := 6, attributes := #[] }] 33 0 #[] #[])
  fields := #[]
  methods := #[k0m0]
  instanceTypes := #[]
  staticTypes := #[]
  resolved := Array.replicate 124 none
  statics := none }

def pool1 : Array CpInfo := pool [(2, .class_ 4), (1, u "java/lang/Object"), (0, u "<init>"), (0, u "()V"), (0, .long 18397679294719823053), (1, .long 14181476777654086739), (1, .methodref 12 13), (0, .class_ 14), (0, .nameAndType 15 16), (0, u "dev/shoalmap/workload/KeySet"), (0, u "low"), (0, u "(JJI)J"), (0, .class_ 18), (0, u "dev/shoalmap/workload/KeySetLowPinLaw"), (0, .long 11400714819323198485), (1, .methodref 17 22), (0, .nameAndType 23 24), (0, u "fmix64"), (0, u "(J)J"), (0, .long 2), (1, .methodref 12 28), (0, .nameAndType 29 16), (0, u "high"), (0, u "G"), (0, u "J"), (3, u "law"), (0, u "(JJ)Z")] 3

def k1m0 : Method := { name := "<init>", desc := "()V", sig := { parameters := [], returnType := none }, accessFlags := 2, code := none }
def k1c1 : Code := { maxStack := 5, maxLocals := 2, code := method_2_code, exceptionTable := #[], attributes := #[] }
def k1m1 : Method := { name := "fmix64", desc := "(J)J", sig := { parameters := [.long], returnType := some .long }, accessFlags := 10, code := some k1c1 }
def k1c2 : Code := { maxStack := 8, maxLocals := 11, code := code, exceptionTable := #[], attributes := #[] }
def k1m2 : Method := { name := "law", desc := "(JJ)Z", sig := { parameters := [.long, .long], returnType := some .boolean }, accessFlags := 9, code := some k1c2 }
/-- dev/shoalmap/workload/KeySetLowPinLaw -/
def k1 : Class := { plain "dev/shoalmap/workload/KeySetLowPinLaw" (some 0) with
  accessFlags := 49
  interfaces := #[]
  cf := some (fileOf pool1 17 #[] #[{ accessFlags := 2, nameIndex := 5, descriptorIndex := 6, attributes := #[] }, { accessFlags := 10, nameIndex := 23, descriptorIndex := 24, attributes := #[] }, { accessFlags := 9, nameIndex := 35, descriptorIndex := 36, attributes := #[] }] 49 2 #[] #[{ accessFlags := 26, nameIndex := 30, descriptorIndex := 31, attributes := #[] }])
  fields := #[{ name := "G", type := .long, accessFlags := 26, slot := 0, constantValue := 0 }]
  methods := #[k1m0, k1m1, k1m2]
  instanceTypes := #[]
  staticTypes := #[.long]
  resolved := Array.replicate 40 none
  statics := none }

def pool2 : Array CpInfo := pool [(2, .class_ 4), (1, u "java/lang/Object"), (0, u "<init>"), (0, u "()V"), (0, .long 2), (1, .methodref 10 11), (0, .class_ 12), (0, .nameAndType 13 14), (0, u "dev/shoalmap/workload/KeySet"), (0, u "key"), (0, u "(JJ)J"), (0, .long 11400714819323198485), (1, .long 18397679294719823053), (1, .long 14181476777654086739), (1, u "GAMMA"), (0, u "J"), (3, u "high"), (0, u "(JJI)J"), (1, u "low")] 2

def k2m0 : Method := { name := "<init>", desc := "()V", sig := { parameters := [], returnType := none }, accessFlags := 2, code := none }
def k2c1 : Code := { maxStack := 6, maxLocals := 5, code := prog_22_method_2_code, exceptionTable := #[], attributes := #[] }
def k2m1 : Method := { name := "high", desc := "(JJI)J", sig := { parameters := [.long, .long, .int], returnType := some .long }, accessFlags := 9, code := some k2c1 }
def k2c2 : Code := { maxStack := 6, maxLocals := 5, code := prog_22_method_3_code, exceptionTable := #[], attributes := #[] }
def k2m2 : Method := { name := "low", desc := "(JJI)J", sig := { parameters := [.long, .long, .int], returnType := some .long }, accessFlags := 9, code := some k2c2 }
def k2c3 : Code := { maxStack := 6, maxLocals := 6, code := prog_22_method_4_code, exceptionTable := #[], attributes := #[] }
def k2m3 : Method := { name := "key", desc := "(JJ)J", sig := { parameters := [.long, .long], returnType := some .long }, accessFlags := 9, code := some k2c3 }
/-- dev/shoalmap/workload/KeySet -/
def k2 : Class := { plain "dev/shoalmap/workload/KeySet" (some 0) with
  accessFlags := 49
  interfaces := #[]
  cf := some (fileOf pool2 10 #[] #[{ accessFlags := 2, nameIndex := 5, descriptorIndex := 6, attributes := #[] }, { accessFlags := 9, nameIndex := 26, descriptorIndex := 27, attributes := #[] }, { accessFlags := 9, nameIndex := 29, descriptorIndex := 27, attributes := #[] }, { accessFlags := 9, nameIndex := 13, descriptorIndex := 14, attributes := #[] }] 49 2 #[] #[{ accessFlags := 24, nameIndex := 21, descriptorIndex := 22, attributes := #[] }])
  fields := #[{ name := "GAMMA", type := .long, accessFlags := 24, slot := 0, constantValue := 0 }]
  methods := #[k2m0, k2m1, k2m2, k2m3]
  instanceTypes := #[]
  staticTypes := #[.long]
  resolved := Array.replicate 32 none
  statics := none }

def pool3 : Array CpInfo := pool [(1, u "java/lang/Cloneable"), (0, .class_ 1), (0, u "java/lang/Object"), (0, .class_ 3)] 3

/-- java/lang/Cloneable -/
def k3 : Class := { plain "java/lang/Cloneable" (some 0) with
  accessFlags := 1537
  interfaces := #[]
  cf := some (fileOf pool3 2 #[] #[] 1537 4 #[] #[])
  fields := #[]
  methods := #[]
  instanceTypes := #[]
  staticTypes := #[]
  resolved := Array.replicate 8 none
  statics := none }

def pool4 : Array CpInfo := pool [(1, u "java/io/Serializable"), (0, .class_ 1), (0, u "java/lang/Object"), (0, .class_ 3)] 3

/-- java/io/Serializable -/
def k4 : Class := { plain "java/io/Serializable" (some 0) with
  accessFlags := 1537
  interfaces := #[]
  cf := some (fileOf pool4 2 #[] #[] 1537 4 #[] #[])
  fields := #[]
  methods := #[]
  instanceTypes := #[]
  staticTypes := #[]
  resolved := Array.replicate 8 none
  statics := none }

/-- the primitive byte -/
def k5 : Class := { plain "byte" none with kind := .primitive 'B', accessFlags := 0x411 }
/-- [B -/
def k6 : Class := { plain "[B" (some 0) with kind := .array 5 .byte, interfaces := #[3, 4], accessFlags := 1041 }

/-- the primitive int -/
def k7 : Class := { plain "int" none with kind := .primitive 'I', accessFlags := 0x411 }
/-- [I -/
def k8 : Class := { plain "[I" (some 0) with kind := .array 7 .int, interfaces := #[3, 4], accessFlags := 1041 }

def heap : Heap := #[]
def classes : Array Class := #[k0, k1, k2, k3, k4, k5, k6, k7, k8]
def interned : List (Array UInt16 × Addr) := []
def slotsUsed : Nat := 0
def theMethod : MethodId := ⟨1, 2⟩
def args0 : Array Value := #[.long 5, .long 7]
def aboutOver (below : List Frame) : State where
  vm := { classes := classes, interned := interned.toArray }
  heap := heap
  slotsUsed := slotsUsed
  threads := #[{ frames := .invoking theMethod args0 :: below }]
def below0 : List Frame := [.native { method := ⟨0, 0⟩, args := #[] }]
def about1 : State := aboutOver below0
def p0 : Program := .bare "" "" ""
def e0 : Env := launch0.env 0 0 0
theorem w_frames : about1.frames = Frame.invoking theMethod args0 :: below0 := rfl
set_option maxRecDepth 65536 in
theorem w_args : argsFit about1.vm theMethod args0 = true := by decide +kernel
set_option maxRecDepth 65536 in
theorem w_heap : heapFits about1 = true := by decide +kernel
set_option maxRecDepth 65536 in
theorem w_runnable : about1.curStatus? = some .runnable := by decide +kernel
set_option maxRecDepth 65536 in
theorem w_alone : about1.alone = true := by decide +kernel
set_option maxRecDepth 65536 in
theorem w_named : about1.methodNamed? x = some theMethod := by decide +kernel
set_option maxRecDepth 65536 in
theorem w_hears : about1.hears theMethod below0 = true := by decide +kernel
set_option maxRecDepth 65536 in
theorem w_ripe : about1.ripe theMethod args0 below0 = true := by decide +kernel
theorem w_running : about1.status = .running := rfl
set_option maxRecDepth 65536 in
theorem w_room : about1.hasRoom e0.platform room_1 = true :=
  launch0.hasRoom_least _ room_1 (by decide +kernel) (by decide +kernel) (by decide +kernel) (by decide +kernel) (by decide +kernel) (by decide +kernel)
theorem allAtoms_all (ts : List Jvm.Cond) (a : Array Jvm.Value) (st : Jvm.State) : (allAtoms ts).before a st = ts.all (fun c => c.before a st) := by
  induction ts with
  | nil => rfl
  | cons c t ih =>
    show (Jvm.Cond.and c (allAtoms t)).before a st = _
    rw [Jvm.Cond.before_and, ih, List.all_cons]
def words1 : List Jvm.Cond := Jvm.Cond.code x code maxLocals ret :: tables_1
/-- a 'code' word, met by the world's own term for the bytes: nothing is compared byte by byte -/
theorem code_word {y : MethodName} {bytes : ByteArray} {mx : Nat} {rt : Option FieldType} {a : Array Value} {s : State} {m : MethodId} {meth : Method} {c : Code} (h1 : s.methodNamed? y = some m) (h2 : s.vm.method? m = some meth) (h3 : meth.code = some c) (h4 : c.code = bytes)
    (h5 : (c.maxLocals == mx && c.exceptionTable.isEmpty && decide (c.maxStack ≤ mostOperands) && decide (meth.sig.returnType = rt) && !meth.locks && decide (parseMethodDescriptor y.desc = some meth.sig)) = true) : (Jvm.Cond.code y bytes mx rt).before a s = true := by
  simp only [Bool.and_eq_true, beq_iff_eq, Bool.not_eq_true', decide_eq_true_eq] at h5
  obtain ⟨⟨⟨⟨⟨g1, g2⟩, g3⟩, g4⟩, g5⟩, g6⟩ := h5
  simp [Cond.before, Cond.holds, Cond.value, h1, h2, h3, h4, g1, g2, g3, g4, g5, g6]
def isCode : Jvm.Cond → Bool
  | .code _ _ _ _ => true
  | _ => false
theorem all_split {L : List Jvm.Cond} {P : Jvm.Cond → Bool} (h1 : L.all (fun c => isCode c || P c) = true) (h2 : ∀ c ∈ L.filter isCode, P c = true) : L.all P = true := by
  refine List.all_eq_true.mpr fun c hc => ?_
  have h := List.all_eq_true.mp h1 c hc
  rcases Bool.eq_false_or_eq_true (isCode c) with hi | hi
  · exact h2 c (List.mem_filter.mpr ⟨hc, hi⟩)
  · simpa [hi] using h
set_option maxRecDepth 65536 in
theorem w_c0 : (Jvm.Cond.code x code maxLocals ret).before args0 about1 = true := code_word (m := ⟨1, 2⟩) (meth := k1m2) (c := k1c2) (by decide +kernel) rfl rfl rfl (by decide +kernel)
set_option maxRecDepth 65536 in
theorem w_c1 : (Jvm.Cond.code ({ cls := "dev/shoalmap/workload/KeySet", name := "low", desc := "(JJI)J" } : Jvm.MethodName) prog_22_method_3_code (5 : Nat) (Option.some Jvm.ClassFile.FieldType.long)).before args0 about1 = true := code_word (m := ⟨2, 2⟩) (meth := k2m2) (c := k2c2) (by decide +kernel) rfl rfl rfl (by decide +kernel)
set_option maxRecDepth 65536 in
theorem w_c2 : (Jvm.Cond.code ({ cls := "dev/shoalmap/workload/KeySet", name := "key", desc := "(JJ)J" } : Jvm.MethodName) prog_22_method_4_code (6 : Nat) (Option.some Jvm.ClassFile.FieldType.long)).before args0 about1 = true := code_word (m := ⟨2, 3⟩) (meth := k2m3) (c := k2c3) (by decide +kernel) rfl rfl rfl (by decide +kernel)
set_option maxRecDepth 65536 in
theorem w_c3 : (Jvm.Cond.code ({ cls := "dev/shoalmap/workload/KeySetLowPinLaw", name := "fmix64", desc := "(J)J" } : Jvm.MethodName) method_2_code (2 : Nat) (Option.some Jvm.ClassFile.FieldType.long)).before args0 about1 = true := code_word (m := ⟨1, 1⟩) (meth := k1m1) (c := k1c1) (by decide +kernel) rfl rfl rfl (by decide +kernel)
set_option maxRecDepth 65536 in
theorem w_c4 : (Jvm.Cond.code ({ cls := "dev/shoalmap/workload/KeySet", name := "high", desc := "(JJI)J" } : Jvm.MethodName) prog_22_method_2_code (5 : Nat) (Option.some Jvm.ClassFile.FieldType.long)).before args0 about1 = true := code_word (m := ⟨2, 1⟩) (meth := k2m1) (c := k2c1) (by decide +kernel) rfl rfl rfl (by decide +kernel)
def codes1 : List Jvm.Cond := [Jvm.Cond.code x code maxLocals ret, Jvm.Cond.code ({ cls := "dev/shoalmap/workload/KeySet", name := "low", desc := "(JJI)J" } : Jvm.MethodName) prog_22_method_3_code (5 : Nat) (Option.some Jvm.ClassFile.FieldType.long), Jvm.Cond.code ({ cls := "dev/shoalmap/workload/KeySet", name := "key", desc := "(JJ)J" } : Jvm.MethodName) prog_22_method_4_code (6 : Nat) (Option.some Jvm.ClassFile.FieldType.long), Jvm.Cond.code ({ cls := "dev/shoalmap/workload/KeySetLowPinLaw", name := "fmix64", desc := "(J)J" } : Jvm.MethodName) method_2_code (2 : Nat) (Option.some Jvm.ClassFile.FieldType.long), Jvm.Cond.code ({ cls := "dev/shoalmap/workload/KeySet", name := "high", desc := "(JJI)J" } : Jvm.MethodName) prog_22_method_2_code (5 : Nat) (Option.some Jvm.ClassFile.FieldType.long)]
set_option maxRecDepth 65536 in
theorem codes_eq : words1.filter isCode = codes1 := rfl
theorem w_codes : ∀ c ∈ words1.filter isCode, c.before args0 about1 = true := by
  rw [codes_eq]
  intro c hc
  simp only [codes1, List.mem_cons, List.not_mem_nil, or_false] at hc
  rcases hc with rfl | rfl | rfl | rfl | rfl
  · exact w_c0
  · exact w_c1
  · exact w_c2
  · exact w_c3
  · exact w_c4
set_option maxRecDepth 65536 in
theorem w_t1 : words1.all (fun c => isCode c || c.before args0 about1) = true := by decide +kernel
theorem w_tables : (allAtoms (Jvm.Cond.code x code maxLocals ret :: tables_1)).before args0 about1 = true := by
  rw [allAtoms_all]
  show words1.all (fun c => c.before args0 about1) = true
  refine all_split ?_ w_codes
  rw [w_t1]
set_option maxRecDepth 65536 in
theorem w_case : (Jvm.Cond.and given_1 narrow_1).before args0 about1 = true := by decide +kernel
theorem w_applies : (headSpec (Jvm.Cond.code x code maxLocals ret :: tables_1) room_1).applies x e0.platform about1 = true :=
  (Spec.applies_iff w_frames).mpr ⟨w_running, w_runnable, w_alone, w_named, w_hears, w_ripe, w_room, w_tables⟩
theorem atStart : AtStart classFile x code maxLocals ret World_1 tables_1 room_1 Calls_1 rest_1 Pre_1 launch0 p0 e0 about1 theMethod args0 below0 :=
  ⟨lists_1, trivial, launch0.admits_env _ _ _, launch0.least_env, fairChoices_fair.cas, fairChoices_fair.clock, w_frames, w_args, w_heap, w_applies, trivial, trivial, w_case⟩
end start1
theorem witness_1 : WitnessClaimed_1 := ⟨start1.p0, start1.e0, start1.about1, start1.theMethod, start1.args0, start1.below0, start1.atStart⟩
end Jvm.Pilot.@@N@@
