import JvmDerived
import JvmDerived.Pilot.@@N@@Statement
import JvmDerived.Pilot.@@N@@Code
set_option linter.unusedVariables false
set_option linter.unusedSimpArgs false
namespace Jvm.RoadKit
open Sem ClassFile Op Lib Jvm.Stand Jvm.Free Jvm.LawKit
section New
variable {p : Program} {l : Launch} {e : Env} {R : Room} {s : State} {m : MethodId} {args : Array Value} {below : List Frame} {meth : Method} {c : Code} {T : State} {locs : List Loc} {cells slots : Nat}
theorem retI (X : Stand p l e R s m args below meth c T locs cells slots) (hx : p.tables.exec = Jvm.exec) {pc : Nat} {Ls : Array Slot} {z : Int32} {rest : List Value} (hret : meth.sig.returnType = some .int) (hd : decode c.code pc = .ok (.ireturn, 1)) {fs : List Frame}
    (hl : ∀ (f : JFrame) (acts : List Action), f.method = m → f.locked = none → f.entered = [] → (doReturn e (T.setTop f) acts (some (.int z))).1 = T.setFrames fs) : Steps p.tables e below (T.setTop (mkF m pc Ls (.int z :: rest))) (T.setFrames fs) := by
  have hm' : T.vm.method? m = some meth := X.method'
  have hn : narrow .int (.int z) = .int z := rfl
  show Steps p.tables e below (T.setTop { method := m, pc := pc, locals := Ls, stack := _ :: rest, locked := none }) _
  jvm_step X.here [X.here.top, hx, hd, hm', hret, hn]
  first | (intro acts; rw [hl _ acts rfl rfl rfl]) | rw [hl _ _ rfl rfl rfl]
  exact Steps.refl _
end New
end Jvm.RoadKit
namespace Jvm.Pilot.@@N@@
open Jvm Jvm.ClassFile Sem Op Lib Jvm.Free Jvm.Stand Jvm.LawKit Jvm.RoadKit Bundle Jvm.Pilot.@@N@@.Jvm.D
/-! own_x1: one plain instruction over locals and stack, as a function; own_blk: a stretch of them in one row -/
def own_x1 : Instr → Nat → Array Slot → List Value → Option (Array Slot × List Value)
  | .iload_n k, 1, Ls, st => match Ls[k.val]? with | some (.val (.int x)) => some (Ls, .int x :: st) | _ => none
  | .iload k, 2, Ls, st => match Ls[k]? with | some (.val (.int x)) => some (Ls, .int x :: st) | _ => none
  | .lload_n k, 1, Ls, st => match Ls[k.val]? with | some (.val (.long x)) => some (Ls, .long x :: st) | _ => none
  | .lload k, 2, Ls, st => match Ls[k]? with | some (.val (.long x)) => some (Ls, .long x :: st) | _ => none
  | .aload_n k, 1, Ls, st => match Ls[k.val]? with | some (.val (.ref x)) => some (Ls, .ref x :: st) | some (.val .null) => some (Ls, .null :: st) | _ => none
  | .aload k, 2, Ls, st => match Ls[k]? with | some (.val (.ref x)) => some (Ls, .ref x :: st) | some (.val .null) => some (Ls, .null :: st) | _ => none
  | .istore_n k, 1, Ls, .int x :: st => match storeLocals Ls k.val (.int x) with | some L => some (L, st) | none => none
  | .istore k, 2, Ls, .int x :: st => match storeLocals Ls k (.int x) with | some L => some (L, st) | none => none
  | .lstore_n k, 1, Ls, .long x :: st => match storeLocals Ls k.val (.long x) with | some L => some (L, st) | none => none
  | .lstore k, 2, Ls, .long x :: st => match storeLocals Ls k (.long x) with | some L => some (L, st) | none => none
  | .astore_n k, 1, Ls, .ref x :: st => match storeLocals Ls k.val (.ref x) with | some L => some (L, st) | none => none
  | .astore k, 2, Ls, .ref x :: st => match storeLocals Ls k (.ref x) with | some L => some (L, st) | none => none
  | .iconst i, 1, Ls, st => some (Ls, .int (Int32.ofInt i) :: st)
  | .bipush i, 2, Ls, st => some (Ls, .int (Int8.ofInt i).toInt32 :: st)
  | .sipush i, 3, Ls, st => some (Ls, .int (Int16.ofInt i).toInt32 :: st)
  | .lconst k, 1, Ls, st => some (Ls, .long (Int64.ofNat k) :: st)
  | .aconst_null, 1, Ls, st => some (Ls, .null :: st)
  | .iadd, 1, Ls, .int y :: .int x :: st => some (Ls, .int (x + y) :: st)
  | .isub, 1, Ls, .int y :: .int x :: st => some (Ls, .int (x - y) :: st)
  | .imul, 1, Ls, .int y :: .int x :: st => some (Ls, .int (x * y) :: st)
  | .iand, 1, Ls, .int y :: .int x :: st => some (Ls, .int (x &&& y) :: st)
  | .ior, 1, Ls, .int y :: .int x :: st => some (Ls, .int (x ||| y) :: st)
  | .ixor, 1, Ls, .int y :: .int x :: st => some (Ls, .int (x ^^^ y) :: st)
  | .ishl, 1, Ls, .int y :: .int x :: st => some (Ls, .int (x <<< (y &&& 31)) :: st)
  | .ishr, 1, Ls, .int y :: .int x :: st => some (Ls, .int (x >>> (y &&& 31)) :: st)
  | .iushr, 1, Ls, .int y :: .int x :: st => some (Ls, .int ((x.toUInt32 >>> (y &&& 31).toUInt32).toInt32) :: st)
  | .ladd, 1, Ls, .long y :: .long x :: st => some (Ls, .long (x + y) :: st)
  | .lsub, 1, Ls, .long y :: .long x :: st => some (Ls, .long (x - y) :: st)
  | .lmul, 1, Ls, .long y :: .long x :: st => some (Ls, .long (x * y) :: st)
  | .land, 1, Ls, .long y :: .long x :: st => some (Ls, .long (x &&& y) :: st)
  | .lor, 1, Ls, .long y :: .long x :: st => some (Ls, .long (x ||| y) :: st)
  | .lxor, 1, Ls, .long y :: .long x :: st => some (Ls, .long (x ^^^ y) :: st)
  | .lushr, 1, Ls, .int y :: .long x :: st => some (Ls, .long ((x.toUInt64 >>> (y &&& 0x3f).toInt64.toUInt64).toInt64) :: st)
  | .ineg, 1, Ls, .int x :: st => some (Ls, .int (-x) :: st)
  | .i2l, 1, Ls, .int x :: st => some (Ls, .long x.toInt64 :: st)
  | .i2b, 1, Ls, .int x :: st => some (Ls, .int x.toInt8.toInt32 :: st)
  | .i2c, 1, Ls, .int x :: st => some (Ls, .int x.toUInt32.toUInt16.toUInt32.toInt32 :: st)
  | .i2s, 1, Ls, .int x :: st => some (Ls, .int x.toInt16.toInt32 :: st)
  | .lcmp, 1, Ls, .long y :: .long x :: st => some (Ls, .int (lcmpW x y) :: st)
  | .dup, 1, Ls, .int x :: st => some (Ls, .int x :: .int x :: st)
  | .dup, 1, Ls, .ref x :: st => some (Ls, .ref x :: .ref x :: st)
  | .iinc k i, 3, Ls, st => match Ls[k]? with | some (.val (.int x)) => (match storeLocals Ls k (.int (x + Int32.ofInt i)) with | some L => some (L, st) | none => none) | _ => none
  | _, _, _, _ => none
section OwnBlk
variable {p : Program} {l : Launch} {e : Env} {R : Room} {s : State} {m : MethodId} {args : Array Value} {below : List Frame} {meth : Method} {c : Code} {T target : State} {locs : List Loc} {cells slots : Nat}
set_option maxHeartbeats 4000000 in
theorem own_x1_ok (X : Stand p l e R s m args below meth c T locs cells slots) (hx : p.tables.exec = Jvm.exec) {i : Instr} {len pc : Nat} {Ls Ls' : Array Slot} {st st' : List Value} (hd : decode c.code pc = .ok (i, len)) (h : own_x1 i len Ls st = some (Ls', st'))
    (k : Steps p.tables e below (T.setTop (mkF m (pc + len) Ls' st')) target) : Steps p.tables e below (T.setTop (mkF m pc Ls st)) target := by
  unfold own_x1 at h
  split at h
  all_goals (try (split at h))
  all_goals (try (split at h))
  all_goals (try (cases h; done))
  all_goals (cases h)
  all_goals first
    | exact XS.iloadN X.here hx rfl hd (by assumption) k
    | exact XS.iload X.here hx rfl hd (by assumption) k
    | exact XS.lloadN X.here hx rfl hd (by assumption) k
    | exact XS.lload X.here hx rfl hd (by assumption) k
    | exact XS.aloadN X.here hx rfl hd (by assumption) rfl k
    | exact XS.aload X.here hx rfl hd (by assumption) rfl k
    | exact XS.istoreN X.here hx rfl hd rfl (by assumption) k
    | exact XS.istore X.here hx rfl hd rfl (by assumption) k
    | exact XS.lstoreN X.here hx rfl hd rfl (by assumption) k
    | exact XS.lstore X.here hx rfl hd rfl (by assumption) k
    | exact XS.astoreN X.here hx rfl hd rfl rfl (by assumption) k
    | exact XS.astore X.here hx rfl hd rfl rfl (by assumption) k
    | exact XS.iconst X.here hx rfl hd k
    | exact XS.bipush X.here hx rfl hd k
    | exact XS.sipush X.here hx rfl hd k
    | exact XS.lconst X.here hx rfl hd k
    | exact XS.aconstNull X.here hx rfl hd k
    | exact XS.iadd X.here hx rfl hd rfl k
    | exact XS.isub X.here hx rfl hd rfl k
    | exact XS.imul X.here hx rfl hd rfl k
    | exact XS.iand X.here hx rfl hd rfl k
    | exact XS.ior X.here hx rfl hd rfl k
    | exact XS.ixor X.here hx rfl hd rfl k
    | exact XS.ishl X.here hx rfl hd rfl k
    | exact XS.ishr X.here hx rfl hd rfl k
    | exact XS.iushr X.here hx rfl hd rfl k
    | exact XS.ladd X.here hx rfl hd rfl k
    | exact XS.lsub X.here hx rfl hd rfl k
    | exact XS.lmul X.here hx rfl hd rfl k
    | exact XS.land X.here hx rfl hd rfl k
    | exact XS.lor X.here hx rfl hd rfl k
    | exact XS.lxor X.here hx rfl hd rfl k
    | exact XS.lushr X.here hx rfl hd rfl k
    | exact XS.ineg X.here hx rfl hd rfl k
    | exact XS.i2l X.here hx rfl hd rfl k
    | exact XS.i2b X.here hx rfl hd rfl k
    | exact XS.i2c X.here hx rfl hd rfl k
    | exact XS.i2s X.here hx rfl hd rfl k
    | exact XS.lcmp X.here hx rfl hd rfl k
    | exact XS.dup X.here hx rfl hd rfl rfl k
    | exact XS.iinc X.here hx rfl hd (by assumption) (by assumption) k
/-- a stretch: each row's pc, instruction and length; a 'goto' among them goes where its row says -/
def own_xs : List (Nat × Instr × Nat) → Nat → Array Slot → List Value → Option (Nat × Array Slot × List Value)
  | [], pc, Ls, st => some (pc, Ls, st)
  | (q, .goto o, 3) :: is, pc, Ls, st => if q = pc then own_xs is ((pc : Int) + o).toNat Ls st else none
  | (q, i, len) :: is, pc, Ls, st => if q = pc then (match own_x1 i len Ls st with | some (L, t) => own_xs is (pc + len) L t | none => none) else none
def own_dec (b : ByteArray) (is : List (Nat × Instr × Nat)) : Bool := is.all fun r => (match decode b r.1 with | .ok (i, n) => decide (i = r.2.1) && decide (n = r.2.2) | .error _ => false) && (match r.2.1 with | .goto o => decide (0 ≤ (r.1 : Int) + o) | _ => true)
theorem own_blk (X : Stand p l e R s m args below meth c T locs cells slots) (hx : p.tables.exec = Jvm.exec) : ∀ (is : List (Nat × Instr × Nat)) {pc pc' : Nat} {Ls Ls' : Array Slot} {st st' : List Value}, own_dec c.code is = true → own_xs is pc Ls st = some (pc', Ls', st') →
    Steps p.tables e below (T.setTop (mkF m pc' Ls' st')) target → Steps p.tables e below (T.setTop (mkF m pc Ls st)) target := by
  intro is
  induction is with
  | nil => intro pc pc' Ls Ls' st st' _ h k; simp only [own_xs] at h; cases h; exact k
  | cons r is ih =>
    intro pc pc' Ls Ls' st st' hd h k
    simp only [own_dec, List.all_cons, Bool.and_eq_true] at hd
    obtain ⟨⟨h1, h2⟩, h3⟩ := hd
    obtain ⟨q, i, len⟩ := r
    have hdec : decode c.code q = .ok (i, len) := by
      revert h1
      dsimp only
      cases decode c.code q with
      | error _ => intro h; cases h
      | ok v => obtain ⟨i', n'⟩ := v; intro h; simp only [Bool.and_eq_true, decide_eq_true_eq] at h; obtain ⟨rfl, rfl⟩ := h; rfl
    have h3' : own_dec c.code is = true := h3
    unfold own_xs at h
    split at h
    · cases ‹_ :: _ = []›
    · rename_i e1
      cases e1
      split at h
      · rename_i e2
        subst e2
        exact XS.goto X.here hx rfl rfl hdec (by simpa using h2) rfl (ih h3' h k)
      · cases h
    · rename_i e1
      cases e1
      split at h
      · rename_i e2
        subst e2
        split at h
        · rename_i e3
          exact own_x1_ok X hx hdec e3 (ih h3' h k)
        · cases h
      · cases h
theorem own_hb {c : Code} {b : ByteArray} {is : List (Nat × Instr × Nat)} (h : c.code = b) (h2 : own_dec b is = true) : own_dec c.code is = true := h ▸ h2
end OwnBlk
/-! the three calls by contract, each as one 'obtain' (over the library's callS, specialBack, virtualBack and backOf) -/
section OwnCall
variable {p : Program} {l : Launch} {e : Env} {R : Room} {s : State} {m : MethodId} {args : Array Value} {below : List Frame} {meth : Method} {c : Code} {T : State} {locs : List Loc} {cells slots : Nat} {Z : State} {a0 : Array Value} {h : Heap}
theorem own_callS (X : Stand p l e R s m args below meth c T locs cells slots) (hx : p.tables.exec = Jvm.exec) (hZ : Z.Warmed39 s.vm) {own : String} {index : Nat} {y : MethodName} {bytes : ByteArray} {maxL : Nat} {ret : Option FieldType} {rm : Room} {Q : Option Value → Heap → List Loc → Prop}
    (hown : s.vm.findClass own = some m.cls) (w1 : (Jvm.Cond.methodLink own index y).before a0 Z = true) (w2 : (Jvm.Cond.static y).before a0 Z = true) (w3 : (Jvm.Cond.initialized y.cls).before a0 Z = true) (w4 : (Jvm.Cond.code y bytes maxL ret).before a0 Z = true)
    (hy : y.cls ≠ "java/lang/invoke/MethodHandle" ∧ y.cls ≠ "java/lang/invoke/VarHandle") {W : Nat} {argsL rest : List Value}
    (hM : MetFree l y (head1 [Jvm.Cond.code y bytes maxL ret] rm) (fun a U => a = argsL.toArray ∧ Z.Warmed39 U.vm ∧ U.heap = h) (fun _ _ _ _ _ => True) (fun _ U o U' => ∃ v L, o = .returned v ∧ Q v U'.heap L ∧ FrameEnd U o U' L rm.cells rm.slots))
    (hf : rm.frames + 1 ≤ R.frames) (hl : W + (maxL + 11) + rm.locals ≤ R.locals) {c' s' : Nat} (hc' : cells + rm.cells = c') (hs' : slots + rm.slots = s') (hc : c' ≤ R.cells) (hs : s' ≤ R.slots) (eT : T.heap = h)
    {g : JFrame} (hg : g.method = m) (hsize : g.locals.size = c.maxLocals) (hlen : ∀ sig, parseMethodDescriptor y.desc = some sig → argsL.length = sig.parameters.length) (hstack : g.stack = argsL.reverse ++ rest) (hW : 2 * g.monitorRoom + (rest.map fun v => v.category).sum ≤ W) (hdg : decode c.code g.pc = .ok (.invokestatic index, 3)) :
    ∃ (v : Option Value) (T' : State) (L : List Loc), Stand p l e R s m args below meth c T' (locs ++ L) c' s' ∧ Q v T'.heap L ∧ ∀ target, Steps p.tables e below (T'.setTop { g with pc := g.pc + 3, stack := v.toList ++ rest }) target → Steps p.tables e below (T.setTop g) target := by
  subst hc' hs'
  obtain ⟨v, vm₁, ⟨T', L', k', n'⟩, -, X', ⟨L, hQ, e1, e2, e3⟩, st⟩ := Jvm.LawKit.callS X hx hown (mvT hZ w1) (mvT hZ w2) (mvT hZ w3) (mvT hZ w4) hy (backOf (W := W) hM hZ w4 w3 hf hl) hg hsize hlen hstack hW hdg (fun _ _ => ⟨rfl, eT, hc, hs⟩)
  dsimp only [Pt.U, Pt.locs, Pt.cells, Pt.slots] at X' e1 e2 e3 st hQ
  subst e1 e2 e3
  exact ⟨v, T', L, X', hQ, st⟩
theorem own_callI (X : Stand p l e R s m args below meth c T locs cells slots) (hx : p.tables.exec = Jvm.exec) (hZ : Z.Warmed39 s.vm) {own : String} {index : Nat} {y : MethodName} (hy1 : y.name = "<init>") {bytes : ByteArray} {maxL : Nat} {rm : Room} {Q : Option Value → Heap → List Loc → Prop}
    (hown : s.vm.findClass own = some m.cls) (w1 : (Jvm.Cond.methodLink own index y).before a0 Z = true) (w2 : (Jvm.Cond.instanceMethod y).before a0 Z = true) (w3 : (Jvm.Cond.initialized y.cls).before a0 Z = true) (w4 : (Jvm.Cond.code y bytes maxL none).before a0 Z = true)
    (hy : y.cls ≠ "java/lang/invoke/MethodHandle" ∧ y.cls ≠ "java/lang/invoke/VarHandle") {W : Nat} {a : Addr} {argsL rest : List Value}
    (hM : MetFree l y (head1 [Jvm.Cond.code y bytes maxL none] rm) (fun b U => b = (.ref a :: argsL).toArray ∧ Z.Warmed39 U.vm ∧ U.heap = h) (fun _ _ _ _ _ => True) (fun _ U o U' => ∃ v L, o = .returned v ∧ Q v U'.heap L ∧ FrameEnd U o U' L rm.cells rm.slots))
    (hf : rm.frames + 1 ≤ R.frames) (hl : W + (maxL + 11) + rm.locals ≤ R.locals) {c' s' : Nat} (hc' : cells + rm.cells = c') (hs' : slots + rm.slots = s') (hc : c' ≤ R.cells) (hs : s' ≤ R.slots) (eT : T.heap = h)
    {g : JFrame} (hg : g.method = m) (hsize : g.locals.size = c.maxLocals) (hlen : ∀ sig, parseMethodDescriptor y.desc = some sig → argsL.length = sig.parameters.length) (hstack : g.stack = argsL.reverse ++ .ref a :: rest) (hW : 2 * g.monitorRoom + (rest.map fun v => v.category).sum ≤ W) (hdg : decode c.code g.pc = .ok (.invokespecial index, 3)) :
    ∃ (v : Option Value) (T' : State) (L : List Loc), Stand p l e R s m args below meth c T' (locs ++ L) c' s' ∧ Q v T'.heap L ∧ ∀ target, Steps p.tables e below (T'.setTop { g with pc := g.pc + 3, stack := v.toList ++ rest }) target → Steps p.tables e below (T.setTop g) target := by
  subst hc' hs'
  obtain ⟨v, vm₁, ⟨T', L', k', n'⟩, -, X', ⟨L, hQ, e1, e2, e3⟩, st⟩ := X.specialBack hx hy1 hown (mvT hZ w1) (mvT hZ w2) (mvT hZ w4) hy (backOf (W := W) hM hZ w4 w3 hf hl) hg hsize (Steps.refl _) (a := a) hlen hstack hW hdg (fun _ _ => ⟨rfl, eT, hc, hs⟩)
  dsimp only [Pt.U, Pt.locs, Pt.cells, Pt.slots] at X' e1 e2 e3 st hQ
  subst e1 e2 e3
  exact ⟨v, T', L, X', hQ, fun target k => st.trans k⟩
theorem own_callV (X : Stand p l e R s m args below meth c T locs cells slots) (hx : p.tables.exec = Jvm.exec) (hZ : Z.Warmed39 s.vm) {own C : String} {index : Nat} {y : MethodName} {bytes : ByteArray} {maxL : Nat} {ret : Option FieldType} {rm : Room} {Q : Option Value → Heap → List Loc → Prop}
    (hown : s.vm.findClass own = some m.cls) (w1 : (Jvm.Cond.methodLink own index y).before a0 Z = true) (w5 : (Jvm.Cond.declares y).before a0 Z = true) (w6 : (Jvm.Cond.selects C y y).before a0 Z = true) (w2 : (Jvm.Cond.instanceMethod y).before a0 Z = true) (w3 : (Jvm.Cond.initialized y.cls).before a0 Z = true) (w4 : (Jvm.Cond.code y bytes maxL ret).before a0 Z = true)
    (hy : y.cls ≠ "java/lang/invoke/MethodHandle" ∧ y.cls ≠ "java/lang/invoke/VarHandle") {W : Nat} {a : Addr} (E : Exa Z h a C) {argsL rest : List Value}
    (hM : MetFree l y (head1 [Jvm.Cond.code y bytes maxL ret] rm) (fun b U => b = (.ref a :: argsL).toArray ∧ Z.Warmed39 U.vm ∧ U.heap = h) (fun _ _ _ _ _ => True) (fun _ U o U' => ∃ v L, o = .returned v ∧ Q v U'.heap L ∧ FrameEnd U o U' L rm.cells rm.slots))
    (hf : rm.frames + 1 ≤ R.frames) (hl : W + (maxL + 11) + rm.locals ≤ R.locals) {c' s' : Nat} (hc' : cells + rm.cells = c') (hs' : slots + rm.slots = s') (hc : c' ≤ R.cells) (hs : s' ≤ R.slots) (eT : T.heap = h)
    {g : JFrame} (hg : g.method = m) (hsize : g.locals.size = c.maxLocals) (hlen : ∀ sig, parseMethodDescriptor y.desc = some sig → argsL.length = sig.parameters.length) (hstack : g.stack = argsL.reverse ++ .ref a :: rest) (hW : 2 * g.monitorRoom + (rest.map fun v => v.category).sum ≤ W) (hdg : decode c.code g.pc = .ok (.invokevirtual index, 3)) :
    ∃ (v : Option Value) (T' : State) (L : List Loc), Stand p l e R s m args below meth c T' (locs ++ L) c' s' ∧ Q v T'.heap L ∧ ∀ target, Steps p.tables e below (T'.setTop { g with pc := g.pc + 3, stack := v.toList ++ rest }) target → Steps p.tables e below (T.setTop g) target := by
  subst hc' hs'
  obtain ⟨cB, kB, q1, q2, q3⟩ := isOf hZ eT E
  obtain ⟨v, vm₁, ⟨T', L', k', n'⟩, -, X', ⟨L, hQ, e1, e2, e3⟩, st⟩ := X.virtualBack hx (z := y) hown (mvT hZ w1) (mvT hZ w5) (notFace_of_selects (args := #[]) (mvT hZ w6)) (mvT hZ w6) (mvT hZ w2) hy (backOf (W := W) hM hZ w4 w3 hf hl) q1 q3 hg hsize (Steps.refl _) hlen hstack hW hdg (fun _ _ => ⟨rfl, eT, hc, hs⟩)
  dsimp only [Pt.U, Pt.locs, Pt.cells, Pt.slots] at X' e1 e2 e3 st hQ
  subst e1 e2 e3
  exact ⟨v, T', L, X', hQ, fun target k => st.trans k⟩
end OwnCall
theorem d2_0 : decode method_2_code 0 = .ok (.iload_n 1, 1) := by decide +kernel
theorem d2_1 : decode method_2_code 1 = .ok (.aload_n 0, 1) := by decide +kernel
theorem d2_2 : decode method_2_code 2 = .ok (.arraylength, 1) := by decide +kernel
theorem d2_3 : decode method_2_code 3 = .ok (.if_icmp .ge 16, 3) := by decide +kernel
theorem d2_6 : decode method_2_code 6 = .ok (.aload_n 0, 1) := by decide +kernel
theorem d2_7 : decode method_2_code 7 = .ok (.iload_n 1, 1) := by decide +kernel
theorem d2_8 : decode method_2_code 8 = .ok (.iaload, 1) := by decide +kernel
theorem d2_9 : decode method_2_code 9 = .ok (.iload_n 1, 1) := by decide +kernel
theorem d2_10 : decode method_2_code 10 = .ok (.if_icmp .ne 7, 3) := by decide +kernel
theorem d2_13 : decode method_2_code 13 = .ok (.iconst 1, 1) := by decide +kernel
theorem d2_14 : decode method_2_code 14 = .ok (.goto 4, 3) := by decide +kernel
theorem d2_17 : decode method_2_code 17 = .ok (.iconst 0, 1) := by decide +kernel
theorem d2_18 : decode method_2_code 18 = .ok (.ireturn, 1) := by decide +kernel
theorem d2_19 : decode method_2_code 19 = .ok (.iconst 1, 1) := by decide +kernel
theorem d2_20 : decode method_2_code 20 = .ok (.ireturn, 1) := by decide +kernel
theorem pn_2 : plainName "com/example/varel/varel/text/EditDistanceStartPinLaw" = true := by first | (simp [plainName, overriddenIn]; done) | decide +kernel
theorem ef_2 (m : MethodId) (x0 : Addr) (x1 : Int32) : entryFrame m #[(.ref x0), (.int x1)] 2 = mkF m 0 #[.val (.ref x0), .val (.int x1)] [] := by first | (simp [entryFrame, mkF, argsToLocals, Value.category]; done) | rfl
def bl2_0_2 : List (Nat × Instr × Nat) := [(0, .iload_n 1, 1), (1, .aload_n 0, 1)]
theorem bd2_0_2 : own_dec method_2_code bl2_0_2 = true := by decide +kernel
def bl2_6_2 : List (Nat × Instr × Nat) := [(6, .aload_n 0, 1), (7, .iload_n 1, 1)]
theorem bd2_6_2 : own_dec method_2_code bl2_6_2 = true := by decide +kernel
def bl2_9_1 : List (Nat × Instr × Nat) := [(9, .iload_n 1, 1)]
theorem bd2_9_1 : own_dec method_2_code bl2_9_1 = true := by decide +kernel
def bl2_13_2 : List (Nat × Instr × Nat) := [(13, .iconst 1, 1), (14, .goto 4, 3)]
theorem bd2_13_2 : own_dec method_2_code bl2_13_2 = true := by decide +kernel
def bl2_17_1 : List (Nat × Instr × Nat) := [(17, .iconst 0, 1)]
theorem bd2_17_1 : own_dec method_2_code bl2_17_1 = true := by decide +kernel
def bl2_19_1 : List (Nat × Instr × Nat) := [(19, .iconst 1, 1)]
theorem bd2_19_1 : own_dec method_2_code bl2_19_1 = true := by decide +kernel

def f2 (p2 : Int32) (w1 : Int32) (z1 : Int32) : Int32 := (if p2 < z1 then (if w1 = p2 then (1 : Int32) else (0 : Int32)) else (1 : Int32))
def Q2 (Z : State) (a1 : Addr) (p2 : Int32) (w1 : Int32) (k_a1 : ClassId) (vs1 : List Value) (z1 : Int32) (h0 : Heap) (n0 : Nat) (v : Option Value) (h : Heap) (L : List Loc) : Prop := v = some (.int (f2 p2 w1 z1)) ∧ Fr n0 L ∧ h = h0
set_option maxRecDepth 65536 in
set_option maxHeartbeats 40000000 in
theorem rm2 (l : Launch) (Z : State) (a0 : Array Value) (hw : ∀ d ∈ tables_1, d.before a0 Z = true) (ws : List Jvm.Cond) (a1 : Addr) (p2 : Int32) (w1 : Int32) (k_a1 : ClassId) (vs1 : List Value) (z1 : Int32) (h0 : Heap) (n0 : Nat) (Z0 : n0 ≤ h0.size) (V_a1 : Arv Z h0 a1 k_a1 .int z1 vs1 (.int (0 : Int32))) (hj : ¬ (p2 < 0)) (hw1 : p2 < z1 → vs1.getD p2.toNatClampNeg (.int (0 : Int32)) = .int w1) :
    MetFree l (⟨"com/example/varel/varel/text/EditDistanceStartPinLaw", "at", "([II)Z"⟩ : MethodName) (head1 (Jvm.Cond.code (⟨"com/example/varel/varel/text/EditDistanceStartPinLaw", "at", "([II)Z"⟩ : MethodName) method_2_code 2 (some .boolean) :: ws) ({ frames := 0, cells := 0, slots := 0, locals := 0 } : Room)) (fun a U => a = #[(.ref a1), (.int p2)] ∧ Z.Warmed39 U.vm ∧ U.heap = h0) (fun _ _ _ _ _ => True) (fun _ U o U' => ∃ v L, o = .returned v ∧ Q2 Z a1 p2 w1 k_a1 vs1 z1 h0 n0 v U'.heap L ∧ FrameEnd U o U' L ({ frames := 0, cells := 0, slots := 0, locals := 0 } : Room).cells ({ frames := 0, cells := 0, slots := 0, locals := 0 } : Room).slots) := by
  refine MetFree.of_bodySF (plainFor_of_name pn_2) hisR ?_
  intro p e s m args below meth c s₁ Bd hml0 hP hK
  obtain ⟨rfl, hZ, hh⟩ := hP
  have hx := Bd.exec
  have hby := Bd.bytes
  have hml : c.maxLocals = 2 := hml0
  have hown : s.vm.findClass "com/example/varel/varel/text/EditDistanceStartPinLaw" = some m.cls := findClass_of_methodNamed Bd.named
  have hnm := (name_of_methodNamed Bd.named Bd.method).1
  have X0 : Stand p l e ({ frames := 0, cells := 0, slots := 0, locals := 0 } : Room) s m #[(.ref a1), (.int p2)] below meth c s₁ [] 0 0 := Stand.of_body Bd
  have e0 : s₁.heap = h0 := by rw [← hh, Bd.state]; rfl
  have N0 := Fr.nil n0
  have pre0 : ∀ t, Steps p.tables e below (s₁.setTop (mkF m 0 #[.val (.ref a1), .val (.int p2)] [])) t → Steps p.tables e below (s₁.setTop (entryFrame m #[(.ref a1), (.int p2)] 2)) t := fun t k => castTop (ef_2 m a1 p2) k
  obtain ⟨cl1, Ar1, qq1, S1, N1_, H1, G1⟩ := id V_a1
  have pre2 : ∀ t, Steps p.tables e below (s₁.setTop (mkF m 3 #[.val (.ref a1), .val (.int p2)] [(.int z1), (.int p2)])) t → Steps p.tables e below (s₁.setTop (entryFrame m #[(.ref a1), (.int p2)] 2)) t := fun t kt => by
    refine pre0 _ ?_
    show Steps p.tables e below (s₁.setTop (mkF m 0 #[.val (.ref a1), .val (.int p2)] [])) _
    refine own_blk X0 hx bl2_0_2 (own_hb hby bd2_0_2) (pc' := 2) (Ls' := #[.val (.ref a1), .val (.int p2)]) (st' := [(.ref a1), (.int p2)]) rfl ?_
    show Steps p.tables e below (s₁.setTop (mkF m 2 #[.val (.ref a1), .val (.int p2)] [(.ref a1), (.int p2)])) _
    refine X0.arraylength hx (by rw [e0]; exact Ar1.1) (State.isArrayOf_alike hZ.alike Ar1.2.1) (g := (mkF m 2 #[.val (.ref a1), .val (.int p2)] [(.ref a1), (.int p2)])) rfl rfl (hb hby d2_2) _ ?_
    rw [len_of S1 N1_]
    exact kt
  by_cases hc3 : p2 < z1
  · obtain ⟨cl4, Ar4, qq4, S4, N4_, H4, G4⟩ := id V_a1
    have hin4 : ¬ (p2 < 0 ∨ cl4.slots.size ≤ (p2).toNatClampNeg) := inb_of S4 ⟨hj, hc3⟩
    have hat4 : cl4.slots[(p2).toNatClampNeg]? = some (.int w1) := (H4 (p2).toNatClampNeg (Nat.lt_of_not_le fun w => hin4 (Or.inr w))).trans (congrArg some (hw1 hc3))
    have pre5 : ∀ t, Steps p.tables e below (s₁.setTop (mkF m 10 #[.val (.ref a1), .val (.int p2)] [(.int p2), (.int w1)])) t → Steps p.tables e below (s₁.setTop (entryFrame m #[(.ref a1), (.int p2)] 2)) t := fun t kt => by
      refine pre2 _ ?_
      show Steps p.tables e below (s₁.setTop (mkF m 3 #[.val (.ref a1), .val (.int p2)] [(.int z1), (.int p2)])) _
      refine XS.icmpNo X0.here hx rfl (hb hby d2_3) rfl (tlt hc3).2.1 ?_
      show Steps p.tables e below (s₁.setTop (mkF m 6 #[.val (.ref a1), .val (.int p2)] [])) _
      refine own_blk X0 hx bl2_6_2 (own_hb hby bd2_6_2) (pc' := 8) (Ls' := #[.val (.ref a1), .val (.int p2)]) (st' := [(.int p2), (.ref a1)]) rfl ?_
      show Steps p.tables e below (s₁.setTop (mkF m 8 #[.val (.ref a1), .val (.int p2)] [(.int p2), (.ref a1)])) _
      refine X0.iaload hx (j := p2) (v := (.int w1)) (by rw [e0]; exact Ar4.1) (State.isArrayOf_alike hZ.alike Ar4.2.1) Ar4.2.2 hin4 hat4 (g := (mkF m 8 #[.val (.ref a1), .val (.int p2)] [(.int p2), (.ref a1)])) rfl rfl (hb hby d2_8) _ ?_
      show Steps p.tables e below (s₁.setTop (mkF m 9 #[.val (.ref a1), .val (.int p2)] [(.int w1)])) _
      refine own_blk X0 hx bl2_9_1 (own_hb hby bd2_9_1) (pc' := 10) (Ls' := #[.val (.ref a1), .val (.int p2)]) (st' := [(.int p2), (.int w1)]) rfl ?_
      exact kt
    by_cases hc6 : w1 = p2
    · obtain ⟨fs, hr, hrun, hended, hW, hsame⟩ := X0.leave (v := some (.int (1 : Int32))) (fun h => by rw [Bd.returns] at h; cases h)
      refine ⟨_, _, pre5 _ ?_, hrun, hended, _, _, rfl, ?_, ⟨_, rfl⟩, hW, hsame.mono (by decide) (by decide)⟩
      · show Steps p.tables e below (s₁.setTop (mkF m 10 #[.val (.ref a1), .val (.int p2)] [(.int p2), (.int w1)])) _
        refine XS.icmpNo X0.here hx rfl (hb hby d2_10) rfl (teq hc6).2 ?_
        show Steps p.tables e below (s₁.setTop (mkF m 13 #[.val (.ref a1), .val (.int p2)] [])) _
        refine own_blk X0 hx bl2_13_2 (own_hb hby bd2_13_2) (pc' := 18) (Ls' := #[.val (.ref a1), .val (.int p2)]) (st' := [(.int (1 : Int32))]) rfl ?_
        show Steps p.tables e below (s₁.setTop (mkF m 18 #[.val (.ref a1), .val (.int p2)] [(.int (1 : Int32))])) _
        exact retN X0 hx (t := .boolean) Bd.returns (by simp) (hb hby d2_18) hr
      · show Q2 Z a1 p2 w1 k_a1 vs1 z1 h0 n0 _ s₁.heap _
        rw [e0]
        exact ⟨by rw [f2, if_pos hc3, if_pos hc6], N0, rfl⟩
    · obtain ⟨fs, hr, hrun, hended, hW, hsame⟩ := X0.leave (v := some (.int (0 : Int32))) (fun h => by rw [Bd.returns] at h; cases h)
      refine ⟨_, _, pre5 _ ?_, hrun, hended, _, _, rfl, ?_, ⟨_, rfl⟩, hW, hsame.mono (by decide) (by decide)⟩
      · show Steps p.tables e below (s₁.setTop (mkF m 10 #[.val (.ref a1), .val (.int p2)] [(.int p2), (.int w1)])) _
        refine XS.icmpYes X0.here hx rfl (pc0 := 10) (pc' := 17) rfl (hb hby d2_10) rfl (feq hc6).2 (by decide) (by decide) ?_
        show Steps p.tables e below (s₁.setTop (mkF m 17 #[.val (.ref a1), .val (.int p2)] [])) _
        refine own_blk X0 hx bl2_17_1 (own_hb hby bd2_17_1) (pc' := 18) (Ls' := #[.val (.ref a1), .val (.int p2)]) (st' := [(.int (0 : Int32))]) rfl ?_
        show Steps p.tables e below (s₁.setTop (mkF m 18 #[.val (.ref a1), .val (.int p2)] [(.int (0 : Int32))])) _
        exact retN X0 hx (t := .boolean) Bd.returns (by simp) (hb hby d2_18) hr
      · show Q2 Z a1 p2 w1 k_a1 vs1 z1 h0 n0 _ s₁.heap _
        rw [e0]
        exact ⟨by rw [f2, if_pos hc3, if_neg hc6], N0, rfl⟩
  · obtain ⟨fs, hr, hrun, hended, hW, hsame⟩ := X0.leave (v := some (.int (1 : Int32))) (fun h => by rw [Bd.returns] at h; cases h)
    refine ⟨_, _, pre2 _ ?_, hrun, hended, _, _, rfl, ?_, ⟨_, rfl⟩, hW, hsame.mono (by decide) (by decide)⟩
    · show Steps p.tables e below (s₁.setTop (mkF m 3 #[.val (.ref a1), .val (.int p2)] [(.int z1), (.int p2)])) _
      refine XS.icmpYes X0.here hx rfl (pc0 := 3) (pc' := 19) rfl (hb hby d2_3) rfl (flt hc3).2.1 (by decide) (by decide) ?_
      show Steps p.tables e below (s₁.setTop (mkF m 19 #[.val (.ref a1), .val (.int p2)] [])) _
      refine own_blk X0 hx bl2_19_1 (own_hb hby bd2_19_1) (pc' := 20) (Ls' := #[.val (.ref a1), .val (.int p2)]) (st' := [(.int (1 : Int32))]) rfl ?_
      show Steps p.tables e below (s₁.setTop (mkF m 20 #[.val (.ref a1), .val (.int p2)] [(.int (1 : Int32))])) _
      exact retN X0 hx (t := .boolean) Bd.returns (by simp) (hb hby d2_20) hr
    · show Q2 Z a1 p2 w1 k_a1 vs1 z1 h0 n0 _ s₁.heap _
      rw [e0]
      exact ⟨by rw [f2, if_neg hc3], N0, rfl⟩
theorem d3_0 : decode method_3_code 0 = .ok (.iload_n 1, 1) := by decide +kernel
theorem d3_1 : decode method_3_code 1 = .ok (.aload_n 0, 1) := by decide +kernel
theorem d3_2 : decode method_3_code 2 = .ok (.arraylength, 1) := by decide +kernel
theorem d3_3 : decode method_3_code 3 = .ok (.if_icmp .ge 16, 3) := by decide +kernel
theorem d3_6 : decode method_3_code 6 = .ok (.aload_n 0, 1) := by decide +kernel
theorem d3_7 : decode method_3_code 7 = .ok (.iload_n 1, 1) := by decide +kernel
theorem d3_8 : decode method_3_code 8 = .ok (.iaload, 1) := by decide +kernel
theorem d3_9 : decode method_3_code 9 = .ok (.iload_n 2, 1) := by decide +kernel
theorem d3_10 : decode method_3_code 10 = .ok (.if_icmp .ne 7, 3) := by decide +kernel
theorem d3_13 : decode method_3_code 13 = .ok (.iconst 1, 1) := by decide +kernel
theorem d3_14 : decode method_3_code 14 = .ok (.goto 4, 3) := by decide +kernel
theorem d3_17 : decode method_3_code 17 = .ok (.iconst 0, 1) := by decide +kernel
theorem d3_18 : decode method_3_code 18 = .ok (.ireturn, 1) := by decide +kernel
theorem d3_19 : decode method_3_code 19 = .ok (.iconst 1, 1) := by decide +kernel
theorem d3_20 : decode method_3_code 20 = .ok (.ireturn, 1) := by decide +kernel
theorem pn_3 : plainName "com/example/varel/varel/text/EditDistanceStartPinLaw" = true := by first | (simp [plainName, overriddenIn]; done) | decide +kernel
theorem ef_3 (m : MethodId) (x0 : Addr) (x1 : Int32) (x2 : Int32) : entryFrame m #[(.ref x0), (.int x1), (.int x2)] 3 = mkF m 0 #[.val (.ref x0), .val (.int x1), .val (.int x2)] [] := by first | (simp [entryFrame, mkF, argsToLocals, Value.category]; done) | rfl
def bl3_0_2 : List (Nat × Instr × Nat) := [(0, .iload_n 1, 1), (1, .aload_n 0, 1)]
theorem bd3_0_2 : own_dec method_3_code bl3_0_2 = true := by decide +kernel
def bl3_6_2 : List (Nat × Instr × Nat) := [(6, .aload_n 0, 1), (7, .iload_n 1, 1)]
theorem bd3_6_2 : own_dec method_3_code bl3_6_2 = true := by decide +kernel
def bl3_9_1 : List (Nat × Instr × Nat) := [(9, .iload_n 2, 1)]
theorem bd3_9_1 : own_dec method_3_code bl3_9_1 = true := by decide +kernel
def bl3_13_2 : List (Nat × Instr × Nat) := [(13, .iconst 1, 1), (14, .goto 4, 3)]
theorem bd3_13_2 : own_dec method_3_code bl3_13_2 = true := by decide +kernel
def bl3_17_1 : List (Nat × Instr × Nat) := [(17, .iconst 0, 1)]
theorem bd3_17_1 : own_dec method_3_code bl3_17_1 = true := by decide +kernel
def bl3_19_1 : List (Nat × Instr × Nat) := [(19, .iconst 1, 1)]
theorem bd3_19_1 : own_dec method_3_code bl3_19_1 = true := by decide +kernel

def f3 (p2 : Int32) (p3 : Int32) (w1 : Int32) (z1 : Int32) : Int32 := (if p2 < z1 then (if w1 = p3 then (1 : Int32) else (0 : Int32)) else (1 : Int32))
def Q3 (Z : State) (a1 : Addr) (p2 : Int32) (p3 : Int32) (w1 : Int32) (k_a1 : ClassId) (vs1 : List Value) (z1 : Int32) (h0 : Heap) (n0 : Nat) (v : Option Value) (h : Heap) (L : List Loc) : Prop := v = some (.int (f3 p2 p3 w1 z1)) ∧ Fr n0 L ∧ h = h0
set_option maxRecDepth 65536 in
set_option maxHeartbeats 40000000 in
theorem rm3 (l : Launch) (Z : State) (a0 : Array Value) (hw : ∀ d ∈ tables_1, d.before a0 Z = true) (ws : List Jvm.Cond) (a1 : Addr) (p2 : Int32) (p3 : Int32) (w1 : Int32) (k_a1 : ClassId) (vs1 : List Value) (z1 : Int32) (h0 : Heap) (n0 : Nat) (Z0 : n0 ≤ h0.size) (V_a1 : Arv Z h0 a1 k_a1 .int z1 vs1 (.int (0 : Int32))) (hj : ¬ (p2 < 0)) (hw1 : p2 < z1 → vs1.getD p2.toNatClampNeg (.int (0 : Int32)) = .int w1) :
    MetFree l (⟨"com/example/varel/varel/text/EditDistanceStartPinLaw", "kept", "([III)Z"⟩ : MethodName) (head1 (Jvm.Cond.code (⟨"com/example/varel/varel/text/EditDistanceStartPinLaw", "kept", "([III)Z"⟩ : MethodName) method_3_code 3 (some .boolean) :: ws) ({ frames := 0, cells := 0, slots := 0, locals := 0 } : Room)) (fun a U => a = #[(.ref a1), (.int p2), (.int p3)] ∧ Z.Warmed39 U.vm ∧ U.heap = h0) (fun _ _ _ _ _ => True) (fun _ U o U' => ∃ v L, o = .returned v ∧ Q3 Z a1 p2 p3 w1 k_a1 vs1 z1 h0 n0 v U'.heap L ∧ FrameEnd U o U' L ({ frames := 0, cells := 0, slots := 0, locals := 0 } : Room).cells ({ frames := 0, cells := 0, slots := 0, locals := 0 } : Room).slots) := by
  refine MetFree.of_bodySF (plainFor_of_name pn_3) hisR ?_
  intro p e s m args below meth c s₁ Bd hml0 hP hK
  obtain ⟨rfl, hZ, hh⟩ := hP
  have hx := Bd.exec
  have hby := Bd.bytes
  have hml : c.maxLocals = 3 := hml0
  have hown : s.vm.findClass "com/example/varel/varel/text/EditDistanceStartPinLaw" = some m.cls := findClass_of_methodNamed Bd.named
  have hnm := (name_of_methodNamed Bd.named Bd.method).1
  have X0 : Stand p l e ({ frames := 0, cells := 0, slots := 0, locals := 0 } : Room) s m #[(.ref a1), (.int p2), (.int p3)] below meth c s₁ [] 0 0 := Stand.of_body Bd
  have e0 : s₁.heap = h0 := by rw [← hh, Bd.state]; rfl
  have N0 := Fr.nil n0
  have pre0 : ∀ t, Steps p.tables e below (s₁.setTop (mkF m 0 #[.val (.ref a1), .val (.int p2), .val (.int p3)] [])) t → Steps p.tables e below (s₁.setTop (entryFrame m #[(.ref a1), (.int p2), (.int p3)] 3)) t := fun t k => castTop (ef_3 m a1 p2 p3) k
  obtain ⟨cl1, Ar1, qq1, S1, N1_, H1, G1⟩ := id V_a1
  have pre2 : ∀ t, Steps p.tables e below (s₁.setTop (mkF m 3 #[.val (.ref a1), .val (.int p2), .val (.int p3)] [(.int z1), (.int p2)])) t → Steps p.tables e below (s₁.setTop (entryFrame m #[(.ref a1), (.int p2), (.int p3)] 3)) t := fun t kt => by
    refine pre0 _ ?_
    show Steps p.tables e below (s₁.setTop (mkF m 0 #[.val (.ref a1), .val (.int p2), .val (.int p3)] [])) _
    refine own_blk X0 hx bl3_0_2 (own_hb hby bd3_0_2) (pc' := 2) (Ls' := #[.val (.ref a1), .val (.int p2), .val (.int p3)]) (st' := [(.ref a1), (.int p2)]) rfl ?_
    show Steps p.tables e below (s₁.setTop (mkF m 2 #[.val (.ref a1), .val (.int p2), .val (.int p3)] [(.ref a1), (.int p2)])) _
    refine X0.arraylength hx (by rw [e0]; exact Ar1.1) (State.isArrayOf_alike hZ.alike Ar1.2.1) (g := (mkF m 2 #[.val (.ref a1), .val (.int p2), .val (.int p3)] [(.ref a1), (.int p2)])) rfl rfl (hb hby d3_2) _ ?_
    rw [len_of S1 N1_]
    exact kt
  by_cases hc3 : p2 < z1
  · obtain ⟨cl4, Ar4, qq4, S4, N4_, H4, G4⟩ := id V_a1
    have hin4 : ¬ (p2 < 0 ∨ cl4.slots.size ≤ (p2).toNatClampNeg) := inb_of S4 ⟨hj, hc3⟩
    have hat4 : cl4.slots[(p2).toNatClampNeg]? = some (.int w1) := (H4 (p2).toNatClampNeg (Nat.lt_of_not_le fun w => hin4 (Or.inr w))).trans (congrArg some (hw1 hc3))
    have pre5 : ∀ t, Steps p.tables e below (s₁.setTop (mkF m 10 #[.val (.ref a1), .val (.int p2), .val (.int p3)] [(.int p3), (.int w1)])) t → Steps p.tables e below (s₁.setTop (entryFrame m #[(.ref a1), (.int p2), (.int p3)] 3)) t := fun t kt => by
      refine pre2 _ ?_
      show Steps p.tables e below (s₁.setTop (mkF m 3 #[.val (.ref a1), .val (.int p2), .val (.int p3)] [(.int z1), (.int p2)])) _
      refine XS.icmpNo X0.here hx rfl (hb hby d3_3) rfl (tlt hc3).2.1 ?_
      show Steps p.tables e below (s₁.setTop (mkF m 6 #[.val (.ref a1), .val (.int p2), .val (.int p3)] [])) _
      refine own_blk X0 hx bl3_6_2 (own_hb hby bd3_6_2) (pc' := 8) (Ls' := #[.val (.ref a1), .val (.int p2), .val (.int p3)]) (st' := [(.int p2), (.ref a1)]) rfl ?_
      show Steps p.tables e below (s₁.setTop (mkF m 8 #[.val (.ref a1), .val (.int p2), .val (.int p3)] [(.int p2), (.ref a1)])) _
      refine X0.iaload hx (j := p2) (v := (.int w1)) (by rw [e0]; exact Ar4.1) (State.isArrayOf_alike hZ.alike Ar4.2.1) Ar4.2.2 hin4 hat4 (g := (mkF m 8 #[.val (.ref a1), .val (.int p2), .val (.int p3)] [(.int p2), (.ref a1)])) rfl rfl (hb hby d3_8) _ ?_
      show Steps p.tables e below (s₁.setTop (mkF m 9 #[.val (.ref a1), .val (.int p2), .val (.int p3)] [(.int w1)])) _
      refine own_blk X0 hx bl3_9_1 (own_hb hby bd3_9_1) (pc' := 10) (Ls' := #[.val (.ref a1), .val (.int p2), .val (.int p3)]) (st' := [(.int p3), (.int w1)]) rfl ?_
      exact kt
    by_cases hc6 : w1 = p3
    · obtain ⟨fs, hr, hrun, hended, hW, hsame⟩ := X0.leave (v := some (.int (1 : Int32))) (fun h => by rw [Bd.returns] at h; cases h)
      refine ⟨_, _, pre5 _ ?_, hrun, hended, _, _, rfl, ?_, ⟨_, rfl⟩, hW, hsame.mono (by decide) (by decide)⟩
      · show Steps p.tables e below (s₁.setTop (mkF m 10 #[.val (.ref a1), .val (.int p2), .val (.int p3)] [(.int p3), (.int w1)])) _
        refine XS.icmpNo X0.here hx rfl (hb hby d3_10) rfl (teq hc6).2 ?_
        show Steps p.tables e below (s₁.setTop (mkF m 13 #[.val (.ref a1), .val (.int p2), .val (.int p3)] [])) _
        refine own_blk X0 hx bl3_13_2 (own_hb hby bd3_13_2) (pc' := 18) (Ls' := #[.val (.ref a1), .val (.int p2), .val (.int p3)]) (st' := [(.int (1 : Int32))]) rfl ?_
        show Steps p.tables e below (s₁.setTop (mkF m 18 #[.val (.ref a1), .val (.int p2), .val (.int p3)] [(.int (1 : Int32))])) _
        exact retN X0 hx (t := .boolean) Bd.returns (by simp) (hb hby d3_18) hr
      · show Q3 Z a1 p2 p3 w1 k_a1 vs1 z1 h0 n0 _ s₁.heap _
        rw [e0]
        exact ⟨by rw [f3, if_pos hc3, if_pos hc6], N0, rfl⟩
    · obtain ⟨fs, hr, hrun, hended, hW, hsame⟩ := X0.leave (v := some (.int (0 : Int32))) (fun h => by rw [Bd.returns] at h; cases h)
      refine ⟨_, _, pre5 _ ?_, hrun, hended, _, _, rfl, ?_, ⟨_, rfl⟩, hW, hsame.mono (by decide) (by decide)⟩
      · show Steps p.tables e below (s₁.setTop (mkF m 10 #[.val (.ref a1), .val (.int p2), .val (.int p3)] [(.int p3), (.int w1)])) _
        refine XS.icmpYes X0.here hx rfl (pc0 := 10) (pc' := 17) rfl (hb hby d3_10) rfl (feq hc6).2 (by decide) (by decide) ?_
        show Steps p.tables e below (s₁.setTop (mkF m 17 #[.val (.ref a1), .val (.int p2), .val (.int p3)] [])) _
        refine own_blk X0 hx bl3_17_1 (own_hb hby bd3_17_1) (pc' := 18) (Ls' := #[.val (.ref a1), .val (.int p2), .val (.int p3)]) (st' := [(.int (0 : Int32))]) rfl ?_
        show Steps p.tables e below (s₁.setTop (mkF m 18 #[.val (.ref a1), .val (.int p2), .val (.int p3)] [(.int (0 : Int32))])) _
        exact retN X0 hx (t := .boolean) Bd.returns (by simp) (hb hby d3_18) hr
      · show Q3 Z a1 p2 p3 w1 k_a1 vs1 z1 h0 n0 _ s₁.heap _
        rw [e0]
        exact ⟨by rw [f3, if_pos hc3, if_neg hc6], N0, rfl⟩
  · obtain ⟨fs, hr, hrun, hended, hW, hsame⟩ := X0.leave (v := some (.int (1 : Int32))) (fun h => by rw [Bd.returns] at h; cases h)
    refine ⟨_, _, pre2 _ ?_, hrun, hended, _, _, rfl, ?_, ⟨_, rfl⟩, hW, hsame.mono (by decide) (by decide)⟩
    · show Steps p.tables e below (s₁.setTop (mkF m 3 #[.val (.ref a1), .val (.int p2), .val (.int p3)] [(.int z1), (.int p2)])) _
      refine XS.icmpYes X0.here hx rfl (pc0 := 3) (pc' := 19) rfl (hb hby d3_3) rfl (flt hc3).2.1 (by decide) (by decide) ?_
      show Steps p.tables e below (s₁.setTop (mkF m 19 #[.val (.ref a1), .val (.int p2), .val (.int p3)] [])) _
      refine own_blk X0 hx bl3_19_1 (own_hb hby bd3_19_1) (pc' := 20) (Ls' := #[.val (.ref a1), .val (.int p2), .val (.int p3)]) (st' := [(.int (1 : Int32))]) rfl ?_
      show Steps p.tables e below (s₁.setTop (mkF m 20 #[.val (.ref a1), .val (.int p2), .val (.int p3)] [(.int (1 : Int32))])) _
      exact retN X0 hx (t := .boolean) Bd.returns (by simp) (hb hby d3_20) hr
    · show Q3 Z a1 p2 p3 w1 k_a1 vs1 z1 h0 n0 _ s₁.heap _
      rw [e0]
      exact ⟨by rw [f3, if_neg hc3], N0, rfl⟩
theorem d1_0 : decode prog_54_method_4_code 0 = .ok (.aload_n 0, 1) := by decide +kernel
theorem d1_1 : decode prog_54_method_4_code 1 = .ok (.arraylength, 1) := by decide +kernel
theorem d1_2 : decode prog_54_method_4_code 2 = .ok (.iconst 1, 1) := by decide +kernel
theorem d1_3 : decode prog_54_method_4_code 3 = .ok (.iadd, 1) := by decide +kernel
theorem d1_4 : decode prog_54_method_4_code 4 = .ok (.newarray .int, 2) := by decide +kernel
theorem d1_6 : decode prog_54_method_4_code 6 = .ok (.astore_n 1, 1) := by decide +kernel
theorem d1_7 : decode prog_54_method_4_code 7 = .ok (.iconst 0, 1) := by decide +kernel
theorem d1_8 : decode prog_54_method_4_code 8 = .ok (.istore_n 2, 1) := by decide +kernel
theorem d1_9 : decode prog_54_method_4_code 9 = .ok (.iload_n 2, 1) := by decide +kernel
theorem d1_10 : decode prog_54_method_4_code 10 = .ok (.aload_n 0, 1) := by decide +kernel
theorem d1_11 : decode prog_54_method_4_code 11 = .ok (.arraylength, 1) := by decide +kernel
theorem d1_12 : decode prog_54_method_4_code 12 = .ok (.if_icmp .gt 13, 3) := by decide +kernel
theorem d1_15 : decode prog_54_method_4_code 15 = .ok (.aload_n 1, 1) := by decide +kernel
theorem d1_16 : decode prog_54_method_4_code 16 = .ok (.iload_n 2, 1) := by decide +kernel
theorem d1_17 : decode prog_54_method_4_code 17 = .ok (.iload_n 2, 1) := by decide +kernel
theorem d1_18 : decode prog_54_method_4_code 18 = .ok (.iastore, 1) := by decide +kernel
theorem d1_19 : decode prog_54_method_4_code 19 = .ok (.iinc 2 1, 3) := by decide +kernel
theorem d1_22 : decode prog_54_method_4_code 22 = .ok (.goto (-13), 3) := by decide +kernel
theorem d1_25 : decode prog_54_method_4_code 25 = .ok (.aload_n 1, 1) := by decide +kernel
theorem d1_26 : decode prog_54_method_4_code 26 = .ok (.areturn, 1) := by decide +kernel
theorem pn_1 : plainName "com/example/varel/varel/text/EditDistance" = true := by first | (simp [plainName, overriddenIn]; done) | decide +kernel
theorem ef_1 (m : MethodId) (x0 : Addr) : entryFrame m #[(.ref x0)] 3 = mkF m 0 #[.val (.ref x0), .unset, .unset] [] := by first | (simp [entryFrame, mkF, argsToLocals, Value.category]; done) | rfl
def bl1_0_1 : List (Nat × Instr × Nat) := [(0, .aload_n 0, 1)]
theorem bd1_0_1 : own_dec prog_54_method_4_code bl1_0_1 = true := by decide +kernel
def bl1_2_2 : List (Nat × Instr × Nat) := [(2, .iconst 1, 1), (3, .iadd, 1)]
theorem bd1_2_2 : own_dec prog_54_method_4_code bl1_2_2 = true := by decide +kernel
def bl1_6_5 : List (Nat × Instr × Nat) := [(6, .astore_n 1, 1), (7, .iconst 0, 1), (8, .istore_n 2, 1), (9, .iload_n 2, 1), (10, .aload_n 0, 1)]
theorem bd1_6_5 : own_dec prog_54_method_4_code bl1_6_5 = true := by decide +kernel
def bl1_15_3 : List (Nat × Instr × Nat) := [(15, .aload_n 1, 1), (16, .iload_n 2, 1), (17, .iload_n 2, 1)]
theorem bd1_15_3 : own_dec prog_54_method_4_code bl1_15_3 = true := by decide +kernel
def bl1_19_4 : List (Nat × Instr × Nat) := [(19, .iinc 2 1, 3), (22, .goto (-13), 3), (9, .iload_n 2, 1), (10, .aload_n 0, 1)]
theorem bd1_19_4 : own_dec prog_54_method_4_code bl1_19_4 = true := by decide +kernel
def bl1_25_1 : List (Nat × Instr × Nat) := [(25, .aload_n 1, 1)]
theorem bd1_25_1 : own_dec prog_54_method_4_code bl1_25_1 = true := by decide +kernel

def Q1_0 (Z : State) (a1 : Addr) (k_a1 : ClassId) (vs1 : List Value) (h0 : Heap) (n0 : Nat) (v : Option Value) (h : Heap) (L : List Loc) : Prop := ∃ (b : Addr) (k : ClassId), v = some (.ref b) ∧ Fr n0 L ∧ Keep h0 h [] ∧ n0 ≤ b ∧ h0.size ≤ b ∧ Arv Z h b k .int (1 : Int32) [(.int (0 : Int32))] (.int (0 : Int32))
set_option maxRecDepth 65536 in
set_option maxHeartbeats 40000000 in
theorem rm1_0 (l : Launch) (Z : State) (a0 : Array Value) (hw : ∀ d ∈ tables_1, d.before a0 Z = true) (ws : List Jvm.Cond) (a1 : Addr) (k_a1 : ClassId) (vs1 : List Value) (h0 : Heap) (n0 : Nat) (Z0 : n0 ≤ h0.size) (V_a1 : Arv Z h0 a1 k_a1 .int (0 : Int32) vs1 (.int (0 : Int32))) :
    MetFree l (⟨"com/example/varel/varel/text/EditDistance", "start", "([I)[I"⟩ : MethodName) (head1 (Jvm.Cond.code (⟨"com/example/varel/varel/text/EditDistance", "start", "([I)[I"⟩ : MethodName) prog_54_method_4_code 3 (some (.array .int)) :: ws) ({ frames := 0, cells := 1, slots := 1, locals := 0 } : Room)) (fun a U => a = #[(.ref a1)] ∧ Z.Warmed39 U.vm ∧ U.heap = h0) (fun _ _ _ _ _ => True) (fun _ U o U' => ∃ v L, o = .returned v ∧ Q1_0 Z a1 k_a1 vs1 h0 n0 v U'.heap L ∧ FrameEnd U o U' L ({ frames := 0, cells := 1, slots := 1, locals := 0 } : Room).cells ({ frames := 0, cells := 1, slots := 1, locals := 0 } : Room).slots) := by
  refine MetFree.of_bodySF (plainFor_of_name pn_1) hisR ?_
  intro p e s m args below meth c s₁ Bd hml0 hP hK
  obtain ⟨rfl, hZ, hh⟩ := hP
  have hx := Bd.exec
  have hby := Bd.bytes
  have hml : c.maxLocals = 3 := hml0
  have hown : s.vm.findClass "com/example/varel/varel/text/EditDistance" = some m.cls := findClass_of_methodNamed Bd.named
  have hnm := (name_of_methodNamed Bd.named Bd.method).1
  have X0 : Stand p l e ({ frames := 0, cells := 1, slots := 1, locals := 0 } : Room) s m #[(.ref a1)] below meth c s₁ [] 0 0 := Stand.of_body Bd
  have e0 : s₁.heap = h0 := by rw [← hh, Bd.state]; rfl
  have N0 := Fr.nil n0
  have pre0 : ∀ t, Steps p.tables e below (s₁.setTop (mkF m 0 #[.val (.ref a1), .unset, .unset] [])) t → Steps p.tables e below (s₁.setTop (entryFrame m #[(.ref a1)] 3)) t := fun t k => castTop (ef_1 m a1) k
  obtain ⟨cl1, Ar1, qq1, S1, N1_, H1, G1⟩ := id V_a1
  obtain ⟨T2, h2, k2, X2, e2, E2, A2, st2⟩ := newP X0 hx hZ (hw _ (List.mem_of_getElem? (i := 0) rfl)) e0 (g := (mkF m 4 #[.val (.ref a1), .unset, .unset] [(.int (1 : Int32))])) rfl (hb hby d1_4) rfl (by decide) (cap := 1) (by decide) (by decide) (by decide) (by decide)
  obtain ⟨b2, g2⟩ : ∃ z, z = h0.size := ⟨_, rfl⟩
  rw [← g2] at A2 st2
  have ne_a1_b2 : a1 ≠ b2 := Nat.ne_of_lt (Nat.lt_of_lt_of_le V_a1.lt (Nat.le_of_eq g2.symm))
  have g_b2 : n0 ≤ b2 := Nat.le_trans Z0 (Nat.le_of_eq g2.symm)
  have sz_b2 : h0.size ≤ b2 := Nat.le_trans (Keep.refl h0 []).1 (Nat.le_of_eq g2.symm)
  have zs3 : n0 ≤ h2.size := Nat.le_trans Z0 E2.1
  have kp4 : Keep h0 h2 [] := (Keep.refl h0 []).ext E2
  have V_b2 : Arv Z h2 b2 k2 .int (1 : Int32) [(.int (0 : Int32))] (.int (0 : Int32)) := (Arv.new A2 (by decide)).pad (pad_rep [] (.int (0 : Int32)) 1)
  have fa5 : Arv Z h2 a1 k_a1 .int (0 : Int32) vs1 (.int (0 : Int32)) := (V_a1.ext E2)
  obtain ⟨cl6, Ar6, qq6, S6, N6_, H6, G6⟩ := id fa5
  obtain ⟨cl7, Ar7, qq7, S7, N7_, H7, G7⟩ := id V_b2
  have hin7 : ¬ ((0 : Int32) < 0 ∨ cl7.slots.size ≤ ((0 : Int32)).toNatClampNeg) := inb_of S7 ⟨by decide, by decide⟩
  obtain ⟨T7, h7, X7, e7, W7, st7⟩ := stI X2 hx hZ e2 Ar7 (j := (0 : Int32)) hin7 (g := (mkF m 18 #[.val (.ref a1), .val (.ref b2), .val (.int (0 : Int32))] [(.int (0 : Int32)), (.int (0 : Int32)), (.ref b2)])) rfl rfl (hb hby d1_18)
  have V7 : Arv Z h7 b2 k2 .int (1 : Int32) [(.int (0 : Int32))] (.int (0 : Int32)) := Arv.set Ar7 qq7 S7 N7_ H7 G7 rfl W7 0 rfl (Nat.le_of_ble_eq_true rfl)
  have zs8 : n0 ≤ h7.size := Nat.le_trans zs3 (Keep.of_wr W7).1
  have kp9 : Keep h0 h7 [] := kp4.wr W7 (Or.inr sz_b2)
  have N7 := Fr.snoc X7 N0 g_b2
  have fa10 : Arv Z h7 a1 k_a1 .int (0 : Int32) vs1 (.int (0 : Int32)) := (fa5.other W7 ne_a1_b2)
  obtain ⟨cl11, Ar11, qq11, S11, N11_, H11, G11⟩ := id fa10
  obtain ⟨fs, hr, hrun, hended, hW, hsame⟩ := X7.leave (v := some (.ref b2)) (fun h => by rw [Bd.returns] at h; cases h)
  refine ⟨_, _, pre0 _ ?_, hrun, hended, _, _, rfl, ?_, ⟨_, rfl⟩, hW, hsame.mono (by decide) (by decide)⟩
  · show Steps p.tables e below (s₁.setTop (mkF m 0 #[.val (.ref a1), .unset, .unset] [])) _
    refine own_blk X0 hx bl1_0_1 (own_hb hby bd1_0_1) (pc' := 1) (Ls' := #[.val (.ref a1), .unset, .unset]) (st' := [(.ref a1)]) rfl ?_
    show Steps p.tables e below (s₁.setTop (mkF m 1 #[.val (.ref a1), .unset, .unset] [(.ref a1)])) _
    refine X0.arraylength hx (by rw [e0]; exact Ar1.1) (State.isArrayOf_alike hZ.alike Ar1.2.1) (g := (mkF m 1 #[.val (.ref a1), .unset, .unset] [(.ref a1)])) rfl rfl (hb hby d1_1) _ ?_
    rw [len_of S1 N1_]
    show Steps p.tables e below (s₁.setTop (mkF m 2 #[.val (.ref a1), .unset, .unset] [(.int (0 : Int32))])) _
    refine own_blk X0 hx bl1_2_2 (own_hb hby bd1_2_2) (pc' := 4) (Ls' := #[.val (.ref a1), .unset, .unset]) (st' := [(.int (1 : Int32))]) rfl ?_
    show Steps p.tables e below (s₁.setTop (mkF m 4 #[.val (.ref a1), .unset, .unset] [(.int (1 : Int32))])) _
    refine st2 _ ?_
    show Steps p.tables e below (T2.setTop (mkF m 6 #[.val (.ref a1), .unset, .unset] [(.ref b2)])) _
    refine own_blk X2 hx bl1_6_5 (own_hb hby bd1_6_5) (pc' := 11) (Ls' := #[.val (.ref a1), .val (.ref b2), .val (.int (0 : Int32))]) (st' := [(.ref a1), (.int (0 : Int32))]) rfl ?_
    show Steps p.tables e below (T2.setTop (mkF m 11 #[.val (.ref a1), .val (.ref b2), .val (.int (0 : Int32))] [(.ref a1), (.int (0 : Int32))])) _
    refine X2.arraylength hx (by rw [e2]; exact Ar6.1) (State.isArrayOf_alike hZ.alike Ar6.2.1) (g := (mkF m 11 #[.val (.ref a1), .val (.ref b2), .val (.int (0 : Int32))] [(.ref a1), (.int (0 : Int32))])) rfl rfl (hb hby d1_11) _ ?_
    rw [len_of S6 N6_]
    show Steps p.tables e below (T2.setTop (mkF m 12 #[.val (.ref a1), .val (.ref b2), .val (.int (0 : Int32))] [(.int (0 : Int32)), (.int (0 : Int32))])) _
    refine XS.icmpNo X2.here hx rfl (hb hby d1_12) rfl (flt (by decide : ¬ ((0 : Int32) < (0 : Int32)))).2.2.1 ?_
    show Steps p.tables e below (T2.setTop (mkF m 15 #[.val (.ref a1), .val (.ref b2), .val (.int (0 : Int32))] [])) _
    refine own_blk X2 hx bl1_15_3 (own_hb hby bd1_15_3) (pc' := 18) (Ls' := #[.val (.ref a1), .val (.ref b2), .val (.int (0 : Int32))]) (st' := [(.int (0 : Int32)), (.int (0 : Int32)), (.ref b2)]) rfl ?_
    show Steps p.tables e below (T2.setTop (mkF m 18 #[.val (.ref a1), .val (.ref b2), .val (.int (0 : Int32))] [(.int (0 : Int32)), (.int (0 : Int32)), (.ref b2)])) _
    refine st7 _ ?_
    show Steps p.tables e below (T7.setTop (mkF m 19 #[.val (.ref a1), .val (.ref b2), .val (.int (0 : Int32))] [])) _
    refine own_blk X7 hx bl1_19_4 (own_hb hby bd1_19_4) (pc' := 11) (Ls' := #[.val (.ref a1), .val (.ref b2), .val (.int (1 : Int32))]) (st' := [(.ref a1), (.int (1 : Int32))]) rfl ?_
    show Steps p.tables e below (T7.setTop (mkF m 11 #[.val (.ref a1), .val (.ref b2), .val (.int (1 : Int32))] [(.ref a1), (.int (1 : Int32))])) _
    refine X7.arraylength hx (by rw [e7]; exact Ar11.1) (State.isArrayOf_alike hZ.alike Ar11.2.1) (g := (mkF m 11 #[.val (.ref a1), .val (.ref b2), .val (.int (1 : Int32))] [(.ref a1), (.int (1 : Int32))])) rfl rfl (hb hby d1_11) _ ?_
    rw [len_of S11 N11_]
    show Steps p.tables e below (T7.setTop (mkF m 12 #[.val (.ref a1), .val (.ref b2), .val (.int (1 : Int32))] [(.int (0 : Int32)), (.int (1 : Int32))])) _
    refine XS.icmpYes X7.here hx rfl (pc0 := 12) (pc' := 25) rfl (hb hby d1_12) rfl (tlt (by decide : (0 : Int32) < (1 : Int32))).2.2.1 (by decide) (by decide) ?_
    show Steps p.tables e below (T7.setTop (mkF m 25 #[.val (.ref a1), .val (.ref b2), .val (.int (1 : Int32))] [])) _
    refine own_blk X7 hx bl1_25_1 (own_hb hby bd1_25_1) (pc' := 26) (Ls' := #[.val (.ref a1), .val (.ref b2), .val (.int (1 : Int32))]) (st' := [(.ref b2)]) rfl ?_
    show Steps p.tables e below (T7.setTop (mkF m 26 #[.val (.ref a1), .val (.ref b2), .val (.int (1 : Int32))] [(.ref b2)])) _
    jvm_step X7.here [X7.here.top, hx, (hb hby d1_26), X7.method', Bd.returns, Value.isRef, FieldType.isReference]
    first | (intro acts; rw [hr _ acts rfl rfl rfl]) | rw [hr _ _ rfl rfl rfl]
    exact Steps.refl _
  · show Q1_0 Z a1 k_a1 vs1 h0 n0 _ T7.heap _
    rw [e7]
    exact ⟨b2, k2, rfl, N7, kp9, g_b2, sz_b2, V7⟩
theorem pn_0 : plainName "com/example/varel/varel/text/EditDistanceStartPinLaw" = true := by first | (simp [plainName, overriddenIn]; done) | decide +kernel
theorem pd_0_0 : parseMethodDescriptor "([I)[I" = some ⟨[(.array .int)], some (.array .int)⟩ := by decide +kernel
theorem pd_0_1 : parseMethodDescriptor "([II)Z" = some ⟨[(.array .int), .int], some .boolean⟩ := by decide +kernel
theorem pd_0_2 : parseMethodDescriptor "([III)Z" = some ⟨[(.array .int), .int, .int], some .boolean⟩ := by decide +kernel
theorem ef_0 (m : MethodId) (x0 : Int32) (x1 : Int32) (x2 : Int32) (x3 : Int32) : entryFrame m #[(.int x0), (.int x1), (.int x2), (.int x3)] maxLocals = mkF m 0 #[.val (.int x0), .val (.int x1), .val (.int x2), .val (.int x3), .unset, .unset, .unset, .unset, .unset] [] := by first | (simp [entryFrame, mkF, argsToLocals, Value.category, maxLocals]; done) | rfl
def bl0_0_3 : List (Nat × Instr × Nat) := [(0, .iload_n 0, 1), (1, .bipush 7, 2), (3, .iand, 1)]
theorem bd0_0_3 : own_dec code bl0_0_3 = true := by decide +kernel
def bl0_4_2 : List (Nat × Instr × Nat) := [(4, .istore 4, 2), (6, .iload 4, 2)]
theorem bd0_4_2 : own_dec code bl0_4_2 = true := by decide +kernel
def bl0_10_2 : List (Nat × Instr × Nat) := [(10, .astore 5, 2), (12, .iload 4, 2)]
theorem bd0_10_2 : own_dec code bl0_10_2 = true := by decide +kernel
def bl0_22_2 : List (Nat × Instr × Nat) := [(22, .iload 4, 2), (24, .iconst 1, 1)]
theorem bd0_22_2 : own_dec code bl0_22_2 = true := by decide +kernel
def bl0_33_2 : List (Nat × Instr × Nat) := [(33, .iload 4, 2), (35, .iconst 2, 1)]
theorem bd0_33_2 : own_dec code bl0_33_2 = true := by decide +kernel
def bl0_44_2 : List (Nat × Instr × Nat) := [(44, .iload 4, 2), (46, .iconst 3, 1)]
theorem bd0_44_2 : own_dec code bl0_44_2 = true := by decide +kernel
def bl0_57_2 : List (Nat × Instr × Nat) := [(57, .iload 4, 2), (59, .iconst 4, 1)]
theorem bd0_57_2 : own_dec code bl0_57_2 = true := by decide +kernel
def bl0_70_2 : List (Nat × Instr × Nat) := [(70, .iload 4, 2), (72, .iconst 5, 1)]
theorem bd0_70_2 : own_dec code bl0_70_2 = true := by decide +kernel
def bl0_83_2 : List (Nat × Instr × Nat) := [(83, .iload 4, 2), (85, .bipush 6, 2)]
theorem bd0_83_2 : own_dec code bl0_83_2 = true := by decide +kernel
def bl0_99_1 : List (Nat × Instr × Nat) := [(99, .aload 5, 2)]
theorem bd0_99_1 : own_dec code bl0_99_1 = true := by decide +kernel
def bl0_104_2 : List (Nat × Instr × Nat) := [(104, .astore 6, 2), (106, .aload 6, 2)]
theorem bd0_104_2 : own_dec code bl0_104_2 = true := by decide +kernel
def bl0_113_1 : List (Nat × Instr × Nat) := [(113, .aload 6, 2)]
theorem bd0_113_1 : own_dec code bl0_113_1 = true := by decide +kernel
def bl0_116_3 : List (Nat × Instr × Nat) := [(116, .iload 4, 2), (118, .iconst 1, 1), (119, .iadd, 1)]
theorem bd0_116_3 : own_dec code bl0_116_3 = true := by decide +kernel
def bl0_125_2 : List (Nat × Instr × Nat) := [(125, .aload 6, 2), (127, .iconst 0, 1)]
theorem bd0_125_2 : own_dec code bl0_125_2 = true := by decide +kernel
def bl0_134_2 : List (Nat × Instr × Nat) := [(134, .aload 6, 2), (136, .iconst 1, 1)]
theorem bd0_134_2 : own_dec code bl0_134_2 = true := by decide +kernel
def bl0_143_2 : List (Nat × Instr × Nat) := [(143, .aload 6, 2), (145, .iconst 2, 1)]
theorem bd0_143_2 : own_dec code bl0_143_2 = true := by decide +kernel
def bl0_152_2 : List (Nat × Instr × Nat) := [(152, .aload 6, 2), (154, .iconst 3, 1)]
theorem bd0_152_2 : own_dec code bl0_152_2 = true := by decide +kernel
def bl0_161_2 : List (Nat × Instr × Nat) := [(161, .aload 6, 2), (163, .iconst 4, 1)]
theorem bd0_161_2 : own_dec code bl0_161_2 = true := by decide +kernel
def bl0_170_2 : List (Nat × Instr × Nat) := [(170, .aload 6, 2), (172, .iconst 5, 1)]
theorem bd0_170_2 : own_dec code bl0_170_2 = true := by decide +kernel
def bl0_179_2 : List (Nat × Instr × Nat) := [(179, .aload 6, 2), (181, .bipush 6, 2)]
theorem bd0_179_2 : own_dec code bl0_179_2 = true := by decide +kernel
def bl0_189_2 : List (Nat × Instr × Nat) := [(189, .aload 6, 2), (191, .bipush 7, 2)]
theorem bd0_189_2 : own_dec code bl0_189_2 = true := by decide +kernel
def bl0_199_4 : List (Nat × Instr × Nat) := [(199, .iconst 1, 1), (200, .goto 4, 3), (204, .istore 7, 2), (206, .aload 5, 2)]
theorem bd0_199_4 : own_dec code bl0_199_4 = true := by decide +kernel
def bl0_209_1 : List (Nat × Instr × Nat) := [(209, .iload 4, 2)]
theorem bd0_209_1 : own_dec code bl0_209_1 = true := by decide +kernel
def bl0_214_3 : List (Nat × Instr × Nat) := [(214, .aload 5, 2), (216, .iconst 0, 1), (217, .iload_n 1, 1)]
theorem bd0_214_3 : own_dec code bl0_214_3 = true := by decide +kernel
def bl0_224_3 : List (Nat × Instr × Nat) := [(224, .aload 5, 2), (226, .iconst 1, 1), (227, .iload_n 2, 1)]
theorem bd0_224_3 : own_dec code bl0_224_3 = true := by decide +kernel
def bl0_234_3 : List (Nat × Instr × Nat) := [(234, .aload 5, 2), (236, .iconst 2, 1), (237, .iload_n 3, 1)]
theorem bd0_234_3 : own_dec code bl0_234_3 = true := by decide +kernel
def bl0_244_5 : List (Nat × Instr × Nat) := [(244, .aload 5, 2), (246, .iconst 3, 1), (247, .iload_n 1, 1), (248, .iload_n 2, 1), (249, .ixor, 1)]
theorem bd0_244_5 : own_dec code bl0_244_5 = true := by decide +kernel
def bl0_256_5 : List (Nat × Instr × Nat) := [(256, .aload 5, 2), (258, .iconst 4, 1), (259, .iload_n 2, 1), (260, .iload_n 3, 1), (261, .isub, 1)]
theorem bd0_256_5 : own_dec code bl0_256_5 = true := by decide +kernel
def bl0_268_5 : List (Nat × Instr × Nat) := [(268, .aload 5, 2), (270, .iconst 5, 1), (271, .iload_n 1, 1), (272, .iconst (-1), 1), (273, .ixor, 1)]
theorem bd0_268_5 : own_dec code bl0_268_5 = true := by decide +kernel
def bl0_280_5 : List (Nat × Instr × Nat) := [(280, .aload 5, 2), (282, .bipush 6, 2), (284, .iload_n 3, 1), (285, .bipush 31, 2), (287, .imul, 1)]
theorem bd0_280_5 : own_dec code bl0_280_5 = true := by decide +kernel
def bl0_294_4 : List (Nat × Instr × Nat) := [(294, .iconst 1, 1), (295, .goto 4, 3), (299, .istore 8, 2), (301, .iload 7, 2)]
theorem bd0_294_4 : own_dec code bl0_294_4 = true := by decide +kernel
def bl0_306_1 : List (Nat × Instr × Nat) := [(306, .iload 8, 2)]
theorem bd0_306_1 : own_dec code bl0_306_1 = true := by decide +kernel
def bl0_311_2 : List (Nat × Instr × Nat) := [(311, .iconst 1, 1), (312, .goto 4, 3)]
theorem bd0_311_2 : own_dec code bl0_311_2 = true := by decide +kernel

def f0_0 (p1 : Int32) (p2 : Int32) (p3 : Int32) (p4 : Int32) : Int32 := (1 : Int32)
def Q0_0 (Z : State) (p1 : Int32) (p2 : Int32) (p3 : Int32) (p4 : Int32) (h0 : Heap) (n0 : Nat) (v : Option Value) (h : Heap) (L : List Loc) : Prop := v = some (.int (f0_0 p1 p2 p3 p4)) ∧ Fr n0 L
set_option maxRecDepth 65536 in
set_option maxHeartbeats 40000000 in
theorem rm0_0 (l : Launch) (Z : State) (a0 : Array Value) (hw : ∀ d ∈ tables_1, d.before a0 Z = true) (ws : List Jvm.Cond) (p1 : Int32) (p2 : Int32) (p3 : Int32) (p4 : Int32) (h0 : Heap) (n0 : Nat) (Z0 : n0 ≤ h0.size) (hn : (p1 &&& (7 : Int32)) = (0 : Int32)) :
    MetFree l x (head1 (Jvm.Cond.code x code maxLocals ret :: ws) room_1) (fun a U => a = #[(.int p1), (.int p2), (.int p3), (.int p4)] ∧ Z.Warmed39 U.vm ∧ U.heap = h0) (fun _ _ _ _ _ => True) (fun _ U o U' => ∃ v L, o = .returned v ∧ Q0_0 Z p1 p2 p3 p4 h0 n0 v U'.heap L ∧ FrameEnd U o U' L room_1.cells room_1.slots) := by
  refine MetFree.of_bodySF (plainFor_of_name pn_0) hisR ?_
  intro p e s m args below meth c s₁ Bd hml0 hP hK
  obtain ⟨rfl, hZ, hh⟩ := hP
  have hx := Bd.exec
  have hby := Bd.bytes
  have hml : c.maxLocals = 9 := hml0
  have hown : s.vm.findClass "com/example/varel/varel/text/EditDistanceStartPinLaw" = some m.cls := findClass_of_methodNamed Bd.named
  have hnm := (name_of_methodNamed Bd.named Bd.method).1
  have X0 : Stand p l e room_1 s m #[(.int p1), (.int p2), (.int p3), (.int p4)] below meth c s₁ [] 0 0 := Stand.of_body Bd
  have e0 : s₁.heap = h0 := by rw [← hh, Bd.state]; rfl
  have N0 := Fr.nil n0
  have pre0 : ∀ t, Steps p.tables e below (s₁.setTop (mkF m 0 #[.val (.int p1), .val (.int p2), .val (.int p3), .val (.int p4), .unset, .unset, .unset, .unset, .unset] [])) t → Steps p.tables e below (s₁.setTop (entryFrame m #[(.int p1), (.int p2), (.int p3), (.int p4)] maxLocals)) t := fun t k => castTop (ef_0 m p1 p2 p3 p4) k
  obtain ⟨T1, h1, k1, X1, e1, E1, A1, st1⟩ := newP X0 hx hZ (hw _ (List.mem_of_getElem? (i := 0) rfl)) e0 (g := (mkF m 8 #[.val (.int p1), .val (.int p2), .val (.int p3), .val (.int p4), .val (.int (0 : Int32)), .unset, .unset, .unset, .unset] [(.int (0 : Int32))])) rfl (hb hby at_8) rfl (by decide) (cap := 0) (by decide) (by decide) (by decide) (by decide)
  obtain ⟨b1, g1⟩ : ∃ z, z = h0.size := ⟨_, rfl⟩
  rw [← g1] at A1 st1
  have g_b1 : n0 ≤ b1 := Nat.le_trans Z0 (Nat.le_of_eq g1.symm)
  have zs2 : n0 ≤ h1.size := Nat.le_trans Z0 E1.1
  have V_b1 : Arv Z h1 b1 k1 .int (0 : Int32) [] (.int (0 : Int32)) := (Arv.new A1 (by decide)).pad (pad_rep [] (.int (0 : Int32)) 0)
  obtain ⟨_, T3, Lc3, X3, hQ3, st3⟩ := own_callS X1 hx hZ (y := (⟨"com/example/varel/varel/text/EditDistance", "start", "([I)[I"⟩ : MethodName)) hown (hw _ (List.mem_of_getElem? (i := 1) rfl)) (hw _ (List.mem_of_getElem? (i := 2) rfl)) (hw _ (List.mem_of_getElem? (i := 3) rfl)) (hw _ (List.mem_of_getElem? (i := 4) rfl)) (by decide) (W := 0) (argsL := [(.ref b1)]) (rest := []) (rm1_0 l Z a0 hw [] b1 k1 [] h1 n0 zs2 V_b1) (by decide) (by decide) (c' := 2) (s' := 1) rfl rfl (by decide) (by decide) e1 (g := (mkF m 101 #[.val (.int p1), .val (.int p2), .val (.int p3), .val (.int p4), .val (.int (0 : Int32)), .val (.ref b1), .unset, .unset, .unset] [(.ref b1)])) rfl (by rw [hml]; rfl) (lenOf pd_0_0 rfl) rfl (by show 2 * 0 + _ ≤ _; exact Nat.le_of_eq rfl) (hb hby at_101)
  obtain ⟨b3, kk3, rfl, N3q, K3, g_b3, szz3, V_b3⟩ := hQ3
  have N3 := Fr.app N0 N3q
  have ne_b1_b3 : b1 ≠ b3 := Nat.ne_of_lt (Nat.lt_of_lt_of_le V_b1.lt szz3)
  have zs4 : n0 ≤ T3.heap.size := Nat.le_trans zs2 K3.1
  obtain ⟨cl5, Ar5, qq5, S5, N5_, H5, G5⟩ := id V_b3
  obtain ⟨_, T6, Lc6, X6, hQ6, st6⟩ := own_callS X3 hx hZ (y := (⟨"com/example/varel/varel/text/EditDistanceStartPinLaw", "at", "([II)Z"⟩ : MethodName)) hown (hw _ (List.mem_of_getElem? (i := 5) rfl)) (hw _ (List.mem_of_getElem? (i := 6) rfl)) (hw _ (List.mem_of_getElem? (i := 7) rfl)) (hw _ (List.mem_of_getElem? (i := 8) rfl)) (by decide) (W := 0) (argsL := [(.ref b3), (.int (0 : Int32))]) (rest := []) (rm2 l Z a0 hw [] b3 (0 : Int32) (0 : Int32) kk3 [(.int (0 : Int32))] (1 : Int32) T3.heap n0 zs4 V_b3 (by decide) (fun _ => rfl)) (by decide) (by decide) (c' := 2) (s' := 1) rfl rfl (by decide) (by decide) rfl (g := (mkF m 128 #[.val (.int p1), .val (.int p2), .val (.int p3), .val (.int p4), .val (.int (0 : Int32)), .val (.ref b1), .val (.ref b3), .unset, .unset] [(.int (0 : Int32)), (.ref b3)])) rfl (by rw [hml]; rfl) (lenOf pd_0_1 rfl) rfl (by show 2 * 0 + _ ≤ _; exact Nat.le_of_eq rfl) (hb hby at_128)
  obtain ⟨hv6, N6q, e6⟩ := hQ6
  have N6 := Fr.app N3 N6q
  rw [f2, if_pos (by decide : (0 : Int32) < (1 : Int32)), if_pos (by decide : (0 : Int32) = (0 : Int32))] at hv6
  subst hv6
  obtain ⟨_, T7, Lc7, X7, hQ7, st7⟩ := own_callS X6 hx hZ (y := (⟨"com/example/varel/varel/text/EditDistanceStartPinLaw", "at", "([II)Z"⟩ : MethodName)) hown (hw _ (List.mem_of_getElem? (i := 5) rfl)) (hw _ (List.mem_of_getElem? (i := 6) rfl)) (hw _ (List.mem_of_getElem? (i := 7) rfl)) (hw _ (List.mem_of_getElem? (i := 8) rfl)) (by decide) (W := 0) (argsL := [(.ref b3), (.int (1 : Int32))]) (rest := []) (rm2 l Z a0 hw [] b3 (1 : Int32) (0 : Int32) kk3 [(.int (0 : Int32))] (1 : Int32) T3.heap n0 zs4 V_b3 (by decide) (fun h => absurd h (by decide))) (by decide) (by decide) (c' := 2) (s' := 1) rfl rfl (by decide) (by decide) e6 (g := (mkF m 137 #[.val (.int p1), .val (.int p2), .val (.int p3), .val (.int p4), .val (.int (0 : Int32)), .val (.ref b1), .val (.ref b3), .unset, .unset] [(.int (1 : Int32)), (.ref b3)])) rfl (by rw [hml]; rfl) (lenOf pd_0_1 rfl) rfl (by show 2 * 0 + _ ≤ _; exact Nat.le_of_eq rfl) (hb hby at_137)
  obtain ⟨hv7, N7q, e7⟩ := hQ7
  have N7 := Fr.app N6 N7q
  rw [f2, if_neg (by decide : ¬ ((1 : Int32) < (1 : Int32)))] at hv7
  subst hv7
  obtain ⟨_, T8, Lc8, X8, hQ8, st8⟩ := own_callS X7 hx hZ (y := (⟨"com/example/varel/varel/text/EditDistanceStartPinLaw", "at", "([II)Z"⟩ : MethodName)) hown (hw _ (List.mem_of_getElem? (i := 5) rfl)) (hw _ (List.mem_of_getElem? (i := 6) rfl)) (hw _ (List.mem_of_getElem? (i := 7) rfl)) (hw _ (List.mem_of_getElem? (i := 8) rfl)) (by decide) (W := 0) (argsL := [(.ref b3), (.int (2 : Int32))]) (rest := []) (rm2 l Z a0 hw [] b3 (2 : Int32) (0 : Int32) kk3 [(.int (0 : Int32))] (1 : Int32) T3.heap n0 zs4 V_b3 (by decide) (fun h => absurd h (by decide))) (by decide) (by decide) (c' := 2) (s' := 1) rfl rfl (by decide) (by decide) e7 (g := (mkF m 146 #[.val (.int p1), .val (.int p2), .val (.int p3), .val (.int p4), .val (.int (0 : Int32)), .val (.ref b1), .val (.ref b3), .unset, .unset] [(.int (2 : Int32)), (.ref b3)])) rfl (by rw [hml]; rfl) (lenOf pd_0_1 rfl) rfl (by show 2 * 0 + _ ≤ _; exact Nat.le_of_eq rfl) (hb hby at_146)
  obtain ⟨hv8, N8q, e8⟩ := hQ8
  have N8 := Fr.app N7 N8q
  rw [f2, if_neg (by decide : ¬ ((2 : Int32) < (1 : Int32)))] at hv8
  subst hv8
  obtain ⟨_, T9, Lc9, X9, hQ9, st9⟩ := own_callS X8 hx hZ (y := (⟨"com/example/varel/varel/text/EditDistanceStartPinLaw", "at", "([II)Z"⟩ : MethodName)) hown (hw _ (List.mem_of_getElem? (i := 5) rfl)) (hw _ (List.mem_of_getElem? (i := 6) rfl)) (hw _ (List.mem_of_getElem? (i := 7) rfl)) (hw _ (List.mem_of_getElem? (i := 8) rfl)) (by decide) (W := 0) (argsL := [(.ref b3), (.int (3 : Int32))]) (rest := []) (rm2 l Z a0 hw [] b3 (3 : Int32) (0 : Int32) kk3 [(.int (0 : Int32))] (1 : Int32) T3.heap n0 zs4 V_b3 (by decide) (fun h => absurd h (by decide))) (by decide) (by decide) (c' := 2) (s' := 1) rfl rfl (by decide) (by decide) e8 (g := (mkF m 155 #[.val (.int p1), .val (.int p2), .val (.int p3), .val (.int p4), .val (.int (0 : Int32)), .val (.ref b1), .val (.ref b3), .unset, .unset] [(.int (3 : Int32)), (.ref b3)])) rfl (by rw [hml]; rfl) (lenOf pd_0_1 rfl) rfl (by show 2 * 0 + _ ≤ _; exact Nat.le_of_eq rfl) (hb hby at_155)
  obtain ⟨hv9, N9q, e9⟩ := hQ9
  have N9 := Fr.app N8 N9q
  rw [f2, if_neg (by decide : ¬ ((3 : Int32) < (1 : Int32)))] at hv9
  subst hv9
  obtain ⟨_, T10, Lc10, X10, hQ10, st10⟩ := own_callS X9 hx hZ (y := (⟨"com/example/varel/varel/text/EditDistanceStartPinLaw", "at", "([II)Z"⟩ : MethodName)) hown (hw _ (List.mem_of_getElem? (i := 5) rfl)) (hw _ (List.mem_of_getElem? (i := 6) rfl)) (hw _ (List.mem_of_getElem? (i := 7) rfl)) (hw _ (List.mem_of_getElem? (i := 8) rfl)) (by decide) (W := 0) (argsL := [(.ref b3), (.int (4 : Int32))]) (rest := []) (rm2 l Z a0 hw [] b3 (4 : Int32) (0 : Int32) kk3 [(.int (0 : Int32))] (1 : Int32) T3.heap n0 zs4 V_b3 (by decide) (fun h => absurd h (by decide))) (by decide) (by decide) (c' := 2) (s' := 1) rfl rfl (by decide) (by decide) e9 (g := (mkF m 164 #[.val (.int p1), .val (.int p2), .val (.int p3), .val (.int p4), .val (.int (0 : Int32)), .val (.ref b1), .val (.ref b3), .unset, .unset] [(.int (4 : Int32)), (.ref b3)])) rfl (by rw [hml]; rfl) (lenOf pd_0_1 rfl) rfl (by show 2 * 0 + _ ≤ _; exact Nat.le_of_eq rfl) (hb hby at_164)
  obtain ⟨hv10, N10q, e10⟩ := hQ10
  have N10 := Fr.app N9 N10q
  rw [f2, if_neg (by decide : ¬ ((4 : Int32) < (1 : Int32)))] at hv10
  subst hv10
  obtain ⟨_, T11, Lc11, X11, hQ11, st11⟩ := own_callS X10 hx hZ (y := (⟨"com/example/varel/varel/text/EditDistanceStartPinLaw", "at", "([II)Z"⟩ : MethodName)) hown (hw _ (List.mem_of_getElem? (i := 5) rfl)) (hw _ (List.mem_of_getElem? (i := 6) rfl)) (hw _ (List.mem_of_getElem? (i := 7) rfl)) (hw _ (List.mem_of_getElem? (i := 8) rfl)) (by decide) (W := 0) (argsL := [(.ref b3), (.int (5 : Int32))]) (rest := []) (rm2 l Z a0 hw [] b3 (5 : Int32) (0 : Int32) kk3 [(.int (0 : Int32))] (1 : Int32) T3.heap n0 zs4 V_b3 (by decide) (fun h => absurd h (by decide))) (by decide) (by decide) (c' := 2) (s' := 1) rfl rfl (by decide) (by decide) e10 (g := (mkF m 173 #[.val (.int p1), .val (.int p2), .val (.int p3), .val (.int p4), .val (.int (0 : Int32)), .val (.ref b1), .val (.ref b3), .unset, .unset] [(.int (5 : Int32)), (.ref b3)])) rfl (by rw [hml]; rfl) (lenOf pd_0_1 rfl) rfl (by show 2 * 0 + _ ≤ _; exact Nat.le_of_eq rfl) (hb hby at_173)
  obtain ⟨hv11, N11q, e11⟩ := hQ11
  have N11 := Fr.app N10 N11q
  rw [f2, if_neg (by decide : ¬ ((5 : Int32) < (1 : Int32)))] at hv11
  subst hv11
  obtain ⟨_, T12, Lc12, X12, hQ12, st12⟩ := own_callS X11 hx hZ (y := (⟨"com/example/varel/varel/text/EditDistanceStartPinLaw", "at", "([II)Z"⟩ : MethodName)) hown (hw _ (List.mem_of_getElem? (i := 5) rfl)) (hw _ (List.mem_of_getElem? (i := 6) rfl)) (hw _ (List.mem_of_getElem? (i := 7) rfl)) (hw _ (List.mem_of_getElem? (i := 8) rfl)) (by decide) (W := 0) (argsL := [(.ref b3), (.int (6 : Int32))]) (rest := []) (rm2 l Z a0 hw [] b3 (6 : Int32) (0 : Int32) kk3 [(.int (0 : Int32))] (1 : Int32) T3.heap n0 zs4 V_b3 (by decide) (fun h => absurd h (by decide))) (by decide) (by decide) (c' := 2) (s' := 1) rfl rfl (by decide) (by decide) e11 (g := (mkF m 183 #[.val (.int p1), .val (.int p2), .val (.int p3), .val (.int p4), .val (.int (0 : Int32)), .val (.ref b1), .val (.ref b3), .unset, .unset] [(.int (6 : Int32)), (.ref b3)])) rfl (by rw [hml]; rfl) (lenOf pd_0_1 rfl) rfl (by show 2 * 0 + _ ≤ _; exact Nat.le_of_eq rfl) (hb hby at_183)
  obtain ⟨hv12, N12q, e12⟩ := hQ12
  have N12 := Fr.app N11 N12q
  rw [f2, if_neg (by decide : ¬ ((6 : Int32) < (1 : Int32)))] at hv12
  subst hv12
  obtain ⟨_, T13, Lc13, X13, hQ13, st13⟩ := own_callS X12 hx hZ (y := (⟨"com/example/varel/varel/text/EditDistanceStartPinLaw", "at", "([II)Z"⟩ : MethodName)) hown (hw _ (List.mem_of_getElem? (i := 5) rfl)) (hw _ (List.mem_of_getElem? (i := 6) rfl)) (hw _ (List.mem_of_getElem? (i := 7) rfl)) (hw _ (List.mem_of_getElem? (i := 8) rfl)) (by decide) (W := 0) (argsL := [(.ref b3), (.int (7 : Int32))]) (rest := []) (rm2 l Z a0 hw [] b3 (7 : Int32) (0 : Int32) kk3 [(.int (0 : Int32))] (1 : Int32) T3.heap n0 zs4 V_b3 (by decide) (fun h => absurd h (by decide))) (by decide) (by decide) (c' := 2) (s' := 1) rfl rfl (by decide) (by decide) e12 (g := (mkF m 193 #[.val (.int p1), .val (.int p2), .val (.int p3), .val (.int p4), .val (.int (0 : Int32)), .val (.ref b1), .val (.ref b3), .unset, .unset] [(.int (7 : Int32)), (.ref b3)])) rfl (by rw [hml]; rfl) (lenOf pd_0_1 rfl) rfl (by show 2 * 0 + _ ≤ _; exact Nat.le_of_eq rfl) (hb hby at_193)
  obtain ⟨hv13, N13q, e13⟩ := hQ13
  have N13 := Fr.app N12 N13q
  rw [f2, if_neg (by decide : ¬ ((7 : Int32) < (1 : Int32)))] at hv13
  subst hv13
  have fa14 : Arv Z T3.heap b1 k1 .int (0 : Int32) [] (.int (0 : Int32)) := (V_b1.keep K3 nin0)
  obtain ⟨cl15, Ar15, qq15, S15, N15_, H15, G15⟩ := id fa14
  obtain ⟨_, T16, Lc16, X16, hQ16, st16⟩ := own_callS X13 hx hZ (y := (⟨"com/example/varel/varel/text/EditDistanceStartPinLaw", "kept", "([III)Z"⟩ : MethodName)) hown (hw _ (List.mem_of_getElem? (i := 9) rfl)) (hw _ (List.mem_of_getElem? (i := 10) rfl)) (hw _ (List.mem_of_getElem? (i := 7) rfl)) (hw _ (List.mem_of_getElem? (i := 11) rfl)) (by decide) (W := 0) (argsL := [(.ref b1), (.int (0 : Int32)), (.int p2)]) (rest := []) (rm3 l Z a0 hw [] b1 (0 : Int32) p2 (0 : Int32) k1 [] (0 : Int32) T3.heap n0 zs4 fa14 (by decide) (fun h => absurd h (by decide))) (by decide) (by decide) (c' := 2) (s' := 1) rfl rfl (by decide) (by decide) e13 (g := (mkF m 218 #[.val (.int p1), .val (.int p2), .val (.int p3), .val (.int p4), .val (.int (0 : Int32)), .val (.ref b1), .val (.ref b3), .val (.int (1 : Int32)), .unset] [(.int p2), (.int (0 : Int32)), (.ref b1)])) rfl (by rw [hml]; rfl) (lenOf pd_0_2 rfl) rfl (by show 2 * 0 + _ ≤ _; exact Nat.le_of_eq rfl) (hb hby at_218)
  obtain ⟨hv16, N16q, e16⟩ := hQ16
  have N16 := Fr.app N13 N16q
  rw [f3, if_neg (by decide : ¬ ((0 : Int32) < (0 : Int32)))] at hv16
  subst hv16
  obtain ⟨_, T17, Lc17, X17, hQ17, st17⟩ := own_callS X16 hx hZ (y := (⟨"com/example/varel/varel/text/EditDistanceStartPinLaw", "kept", "([III)Z"⟩ : MethodName)) hown (hw _ (List.mem_of_getElem? (i := 9) rfl)) (hw _ (List.mem_of_getElem? (i := 10) rfl)) (hw _ (List.mem_of_getElem? (i := 7) rfl)) (hw _ (List.mem_of_getElem? (i := 11) rfl)) (by decide) (W := 0) (argsL := [(.ref b1), (.int (1 : Int32)), (.int p3)]) (rest := []) (rm3 l Z a0 hw [] b1 (1 : Int32) p3 (0 : Int32) k1 [] (0 : Int32) T3.heap n0 zs4 fa14 (by decide) (fun h => absurd h (by decide))) (by decide) (by decide) (c' := 2) (s' := 1) rfl rfl (by decide) (by decide) e16 (g := (mkF m 228 #[.val (.int p1), .val (.int p2), .val (.int p3), .val (.int p4), .val (.int (0 : Int32)), .val (.ref b1), .val (.ref b3), .val (.int (1 : Int32)), .unset] [(.int p3), (.int (1 : Int32)), (.ref b1)])) rfl (by rw [hml]; rfl) (lenOf pd_0_2 rfl) rfl (by show 2 * 0 + _ ≤ _; exact Nat.le_of_eq rfl) (hb hby at_228)
  obtain ⟨hv17, N17q, e17⟩ := hQ17
  have N17 := Fr.app N16 N17q
  rw [f3, if_neg (by decide : ¬ ((1 : Int32) < (0 : Int32)))] at hv17
  subst hv17
  obtain ⟨_, T18, Lc18, X18, hQ18, st18⟩ := own_callS X17 hx hZ (y := (⟨"com/example/varel/varel/text/EditDistanceStartPinLaw", "kept", "([III)Z"⟩ : MethodName)) hown (hw _ (List.mem_of_getElem? (i := 9) rfl)) (hw _ (List.mem_of_getElem? (i := 10) rfl)) (hw _ (List.mem_of_getElem? (i := 7) rfl)) (hw _ (List.mem_of_getElem? (i := 11) rfl)) (by decide) (W := 0) (argsL := [(.ref b1), (.int (2 : Int32)), (.int p4)]) (rest := []) (rm3 l Z a0 hw [] b1 (2 : Int32) p4 (0 : Int32) k1 [] (0 : Int32) T3.heap n0 zs4 fa14 (by decide) (fun h => absurd h (by decide))) (by decide) (by decide) (c' := 2) (s' := 1) rfl rfl (by decide) (by decide) e17 (g := (mkF m 238 #[.val (.int p1), .val (.int p2), .val (.int p3), .val (.int p4), .val (.int (0 : Int32)), .val (.ref b1), .val (.ref b3), .val (.int (1 : Int32)), .unset] [(.int p4), (.int (2 : Int32)), (.ref b1)])) rfl (by rw [hml]; rfl) (lenOf pd_0_2 rfl) rfl (by show 2 * 0 + _ ≤ _; exact Nat.le_of_eq rfl) (hb hby at_238)
  obtain ⟨hv18, N18q, e18⟩ := hQ18
  have N18 := Fr.app N17 N18q
  rw [f3, if_neg (by decide : ¬ ((2 : Int32) < (0 : Int32)))] at hv18
  subst hv18
  obtain ⟨_, T19, Lc19, X19, hQ19, st19⟩ := own_callS X18 hx hZ (y := (⟨"com/example/varel/varel/text/EditDistanceStartPinLaw", "kept", "([III)Z"⟩ : MethodName)) hown (hw _ (List.mem_of_getElem? (i := 9) rfl)) (hw _ (List.mem_of_getElem? (i := 10) rfl)) (hw _ (List.mem_of_getElem? (i := 7) rfl)) (hw _ (List.mem_of_getElem? (i := 11) rfl)) (by decide) (W := 0) (argsL := [(.ref b1), (.int (3 : Int32)), (.int (p2 ^^^ p3))]) (rest := []) (rm3 l Z a0 hw [] b1 (3 : Int32) (p2 ^^^ p3) (0 : Int32) k1 [] (0 : Int32) T3.heap n0 zs4 fa14 (by decide) (fun h => absurd h (by decide))) (by decide) (by decide) (c' := 2) (s' := 1) rfl rfl (by decide) (by decide) e18 (g := (mkF m 250 #[.val (.int p1), .val (.int p2), .val (.int p3), .val (.int p4), .val (.int (0 : Int32)), .val (.ref b1), .val (.ref b3), .val (.int (1 : Int32)), .unset] [(.int (p2 ^^^ p3)), (.int (3 : Int32)), (.ref b1)])) rfl (by rw [hml]; rfl) (lenOf pd_0_2 rfl) rfl (by show 2 * 0 + _ ≤ _; exact Nat.le_of_eq rfl) (hb hby at_250)
  obtain ⟨hv19, N19q, e19⟩ := hQ19
  have N19 := Fr.app N18 N19q
  rw [f3, if_neg (by decide : ¬ ((3 : Int32) < (0 : Int32)))] at hv19
  subst hv19
  obtain ⟨_, T20, Lc20, X20, hQ20, st20⟩ := own_callS X19 hx hZ (y := (⟨"com/example/varel/varel/text/EditDistanceStartPinLaw", "kept", "([III)Z"⟩ : MethodName)) hown (hw _ (List.mem_of_getElem? (i := 9) rfl)) (hw _ (List.mem_of_getElem? (i := 10) rfl)) (hw _ (List.mem_of_getElem? (i := 7) rfl)) (hw _ (List.mem_of_getElem? (i := 11) rfl)) (by decide) (W := 0) (argsL := [(.ref b1), (.int (4 : Int32)), (.int (p3 - p4))]) (rest := []) (rm3 l Z a0 hw [] b1 (4 : Int32) (p3 - p4) (0 : Int32) k1 [] (0 : Int32) T3.heap n0 zs4 fa14 (by decide) (fun h => absurd h (by decide))) (by decide) (by decide) (c' := 2) (s' := 1) rfl rfl (by decide) (by decide) e19 (g := (mkF m 262 #[.val (.int p1), .val (.int p2), .val (.int p3), .val (.int p4), .val (.int (0 : Int32)), .val (.ref b1), .val (.ref b3), .val (.int (1 : Int32)), .unset] [(.int (p3 - p4)), (.int (4 : Int32)), (.ref b1)])) rfl (by rw [hml]; rfl) (lenOf pd_0_2 rfl) rfl (by show 2 * 0 + _ ≤ _; exact Nat.le_of_eq rfl) (hb hby at_262)
  obtain ⟨hv20, N20q, e20⟩ := hQ20
  have N20 := Fr.app N19 N20q
  rw [f3, if_neg (by decide : ¬ ((4 : Int32) < (0 : Int32)))] at hv20
  subst hv20
  obtain ⟨_, T21, Lc21, X21, hQ21, st21⟩ := own_callS X20 hx hZ (y := (⟨"com/example/varel/varel/text/EditDistanceStartPinLaw", "kept", "([III)Z"⟩ : MethodName)) hown (hw _ (List.mem_of_getElem? (i := 9) rfl)) (hw _ (List.mem_of_getElem? (i := 10) rfl)) (hw _ (List.mem_of_getElem? (i := 7) rfl)) (hw _ (List.mem_of_getElem? (i := 11) rfl)) (by decide) (W := 0) (argsL := [(.ref b1), (.int (5 : Int32)), (.int (p2 ^^^ (-1 : Int32)))]) (rest := []) (rm3 l Z a0 hw [] b1 (5 : Int32) (p2 ^^^ (-1 : Int32)) (0 : Int32) k1 [] (0 : Int32) T3.heap n0 zs4 fa14 (by decide) (fun h => absurd h (by decide))) (by decide) (by decide) (c' := 2) (s' := 1) rfl rfl (by decide) (by decide) e20 (g := (mkF m 274 #[.val (.int p1), .val (.int p2), .val (.int p3), .val (.int p4), .val (.int (0 : Int32)), .val (.ref b1), .val (.ref b3), .val (.int (1 : Int32)), .unset] [(.int (p2 ^^^ (-1 : Int32))), (.int (5 : Int32)), (.ref b1)])) rfl (by rw [hml]; rfl) (lenOf pd_0_2 rfl) rfl (by show 2 * 0 + _ ≤ _; exact Nat.le_of_eq rfl) (hb hby at_274)
  obtain ⟨hv21, N21q, e21⟩ := hQ21
  have N21 := Fr.app N20 N21q
  rw [f3, if_neg (by decide : ¬ ((5 : Int32) < (0 : Int32)))] at hv21
  subst hv21
  obtain ⟨_, T22, Lc22, X22, hQ22, st22⟩ := own_callS X21 hx hZ (y := (⟨"com/example/varel/varel/text/EditDistanceStartPinLaw", "kept", "([III)Z"⟩ : MethodName)) hown (hw _ (List.mem_of_getElem? (i := 9) rfl)) (hw _ (List.mem_of_getElem? (i := 10) rfl)) (hw _ (List.mem_of_getElem? (i := 7) rfl)) (hw _ (List.mem_of_getElem? (i := 11) rfl)) (by decide) (W := 0) (argsL := [(.ref b1), (.int (6 : Int32)), (.int (p4 * (31 : Int32)))]) (rest := []) (rm3 l Z a0 hw [] b1 (6 : Int32) (p4 * (31 : Int32)) (0 : Int32) k1 [] (0 : Int32) T3.heap n0 zs4 fa14 (by decide) (fun h => absurd h (by decide))) (by decide) (by decide) (c' := 2) (s' := 1) rfl rfl (by decide) (by decide) e21 (g := (mkF m 288 #[.val (.int p1), .val (.int p2), .val (.int p3), .val (.int p4), .val (.int (0 : Int32)), .val (.ref b1), .val (.ref b3), .val (.int (1 : Int32)), .unset] [(.int (p4 * (31 : Int32))), (.int (6 : Int32)), (.ref b1)])) rfl (by rw [hml]; rfl) (lenOf pd_0_2 rfl) rfl (by show 2 * 0 + _ ≤ _; exact Nat.le_of_eq rfl) (hb hby at_288)
  obtain ⟨hv22, N22q, e22⟩ := hQ22
  have N22 := Fr.app N21 N22q
  rw [f3, if_neg (by decide : ¬ ((6 : Int32) < (0 : Int32)))] at hv22
  subst hv22
  obtain ⟨fs, hr, hrun, hended, hW, hsame⟩ := X22.leave (v := some (.int (1 : Int32))) (fun h => by rw [Bd.returns] at h; cases h)
  refine ⟨_, _, pre0 _ ?_, hrun, hended, _, _, rfl, ?_, ⟨_, rfl⟩, hW, hsame.mono (by decide) (by decide)⟩
  · show Steps p.tables e below (s₁.setTop (mkF m 0 #[.val (.int p1), .val (.int p2), .val (.int p3), .val (.int p4), .unset, .unset, .unset, .unset, .unset] [])) _
    refine own_blk X0 hx bl0_0_3 (own_hb hby bd0_0_3) (pc' := 4) (Ls' := #[.val (.int p1), .val (.int p2), .val (.int p3), .val (.int p4), .unset, .unset, .unset, .unset, .unset]) (st' := [(.int (p1 &&& (7 : Int32)))]) rfl ?_
    show Steps p.tables e below (s₁.setTop (mkF m 4 #[.val (.int p1), .val (.int p2), .val (.int p3), .val (.int p4), .unset, .unset, .unset, .unset, .unset] [(.int (p1 &&& (7 : Int32)))])) _
    rw [hn]
    show Steps p.tables e below (s₁.setTop (mkF m 4 #[.val (.int p1), .val (.int p2), .val (.int p3), .val (.int p4), .unset, .unset, .unset, .unset, .unset] [(.int (0 : Int32))])) _
    refine own_blk X0 hx bl0_4_2 (own_hb hby bd0_4_2) (pc' := 8) (Ls' := #[.val (.int p1), .val (.int p2), .val (.int p3), .val (.int p4), .val (.int (0 : Int32)), .unset, .unset, .unset, .unset]) (st' := [(.int (0 : Int32))]) rfl ?_
    show Steps p.tables e below (s₁.setTop (mkF m 8 #[.val (.int p1), .val (.int p2), .val (.int p3), .val (.int p4), .val (.int (0 : Int32)), .unset, .unset, .unset, .unset] [(.int (0 : Int32))])) _
    refine st1 _ ?_
    show Steps p.tables e below (T1.setTop (mkF m 10 #[.val (.int p1), .val (.int p2), .val (.int p3), .val (.int p4), .val (.int (0 : Int32)), .unset, .unset, .unset, .unset] [(.ref b1)])) _
    refine own_blk X1 hx bl0_10_2 (own_hb hby bd0_10_2) (pc' := 14) (Ls' := #[.val (.int p1), .val (.int p2), .val (.int p3), .val (.int p4), .val (.int (0 : Int32)), .val (.ref b1), .unset, .unset, .unset]) (st' := [(.int (0 : Int32))]) rfl ?_
    show Steps p.tables e below (T1.setTop (mkF m 14 #[.val (.int p1), .val (.int p2), .val (.int p3), .val (.int p4), .val (.int (0 : Int32)), .val (.ref b1), .unset, .unset, .unset] [(.int (0 : Int32))])) _
    refine XS.ifYes X1.here hx rfl (pc0 := 14) (pc' := 22) rfl (hb hby at_14) rfl ((if0 _ _).trans (flt (by decide : ¬ ((0 : Int32) < (0 : Int32)))).2.2.2) (by decide) (by decide) ?_
    show Steps p.tables e below (T1.setTop (mkF m 22 #[.val (.int p1), .val (.int p2), .val (.int p3), .val (.int p4), .val (.int (0 : Int32)), .val (.ref b1), .unset, .unset, .unset] [])) _
    refine own_blk X1 hx bl0_22_2 (own_hb hby bd0_22_2) (pc' := 25) (Ls' := #[.val (.int p1), .val (.int p2), .val (.int p3), .val (.int p4), .val (.int (0 : Int32)), .val (.ref b1), .unset, .unset, .unset]) (st' := [(.int (1 : Int32)), (.int (0 : Int32))]) rfl ?_
    show Steps p.tables e below (T1.setTop (mkF m 25 #[.val (.int p1), .val (.int p2), .val (.int p3), .val (.int p4), .val (.int (0 : Int32)), .val (.ref b1), .unset, .unset, .unset] [(.int (1 : Int32)), (.int (0 : Int32))])) _
    refine XS.icmpYes X1.here hx rfl (pc0 := 25) (pc' := 33) rfl (hb hby at_25) rfl (flt (by decide : ¬ ((1 : Int32) < (0 : Int32)))).2.2.2 (by decide) (by decide) ?_
    show Steps p.tables e below (T1.setTop (mkF m 33 #[.val (.int p1), .val (.int p2), .val (.int p3), .val (.int p4), .val (.int (0 : Int32)), .val (.ref b1), .unset, .unset, .unset] [])) _
    refine own_blk X1 hx bl0_33_2 (own_hb hby bd0_33_2) (pc' := 36) (Ls' := #[.val (.int p1), .val (.int p2), .val (.int p3), .val (.int p4), .val (.int (0 : Int32)), .val (.ref b1), .unset, .unset, .unset]) (st' := [(.int (2 : Int32)), (.int (0 : Int32))]) rfl ?_
    show Steps p.tables e below (T1.setTop (mkF m 36 #[.val (.int p1), .val (.int p2), .val (.int p3), .val (.int p4), .val (.int (0 : Int32)), .val (.ref b1), .unset, .unset, .unset] [(.int (2 : Int32)), (.int (0 : Int32))])) _
    refine XS.icmpYes X1.here hx rfl (pc0 := 36) (pc' := 44) rfl (hb hby at_36) rfl (flt (by decide : ¬ ((2 : Int32) < (0 : Int32)))).2.2.2 (by decide) (by decide) ?_
    show Steps p.tables e below (T1.setTop (mkF m 44 #[.val (.int p1), .val (.int p2), .val (.int p3), .val (.int p4), .val (.int (0 : Int32)), .val (.ref b1), .unset, .unset, .unset] [])) _
    refine own_blk X1 hx bl0_44_2 (own_hb hby bd0_44_2) (pc' := 47) (Ls' := #[.val (.int p1), .val (.int p2), .val (.int p3), .val (.int p4), .val (.int (0 : Int32)), .val (.ref b1), .unset, .unset, .unset]) (st' := [(.int (3 : Int32)), (.int (0 : Int32))]) rfl ?_
    show Steps p.tables e below (T1.setTop (mkF m 47 #[.val (.int p1), .val (.int p2), .val (.int p3), .val (.int p4), .val (.int (0 : Int32)), .val (.ref b1), .unset, .unset, .unset] [(.int (3 : Int32)), (.int (0 : Int32))])) _
    refine XS.icmpYes X1.here hx rfl (pc0 := 47) (pc' := 57) rfl (hb hby at_47) rfl (flt (by decide : ¬ ((3 : Int32) < (0 : Int32)))).2.2.2 (by decide) (by decide) ?_
    show Steps p.tables e below (T1.setTop (mkF m 57 #[.val (.int p1), .val (.int p2), .val (.int p3), .val (.int p4), .val (.int (0 : Int32)), .val (.ref b1), .unset, .unset, .unset] [])) _
    refine own_blk X1 hx bl0_57_2 (own_hb hby bd0_57_2) (pc' := 60) (Ls' := #[.val (.int p1), .val (.int p2), .val (.int p3), .val (.int p4), .val (.int (0 : Int32)), .val (.ref b1), .unset, .unset, .unset]) (st' := [(.int (4 : Int32)), (.int (0 : Int32))]) rfl ?_
    show Steps p.tables e below (T1.setTop (mkF m 60 #[.val (.int p1), .val (.int p2), .val (.int p3), .val (.int p4), .val (.int (0 : Int32)), .val (.ref b1), .unset, .unset, .unset] [(.int (4 : Int32)), (.int (0 : Int32))])) _
    refine XS.icmpYes X1.here hx rfl (pc0 := 60) (pc' := 70) rfl (hb hby at_60) rfl (flt (by decide : ¬ ((4 : Int32) < (0 : Int32)))).2.2.2 (by decide) (by decide) ?_
    show Steps p.tables e below (T1.setTop (mkF m 70 #[.val (.int p1), .val (.int p2), .val (.int p3), .val (.int p4), .val (.int (0 : Int32)), .val (.ref b1), .unset, .unset, .unset] [])) _
    refine own_blk X1 hx bl0_70_2 (own_hb hby bd0_70_2) (pc' := 73) (Ls' := #[.val (.int p1), .val (.int p2), .val (.int p3), .val (.int p4), .val (.int (0 : Int32)), .val (.ref b1), .unset, .unset, .unset]) (st' := [(.int (5 : Int32)), (.int (0 : Int32))]) rfl ?_
    show Steps p.tables e below (T1.setTop (mkF m 73 #[.val (.int p1), .val (.int p2), .val (.int p3), .val (.int p4), .val (.int (0 : Int32)), .val (.ref b1), .unset, .unset, .unset] [(.int (5 : Int32)), (.int (0 : Int32))])) _
    refine XS.icmpYes X1.here hx rfl (pc0 := 73) (pc' := 83) rfl (hb hby at_73) rfl (flt (by decide : ¬ ((5 : Int32) < (0 : Int32)))).2.2.2 (by decide) (by decide) ?_
    show Steps p.tables e below (T1.setTop (mkF m 83 #[.val (.int p1), .val (.int p2), .val (.int p3), .val (.int p4), .val (.int (0 : Int32)), .val (.ref b1), .unset, .unset, .unset] [])) _
    refine own_blk X1 hx bl0_83_2 (own_hb hby bd0_83_2) (pc' := 87) (Ls' := #[.val (.int p1), .val (.int p2), .val (.int p3), .val (.int p4), .val (.int (0 : Int32)), .val (.ref b1), .unset, .unset, .unset]) (st' := [(.int (6 : Int32)), (.int (0 : Int32))]) rfl ?_
    show Steps p.tables e below (T1.setTop (mkF m 87 #[.val (.int p1), .val (.int p2), .val (.int p3), .val (.int p4), .val (.int (0 : Int32)), .val (.ref b1), .unset, .unset, .unset] [(.int (6 : Int32)), (.int (0 : Int32))])) _
    refine XS.icmpYes X1.here hx rfl (pc0 := 87) (pc' := 99) rfl (hb hby at_87) rfl (flt (by decide : ¬ ((6 : Int32) < (0 : Int32)))).2.2.2 (by decide) (by decide) ?_
    show Steps p.tables e below (T1.setTop (mkF m 99 #[.val (.int p1), .val (.int p2), .val (.int p3), .val (.int p4), .val (.int (0 : Int32)), .val (.ref b1), .unset, .unset, .unset] [])) _
    refine own_blk X1 hx bl0_99_1 (own_hb hby bd0_99_1) (pc' := 101) (Ls' := #[.val (.int p1), .val (.int p2), .val (.int p3), .val (.int p4), .val (.int (0 : Int32)), .val (.ref b1), .unset, .unset, .unset]) (st' := [(.ref b1)]) rfl ?_
    show Steps p.tables e below (T1.setTop (mkF m 101 #[.val (.int p1), .val (.int p2), .val (.int p3), .val (.int p4), .val (.int (0 : Int32)), .val (.ref b1), .unset, .unset, .unset] [(.ref b1)])) _
    refine st3 _ ?_
    show Steps p.tables e below (T3.setTop (mkF m 104 #[.val (.int p1), .val (.int p2), .val (.int p3), .val (.int p4), .val (.int (0 : Int32)), .val (.ref b1), .unset, .unset, .unset] [(.ref b3)])) _
    refine own_blk X3 hx bl0_104_2 (own_hb hby bd0_104_2) (pc' := 108) (Ls' := #[.val (.int p1), .val (.int p2), .val (.int p3), .val (.int p4), .val (.int (0 : Int32)), .val (.ref b1), .val (.ref b3), .unset, .unset]) (st' := [(.ref b3)]) rfl ?_
    show Steps p.tables e below (T3.setTop (mkF m 108 #[.val (.int p1), .val (.int p2), .val (.int p3), .val (.int p4), .val (.int (0 : Int32)), .val (.ref b1), .val (.ref b3), .unset, .unset] [(.ref b3)])) _
    refine XS.ifnonnullYes X3.here hx rfl (pc0 := 108) (pc' := 113) rfl (hb hby at_108) rfl (by decide) (by decide) ?_
    show Steps p.tables e below (T3.setTop (mkF m 113 #[.val (.int p1), .val (.int p2), .val (.int p3), .val (.int p4), .val (.int (0 : Int32)), .val (.ref b1), .val (.ref b3), .unset, .unset] [])) _
    refine own_blk X3 hx bl0_113_1 (own_hb hby bd0_113_1) (pc' := 115) (Ls' := #[.val (.int p1), .val (.int p2), .val (.int p3), .val (.int p4), .val (.int (0 : Int32)), .val (.ref b1), .val (.ref b3), .unset, .unset]) (st' := [(.ref b3)]) rfl ?_
    show Steps p.tables e below (T3.setTop (mkF m 115 #[.val (.int p1), .val (.int p2), .val (.int p3), .val (.int p4), .val (.int (0 : Int32)), .val (.ref b1), .val (.ref b3), .unset, .unset] [(.ref b3)])) _
    refine X3.arraylength hx Ar5.1 (State.isArrayOf_alike hZ.alike Ar5.2.1) (g := (mkF m 115 #[.val (.int p1), .val (.int p2), .val (.int p3), .val (.int p4), .val (.int (0 : Int32)), .val (.ref b1), .val (.ref b3), .unset, .unset] [(.ref b3)])) rfl rfl (hb hby at_115) _ ?_
    rw [len_of S5 N5_]
    show Steps p.tables e below (T3.setTop (mkF m 116 #[.val (.int p1), .val (.int p2), .val (.int p3), .val (.int p4), .val (.int (0 : Int32)), .val (.ref b1), .val (.ref b3), .unset, .unset] [(.int (1 : Int32))])) _
    refine own_blk X3 hx bl0_116_3 (own_hb hby bd0_116_3) (pc' := 120) (Ls' := #[.val (.int p1), .val (.int p2), .val (.int p3), .val (.int p4), .val (.int (0 : Int32)), .val (.ref b1), .val (.ref b3), .unset, .unset]) (st' := [(.int (1 : Int32)), (.int (1 : Int32))]) rfl ?_
    show Steps p.tables e below (T3.setTop (mkF m 120 #[.val (.int p1), .val (.int p2), .val (.int p3), .val (.int p4), .val (.int (0 : Int32)), .val (.ref b1), .val (.ref b3), .unset, .unset] [(.int (1 : Int32)), (.int (1 : Int32))])) _
    refine XS.icmpYes X3.here hx rfl (pc0 := 120) (pc' := 125) rfl (hb hby at_120) rfl (teq (by decide : (1 : Int32) = (1 : Int32))).1 (by decide) (by decide) ?_
    show Steps p.tables e below (T3.setTop (mkF m 125 #[.val (.int p1), .val (.int p2), .val (.int p3), .val (.int p4), .val (.int (0 : Int32)), .val (.ref b1), .val (.ref b3), .unset, .unset] [])) _
    refine own_blk X3 hx bl0_125_2 (own_hb hby bd0_125_2) (pc' := 128) (Ls' := #[.val (.int p1), .val (.int p2), .val (.int p3), .val (.int p4), .val (.int (0 : Int32)), .val (.ref b1), .val (.ref b3), .unset, .unset]) (st' := [(.int (0 : Int32)), (.ref b3)]) rfl ?_
    show Steps p.tables e below (T3.setTop (mkF m 128 #[.val (.int p1), .val (.int p2), .val (.int p3), .val (.int p4), .val (.int (0 : Int32)), .val (.ref b1), .val (.ref b3), .unset, .unset] [(.int (0 : Int32)), (.ref b3)])) _
    refine st6 _ ?_
    show Steps p.tables e below (T6.setTop (mkF m 131 #[.val (.int p1), .val (.int p2), .val (.int p3), .val (.int p4), .val (.int (0 : Int32)), .val (.ref b1), .val (.ref b3), .unset, .unset] [(.int (1 : Int32))])) _
    refine XS.ifNo X6.here hx rfl (hb hby at_131) rfl ((if0 _ _).trans (feq (by decide : ¬ ((1 : Int32) = (0 : Int32)))).1) ?_
    show Steps p.tables e below (T6.setTop (mkF m 134 #[.val (.int p1), .val (.int p2), .val (.int p3), .val (.int p4), .val (.int (0 : Int32)), .val (.ref b1), .val (.ref b3), .unset, .unset] [])) _
    refine own_blk X6 hx bl0_134_2 (own_hb hby bd0_134_2) (pc' := 137) (Ls' := #[.val (.int p1), .val (.int p2), .val (.int p3), .val (.int p4), .val (.int (0 : Int32)), .val (.ref b1), .val (.ref b3), .unset, .unset]) (st' := [(.int (1 : Int32)), (.ref b3)]) rfl ?_
    show Steps p.tables e below (T6.setTop (mkF m 137 #[.val (.int p1), .val (.int p2), .val (.int p3), .val (.int p4), .val (.int (0 : Int32)), .val (.ref b1), .val (.ref b3), .unset, .unset] [(.int (1 : Int32)), (.ref b3)])) _
    refine st7 _ ?_
    show Steps p.tables e below (T7.setTop (mkF m 140 #[.val (.int p1), .val (.int p2), .val (.int p3), .val (.int p4), .val (.int (0 : Int32)), .val (.ref b1), .val (.ref b3), .unset, .unset] [(.int (1 : Int32))])) _
    refine XS.ifNo X7.here hx rfl (hb hby at_140) rfl ((if0 _ _).trans (feq (by decide : ¬ ((1 : Int32) = (0 : Int32)))).1) ?_
    show Steps p.tables e below (T7.setTop (mkF m 143 #[.val (.int p1), .val (.int p2), .val (.int p3), .val (.int p4), .val (.int (0 : Int32)), .val (.ref b1), .val (.ref b3), .unset, .unset] [])) _
    refine own_blk X7 hx bl0_143_2 (own_hb hby bd0_143_2) (pc' := 146) (Ls' := #[.val (.int p1), .val (.int p2), .val (.int p3), .val (.int p4), .val (.int (0 : Int32)), .val (.ref b1), .val (.ref b3), .unset, .unset]) (st' := [(.int (2 : Int32)), (.ref b3)]) rfl ?_
    show Steps p.tables e below (T7.setTop (mkF m 146 #[.val (.int p1), .val (.int p2), .val (.int p3), .val (.int p4), .val (.int (0 : Int32)), .val (.ref b1), .val (.ref b3), .unset, .unset] [(.int (2 : Int32)), (.ref b3)])) _
    refine st8 _ ?_
    show Steps p.tables e below (T8.setTop (mkF m 149 #[.val (.int p1), .val (.int p2), .val (.int p3), .val (.int p4), .val (.int (0 : Int32)), .val (.ref b1), .val (.ref b3), .unset, .unset] [(.int (1 : Int32))])) _
    refine XS.ifNo X8.here hx rfl (hb hby at_149) rfl ((if0 _ _).trans (feq (by decide : ¬ ((1 : Int32) = (0 : Int32)))).1) ?_
    show Steps p.tables e below (T8.setTop (mkF m 152 #[.val (.int p1), .val (.int p2), .val (.int p3), .val (.int p4), .val (.int (0 : Int32)), .val (.ref b1), .val (.ref b3), .unset, .unset] [])) _
    refine own_blk X8 hx bl0_152_2 (own_hb hby bd0_152_2) (pc' := 155) (Ls' := #[.val (.int p1), .val (.int p2), .val (.int p3), .val (.int p4), .val (.int (0 : Int32)), .val (.ref b1), .val (.ref b3), .unset, .unset]) (st' := [(.int (3 : Int32)), (.ref b3)]) rfl ?_
    show Steps p.tables e below (T8.setTop (mkF m 155 #[.val (.int p1), .val (.int p2), .val (.int p3), .val (.int p4), .val (.int (0 : Int32)), .val (.ref b1), .val (.ref b3), .unset, .unset] [(.int (3 : Int32)), (.ref b3)])) _
    refine st9 _ ?_
    show Steps p.tables e below (T9.setTop (mkF m 158 #[.val (.int p1), .val (.int p2), .val (.int p3), .val (.int p4), .val (.int (0 : Int32)), .val (.ref b1), .val (.ref b3), .unset, .unset] [(.int (1 : Int32))])) _
    refine XS.ifNo X9.here hx rfl (hb hby at_158) rfl ((if0 _ _).trans (feq (by decide : ¬ ((1 : Int32) = (0 : Int32)))).1) ?_
    show Steps p.tables e below (T9.setTop (mkF m 161 #[.val (.int p1), .val (.int p2), .val (.int p3), .val (.int p4), .val (.int (0 : Int32)), .val (.ref b1), .val (.ref b3), .unset, .unset] [])) _
    refine own_blk X9 hx bl0_161_2 (own_hb hby bd0_161_2) (pc' := 164) (Ls' := #[.val (.int p1), .val (.int p2), .val (.int p3), .val (.int p4), .val (.int (0 : Int32)), .val (.ref b1), .val (.ref b3), .unset, .unset]) (st' := [(.int (4 : Int32)), (.ref b3)]) rfl ?_
    show Steps p.tables e below (T9.setTop (mkF m 164 #[.val (.int p1), .val (.int p2), .val (.int p3), .val (.int p4), .val (.int (0 : Int32)), .val (.ref b1), .val (.ref b3), .unset, .unset] [(.int (4 : Int32)), (.ref b3)])) _
    refine st10 _ ?_
    show Steps p.tables e below (T10.setTop (mkF m 167 #[.val (.int p1), .val (.int p2), .val (.int p3), .val (.int p4), .val (.int (0 : Int32)), .val (.ref b1), .val (.ref b3), .unset, .unset] [(.int (1 : Int32))])) _
    refine XS.ifNo X10.here hx rfl (hb hby at_167) rfl ((if0 _ _).trans (feq (by decide : ¬ ((1 : Int32) = (0 : Int32)))).1) ?_
    show Steps p.tables e below (T10.setTop (mkF m 170 #[.val (.int p1), .val (.int p2), .val (.int p3), .val (.int p4), .val (.int (0 : Int32)), .val (.ref b1), .val (.ref b3), .unset, .unset] [])) _
    refine own_blk X10 hx bl0_170_2 (own_hb hby bd0_170_2) (pc' := 173) (Ls' := #[.val (.int p1), .val (.int p2), .val (.int p3), .val (.int p4), .val (.int (0 : Int32)), .val (.ref b1), .val (.ref b3), .unset, .unset]) (st' := [(.int (5 : Int32)), (.ref b3)]) rfl ?_
    show Steps p.tables e below (T10.setTop (mkF m 173 #[.val (.int p1), .val (.int p2), .val (.int p3), .val (.int p4), .val (.int (0 : Int32)), .val (.ref b1), .val (.ref b3), .unset, .unset] [(.int (5 : Int32)), (.ref b3)])) _
    refine st11 _ ?_
    show Steps p.tables e below (T11.setTop (mkF m 176 #[.val (.int p1), .val (.int p2), .val (.int p3), .val (.int p4), .val (.int (0 : Int32)), .val (.ref b1), .val (.ref b3), .unset, .unset] [(.int (1 : Int32))])) _
    refine XS.ifNo X11.here hx rfl (hb hby at_176) rfl ((if0 _ _).trans (feq (by decide : ¬ ((1 : Int32) = (0 : Int32)))).1) ?_
    show Steps p.tables e below (T11.setTop (mkF m 179 #[.val (.int p1), .val (.int p2), .val (.int p3), .val (.int p4), .val (.int (0 : Int32)), .val (.ref b1), .val (.ref b3), .unset, .unset] [])) _
    refine own_blk X11 hx bl0_179_2 (own_hb hby bd0_179_2) (pc' := 183) (Ls' := #[.val (.int p1), .val (.int p2), .val (.int p3), .val (.int p4), .val (.int (0 : Int32)), .val (.ref b1), .val (.ref b3), .unset, .unset]) (st' := [(.int (6 : Int32)), (.ref b3)]) rfl ?_
    show Steps p.tables e below (T11.setTop (mkF m 183 #[.val (.int p1), .val (.int p2), .val (.int p3), .val (.int p4), .val (.int (0 : Int32)), .val (.ref b1), .val (.ref b3), .unset, .unset] [(.int (6 : Int32)), (.ref b3)])) _
    refine st12 _ ?_
    show Steps p.tables e below (T12.setTop (mkF m 186 #[.val (.int p1), .val (.int p2), .val (.int p3), .val (.int p4), .val (.int (0 : Int32)), .val (.ref b1), .val (.ref b3), .unset, .unset] [(.int (1 : Int32))])) _
    refine XS.ifNo X12.here hx rfl (hb hby at_186) rfl ((if0 _ _).trans (feq (by decide : ¬ ((1 : Int32) = (0 : Int32)))).1) ?_
    show Steps p.tables e below (T12.setTop (mkF m 189 #[.val (.int p1), .val (.int p2), .val (.int p3), .val (.int p4), .val (.int (0 : Int32)), .val (.ref b1), .val (.ref b3), .unset, .unset] [])) _
    refine own_blk X12 hx bl0_189_2 (own_hb hby bd0_189_2) (pc' := 193) (Ls' := #[.val (.int p1), .val (.int p2), .val (.int p3), .val (.int p4), .val (.int (0 : Int32)), .val (.ref b1), .val (.ref b3), .unset, .unset]) (st' := [(.int (7 : Int32)), (.ref b3)]) rfl ?_
    show Steps p.tables e below (T12.setTop (mkF m 193 #[.val (.int p1), .val (.int p2), .val (.int p3), .val (.int p4), .val (.int (0 : Int32)), .val (.ref b1), .val (.ref b3), .unset, .unset] [(.int (7 : Int32)), (.ref b3)])) _
    refine st13 _ ?_
    show Steps p.tables e below (T13.setTop (mkF m 196 #[.val (.int p1), .val (.int p2), .val (.int p3), .val (.int p4), .val (.int (0 : Int32)), .val (.ref b1), .val (.ref b3), .unset, .unset] [(.int (1 : Int32))])) _
    refine XS.ifNo X13.here hx rfl (hb hby at_196) rfl ((if0 _ _).trans (feq (by decide : ¬ ((1 : Int32) = (0 : Int32)))).1) ?_
    show Steps p.tables e below (T13.setTop (mkF m 199 #[.val (.int p1), .val (.int p2), .val (.int p3), .val (.int p4), .val (.int (0 : Int32)), .val (.ref b1), .val (.ref b3), .unset, .unset] [])) _
    refine own_blk X13 hx bl0_199_4 (own_hb hby bd0_199_4) (pc' := 208) (Ls' := #[.val (.int p1), .val (.int p2), .val (.int p3), .val (.int p4), .val (.int (0 : Int32)), .val (.ref b1), .val (.ref b3), .val (.int (1 : Int32)), .unset]) (st' := [(.ref b1)]) rfl ?_
    show Steps p.tables e below (T13.setTop (mkF m 208 #[.val (.int p1), .val (.int p2), .val (.int p3), .val (.int p4), .val (.int (0 : Int32)), .val (.ref b1), .val (.ref b3), .val (.int (1 : Int32)), .unset] [(.ref b1)])) _
    refine X13.arraylength hx (by rw [e13]; exact Ar15.1) (State.isArrayOf_alike hZ.alike Ar15.2.1) (g := (mkF m 208 #[.val (.int p1), .val (.int p2), .val (.int p3), .val (.int p4), .val (.int (0 : Int32)), .val (.ref b1), .val (.ref b3), .val (.int (1 : Int32)), .unset] [(.ref b1)])) rfl rfl (hb hby at_208) _ ?_
    rw [len_of S15 N15_]
    show Steps p.tables e below (T13.setTop (mkF m 209 #[.val (.int p1), .val (.int p2), .val (.int p3), .val (.int p4), .val (.int (0 : Int32)), .val (.ref b1), .val (.ref b3), .val (.int (1 : Int32)), .unset] [(.int (0 : Int32))])) _
    refine own_blk X13 hx bl0_209_1 (own_hb hby bd0_209_1) (pc' := 211) (Ls' := #[.val (.int p1), .val (.int p2), .val (.int p3), .val (.int p4), .val (.int (0 : Int32)), .val (.ref b1), .val (.ref b3), .val (.int (1 : Int32)), .unset]) (st' := [(.int (0 : Int32)), (.int (0 : Int32))]) rfl ?_
    show Steps p.tables e below (T13.setTop (mkF m 211 #[.val (.int p1), .val (.int p2), .val (.int p3), .val (.int p4), .val (.int (0 : Int32)), .val (.ref b1), .val (.ref b3), .val (.int (1 : Int32)), .unset] [(.int (0 : Int32)), (.int (0 : Int32))])) _
    refine XS.icmpNo X13.here hx rfl (hb hby at_211) rfl (teq (by decide : (0 : Int32) = (0 : Int32))).2 ?_
    show Steps p.tables e below (T13.setTop (mkF m 214 #[.val (.int p1), .val (.int p2), .val (.int p3), .val (.int p4), .val (.int (0 : Int32)), .val (.ref b1), .val (.ref b3), .val (.int (1 : Int32)), .unset] [])) _
    refine own_blk X13 hx bl0_214_3 (own_hb hby bd0_214_3) (pc' := 218) (Ls' := #[.val (.int p1), .val (.int p2), .val (.int p3), .val (.int p4), .val (.int (0 : Int32)), .val (.ref b1), .val (.ref b3), .val (.int (1 : Int32)), .unset]) (st' := [(.int p2), (.int (0 : Int32)), (.ref b1)]) rfl ?_
    show Steps p.tables e below (T13.setTop (mkF m 218 #[.val (.int p1), .val (.int p2), .val (.int p3), .val (.int p4), .val (.int (0 : Int32)), .val (.ref b1), .val (.ref b3), .val (.int (1 : Int32)), .unset] [(.int p2), (.int (0 : Int32)), (.ref b1)])) _
    refine st16 _ ?_
    show Steps p.tables e below (T16.setTop (mkF m 221 #[.val (.int p1), .val (.int p2), .val (.int p3), .val (.int p4), .val (.int (0 : Int32)), .val (.ref b1), .val (.ref b3), .val (.int (1 : Int32)), .unset] [(.int (1 : Int32))])) _
    refine XS.ifNo X16.here hx rfl (hb hby at_221) rfl ((if0 _ _).trans (feq (by decide : ¬ ((1 : Int32) = (0 : Int32)))).1) ?_
    show Steps p.tables e below (T16.setTop (mkF m 224 #[.val (.int p1), .val (.int p2), .val (.int p3), .val (.int p4), .val (.int (0 : Int32)), .val (.ref b1), .val (.ref b3), .val (.int (1 : Int32)), .unset] [])) _
    refine own_blk X16 hx bl0_224_3 (own_hb hby bd0_224_3) (pc' := 228) (Ls' := #[.val (.int p1), .val (.int p2), .val (.int p3), .val (.int p4), .val (.int (0 : Int32)), .val (.ref b1), .val (.ref b3), .val (.int (1 : Int32)), .unset]) (st' := [(.int p3), (.int (1 : Int32)), (.ref b1)]) rfl ?_
    show Steps p.tables e below (T16.setTop (mkF m 228 #[.val (.int p1), .val (.int p2), .val (.int p3), .val (.int p4), .val (.int (0 : Int32)), .val (.ref b1), .val (.ref b3), .val (.int (1 : Int32)), .unset] [(.int p3), (.int (1 : Int32)), (.ref b1)])) _
    refine st17 _ ?_
    show Steps p.tables e below (T17.setTop (mkF m 231 #[.val (.int p1), .val (.int p2), .val (.int p3), .val (.int p4), .val (.int (0 : Int32)), .val (.ref b1), .val (.ref b3), .val (.int (1 : Int32)), .unset] [(.int (1 : Int32))])) _
    refine XS.ifNo X17.here hx rfl (hb hby at_231) rfl ((if0 _ _).trans (feq (by decide : ¬ ((1 : Int32) = (0 : Int32)))).1) ?_
    show Steps p.tables e below (T17.setTop (mkF m 234 #[.val (.int p1), .val (.int p2), .val (.int p3), .val (.int p4), .val (.int (0 : Int32)), .val (.ref b1), .val (.ref b3), .val (.int (1 : Int32)), .unset] [])) _
    refine own_blk X17 hx bl0_234_3 (own_hb hby bd0_234_3) (pc' := 238) (Ls' := #[.val (.int p1), .val (.int p2), .val (.int p3), .val (.int p4), .val (.int (0 : Int32)), .val (.ref b1), .val (.ref b3), .val (.int (1 : Int32)), .unset]) (st' := [(.int p4), (.int (2 : Int32)), (.ref b1)]) rfl ?_
    show Steps p.tables e below (T17.setTop (mkF m 238 #[.val (.int p1), .val (.int p2), .val (.int p3), .val (.int p4), .val (.int (0 : Int32)), .val (.ref b1), .val (.ref b3), .val (.int (1 : Int32)), .unset] [(.int p4), (.int (2 : Int32)), (.ref b1)])) _
    refine st18 _ ?_
    show Steps p.tables e below (T18.setTop (mkF m 241 #[.val (.int p1), .val (.int p2), .val (.int p3), .val (.int p4), .val (.int (0 : Int32)), .val (.ref b1), .val (.ref b3), .val (.int (1 : Int32)), .unset] [(.int (1 : Int32))])) _
    refine XS.ifNo X18.here hx rfl (hb hby at_241) rfl ((if0 _ _).trans (feq (by decide : ¬ ((1 : Int32) = (0 : Int32)))).1) ?_
    show Steps p.tables e below (T18.setTop (mkF m 244 #[.val (.int p1), .val (.int p2), .val (.int p3), .val (.int p4), .val (.int (0 : Int32)), .val (.ref b1), .val (.ref b3), .val (.int (1 : Int32)), .unset] [])) _
    refine own_blk X18 hx bl0_244_5 (own_hb hby bd0_244_5) (pc' := 250) (Ls' := #[.val (.int p1), .val (.int p2), .val (.int p3), .val (.int p4), .val (.int (0 : Int32)), .val (.ref b1), .val (.ref b3), .val (.int (1 : Int32)), .unset]) (st' := [(.int (p2 ^^^ p3)), (.int (3 : Int32)), (.ref b1)]) rfl ?_
    show Steps p.tables e below (T18.setTop (mkF m 250 #[.val (.int p1), .val (.int p2), .val (.int p3), .val (.int p4), .val (.int (0 : Int32)), .val (.ref b1), .val (.ref b3), .val (.int (1 : Int32)), .unset] [(.int (p2 ^^^ p3)), (.int (3 : Int32)), (.ref b1)])) _
    refine st19 _ ?_
    show Steps p.tables e below (T19.setTop (mkF m 253 #[.val (.int p1), .val (.int p2), .val (.int p3), .val (.int p4), .val (.int (0 : Int32)), .val (.ref b1), .val (.ref b3), .val (.int (1 : Int32)), .unset] [(.int (1 : Int32))])) _
    refine XS.ifNo X19.here hx rfl (hb hby at_253) rfl ((if0 _ _).trans (feq (by decide : ¬ ((1 : Int32) = (0 : Int32)))).1) ?_
    show Steps p.tables e below (T19.setTop (mkF m 256 #[.val (.int p1), .val (.int p2), .val (.int p3), .val (.int p4), .val (.int (0 : Int32)), .val (.ref b1), .val (.ref b3), .val (.int (1 : Int32)), .unset] [])) _
    refine own_blk X19 hx bl0_256_5 (own_hb hby bd0_256_5) (pc' := 262) (Ls' := #[.val (.int p1), .val (.int p2), .val (.int p3), .val (.int p4), .val (.int (0 : Int32)), .val (.ref b1), .val (.ref b3), .val (.int (1 : Int32)), .unset]) (st' := [(.int (p3 - p4)), (.int (4 : Int32)), (.ref b1)]) rfl ?_
    show Steps p.tables e below (T19.setTop (mkF m 262 #[.val (.int p1), .val (.int p2), .val (.int p3), .val (.int p4), .val (.int (0 : Int32)), .val (.ref b1), .val (.ref b3), .val (.int (1 : Int32)), .unset] [(.int (p3 - p4)), (.int (4 : Int32)), (.ref b1)])) _
    refine st20 _ ?_
    show Steps p.tables e below (T20.setTop (mkF m 265 #[.val (.int p1), .val (.int p2), .val (.int p3), .val (.int p4), .val (.int (0 : Int32)), .val (.ref b1), .val (.ref b3), .val (.int (1 : Int32)), .unset] [(.int (1 : Int32))])) _
    refine XS.ifNo X20.here hx rfl (hb hby at_265) rfl ((if0 _ _).trans (feq (by decide : ¬ ((1 : Int32) = (0 : Int32)))).1) ?_
    show Steps p.tables e below (T20.setTop (mkF m 268 #[.val (.int p1), .val (.int p2), .val (.int p3), .val (.int p4), .val (.int (0 : Int32)), .val (.ref b1), .val (.ref b3), .val (.int (1 : Int32)), .unset] [])) _
    refine own_blk X20 hx bl0_268_5 (own_hb hby bd0_268_5) (pc' := 274) (Ls' := #[.val (.int p1), .val (.int p2), .val (.int p3), .val (.int p4), .val (.int (0 : Int32)), .val (.ref b1), .val (.ref b3), .val (.int (1 : Int32)), .unset]) (st' := [(.int (p2 ^^^ (-1 : Int32))), (.int (5 : Int32)), (.ref b1)]) rfl ?_
    show Steps p.tables e below (T20.setTop (mkF m 274 #[.val (.int p1), .val (.int p2), .val (.int p3), .val (.int p4), .val (.int (0 : Int32)), .val (.ref b1), .val (.ref b3), .val (.int (1 : Int32)), .unset] [(.int (p2 ^^^ (-1 : Int32))), (.int (5 : Int32)), (.ref b1)])) _
    refine st21 _ ?_
    show Steps p.tables e below (T21.setTop (mkF m 277 #[.val (.int p1), .val (.int p2), .val (.int p3), .val (.int p4), .val (.int (0 : Int32)), .val (.ref b1), .val (.ref b3), .val (.int (1 : Int32)), .unset] [(.int (1 : Int32))])) _
    refine XS.ifNo X21.here hx rfl (hb hby at_277) rfl ((if0 _ _).trans (feq (by decide : ¬ ((1 : Int32) = (0 : Int32)))).1) ?_
    show Steps p.tables e below (T21.setTop (mkF m 280 #[.val (.int p1), .val (.int p2), .val (.int p3), .val (.int p4), .val (.int (0 : Int32)), .val (.ref b1), .val (.ref b3), .val (.int (1 : Int32)), .unset] [])) _
    refine own_blk X21 hx bl0_280_5 (own_hb hby bd0_280_5) (pc' := 288) (Ls' := #[.val (.int p1), .val (.int p2), .val (.int p3), .val (.int p4), .val (.int (0 : Int32)), .val (.ref b1), .val (.ref b3), .val (.int (1 : Int32)), .unset]) (st' := [(.int (p4 * (31 : Int32))), (.int (6 : Int32)), (.ref b1)]) rfl ?_
    show Steps p.tables e below (T21.setTop (mkF m 288 #[.val (.int p1), .val (.int p2), .val (.int p3), .val (.int p4), .val (.int (0 : Int32)), .val (.ref b1), .val (.ref b3), .val (.int (1 : Int32)), .unset] [(.int (p4 * (31 : Int32))), (.int (6 : Int32)), (.ref b1)])) _
    refine st22 _ ?_
    show Steps p.tables e below (T22.setTop (mkF m 291 #[.val (.int p1), .val (.int p2), .val (.int p3), .val (.int p4), .val (.int (0 : Int32)), .val (.ref b1), .val (.ref b3), .val (.int (1 : Int32)), .unset] [(.int (1 : Int32))])) _
    refine XS.ifNo X22.here hx rfl (hb hby at_291) rfl ((if0 _ _).trans (feq (by decide : ¬ ((1 : Int32) = (0 : Int32)))).1) ?_
    show Steps p.tables e below (T22.setTop (mkF m 294 #[.val (.int p1), .val (.int p2), .val (.int p3), .val (.int p4), .val (.int (0 : Int32)), .val (.ref b1), .val (.ref b3), .val (.int (1 : Int32)), .unset] [])) _
    refine own_blk X22 hx bl0_294_4 (own_hb hby bd0_294_4) (pc' := 303) (Ls' := #[.val (.int p1), .val (.int p2), .val (.int p3), .val (.int p4), .val (.int (0 : Int32)), .val (.ref b1), .val (.ref b3), .val (.int (1 : Int32)), .val (.int (1 : Int32))]) (st' := [(.int (1 : Int32))]) rfl ?_
    show Steps p.tables e below (T22.setTop (mkF m 303 #[.val (.int p1), .val (.int p2), .val (.int p3), .val (.int p4), .val (.int (0 : Int32)), .val (.ref b1), .val (.ref b3), .val (.int (1 : Int32)), .val (.int (1 : Int32))] [(.int (1 : Int32))])) _
    refine XS.ifNo X22.here hx rfl (hb hby at_303) rfl ((if0 _ _).trans (feq (by decide : ¬ ((1 : Int32) = (0 : Int32)))).1) ?_
    show Steps p.tables e below (T22.setTop (mkF m 306 #[.val (.int p1), .val (.int p2), .val (.int p3), .val (.int p4), .val (.int (0 : Int32)), .val (.ref b1), .val (.ref b3), .val (.int (1 : Int32)), .val (.int (1 : Int32))] [])) _
    refine own_blk X22 hx bl0_306_1 (own_hb hby bd0_306_1) (pc' := 308) (Ls' := #[.val (.int p1), .val (.int p2), .val (.int p3), .val (.int p4), .val (.int (0 : Int32)), .val (.ref b1), .val (.ref b3), .val (.int (1 : Int32)), .val (.int (1 : Int32))]) (st' := [(.int (1 : Int32))]) rfl ?_
    show Steps p.tables e below (T22.setTop (mkF m 308 #[.val (.int p1), .val (.int p2), .val (.int p3), .val (.int p4), .val (.int (0 : Int32)), .val (.ref b1), .val (.ref b3), .val (.int (1 : Int32)), .val (.int (1 : Int32))] [(.int (1 : Int32))])) _
    refine XS.ifNo X22.here hx rfl (hb hby at_308) rfl ((if0 _ _).trans (feq (by decide : ¬ ((1 : Int32) = (0 : Int32)))).1) ?_
    show Steps p.tables e below (T22.setTop (mkF m 311 #[.val (.int p1), .val (.int p2), .val (.int p3), .val (.int p4), .val (.int (0 : Int32)), .val (.ref b1), .val (.ref b3), .val (.int (1 : Int32)), .val (.int (1 : Int32))] [])) _
    refine own_blk X22 hx bl0_311_2 (own_hb hby bd0_311_2) (pc' := 316) (Ls' := #[.val (.int p1), .val (.int p2), .val (.int p3), .val (.int p4), .val (.int (0 : Int32)), .val (.ref b1), .val (.ref b3), .val (.int (1 : Int32)), .val (.int (1 : Int32))]) (st' := [(.int (1 : Int32))]) rfl ?_
    show Steps p.tables e below (T22.setTop (mkF m 316 #[.val (.int p1), .val (.int p2), .val (.int p3), .val (.int p4), .val (.int (0 : Int32)), .val (.ref b1), .val (.ref b3), .val (.int (1 : Int32)), .val (.int (1 : Int32))] [(.int (1 : Int32))])) _
    exact retN X22 hx (t := .boolean) Bd.returns (by simp) (hb hby at_316) hr
  · show Q0_0 Z p1 p2 p3 p4 h0 n0 _ T22.heap _
    rw [e22]
    exact ⟨by rw [f0_0], N22⟩

def Q1_1 (Z : State) (a1 : Addr) (k_a1 : ClassId) (vs1 : List Value) (h0 : Heap) (n0 : Nat) (v : Option Value) (h : Heap) (L : List Loc) : Prop := ∃ (b : Addr) (k : ClassId), v = some (.ref b) ∧ Fr n0 L ∧ Keep h0 h [] ∧ n0 ≤ b ∧ h0.size ≤ b ∧ Arv Z h b k .int (2 : Int32) [(.int (0 : Int32)), (.int (1 : Int32))] (.int (0 : Int32))
set_option maxRecDepth 65536 in
set_option maxHeartbeats 40000000 in
theorem rm1_1 (l : Launch) (Z : State) (a0 : Array Value) (hw : ∀ d ∈ tables_1, d.before a0 Z = true) (ws : List Jvm.Cond) (a1 : Addr) (k_a1 : ClassId) (vs1 : List Value) (h0 : Heap) (n0 : Nat) (Z0 : n0 ≤ h0.size) (V_a1 : Arv Z h0 a1 k_a1 .int (1 : Int32) vs1 (.int (0 : Int32))) :
    MetFree l (⟨"com/example/varel/varel/text/EditDistance", "start", "([I)[I"⟩ : MethodName) (head1 (Jvm.Cond.code (⟨"com/example/varel/varel/text/EditDistance", "start", "([I)[I"⟩ : MethodName) prog_54_method_4_code 3 (some (.array .int)) :: ws) ({ frames := 0, cells := 1, slots := 2, locals := 0 } : Room)) (fun a U => a = #[(.ref a1)] ∧ Z.Warmed39 U.vm ∧ U.heap = h0) (fun _ _ _ _ _ => True) (fun _ U o U' => ∃ v L, o = .returned v ∧ Q1_1 Z a1 k_a1 vs1 h0 n0 v U'.heap L ∧ FrameEnd U o U' L ({ frames := 0, cells := 1, slots := 2, locals := 0 } : Room).cells ({ frames := 0, cells := 1, slots := 2, locals := 0 } : Room).slots) := by
  refine MetFree.of_bodySF (plainFor_of_name pn_1) hisR ?_
  intro p e s m args below meth c s₁ Bd hml0 hP hK
  obtain ⟨rfl, hZ, hh⟩ := hP
  have hx := Bd.exec
  have hby := Bd.bytes
  have hml : c.maxLocals = 3 := hml0
  have hown : s.vm.findClass "com/example/varel/varel/text/EditDistance" = some m.cls := findClass_of_methodNamed Bd.named
  have hnm := (name_of_methodNamed Bd.named Bd.method).1
  have X0 : Stand p l e ({ frames := 0, cells := 1, slots := 2, locals := 0 } : Room) s m #[(.ref a1)] below meth c s₁ [] 0 0 := Stand.of_body Bd
  have e0 : s₁.heap = h0 := by rw [← hh, Bd.state]; rfl
  have N0 := Fr.nil n0
  have pre0 : ∀ t, Steps p.tables e below (s₁.setTop (mkF m 0 #[.val (.ref a1), .unset, .unset] [])) t → Steps p.tables e below (s₁.setTop (entryFrame m #[(.ref a1)] 3)) t := fun t k => castTop (ef_1 m a1) k
  obtain ⟨cl1, Ar1, qq1, S1, N1_, H1, G1⟩ := id V_a1
  obtain ⟨T2, h2, k2, X2, e2, E2, A2, st2⟩ := newP X0 hx hZ (hw _ (List.mem_of_getElem? (i := 0) rfl)) e0 (g := (mkF m 4 #[.val (.ref a1), .unset, .unset] [(.int (2 : Int32))])) rfl (hb hby d1_4) rfl (by decide) (cap := 2) (by decide) (by decide) (by decide) (by decide)
  obtain ⟨b2, g2⟩ : ∃ z, z = h0.size := ⟨_, rfl⟩
  rw [← g2] at A2 st2
  have ne_a1_b2 : a1 ≠ b2 := Nat.ne_of_lt (Nat.lt_of_lt_of_le V_a1.lt (Nat.le_of_eq g2.symm))
  have g_b2 : n0 ≤ b2 := Nat.le_trans Z0 (Nat.le_of_eq g2.symm)
  have sz_b2 : h0.size ≤ b2 := Nat.le_trans (Keep.refl h0 []).1 (Nat.le_of_eq g2.symm)
  have zs3 : n0 ≤ h2.size := Nat.le_trans Z0 E2.1
  have kp4 : Keep h0 h2 [] := (Keep.refl h0 []).ext E2
  have V_b2 : Arv Z h2 b2 k2 .int (2 : Int32) [(.int (0 : Int32)), (.int (0 : Int32))] (.int (0 : Int32)) := (Arv.new A2 (by decide)).pad (pad_rep [] (.int (0 : Int32)) 2)
  have fa5 : Arv Z h2 a1 k_a1 .int (1 : Int32) vs1 (.int (0 : Int32)) := (V_a1.ext E2)
  obtain ⟨cl6, Ar6, qq6, S6, N6_, H6, G6⟩ := id fa5
  obtain ⟨cl7, Ar7, qq7, S7, N7_, H7, G7⟩ := id V_b2
  have hin7 : ¬ ((0 : Int32) < 0 ∨ cl7.slots.size ≤ ((0 : Int32)).toNatClampNeg) := inb_of S7 ⟨by decide, by decide⟩
  obtain ⟨T7, h7, X7, e7, W7, st7⟩ := stI X2 hx hZ e2 Ar7 (j := (0 : Int32)) hin7 (g := (mkF m 18 #[.val (.ref a1), .val (.ref b2), .val (.int (0 : Int32))] [(.int (0 : Int32)), (.int (0 : Int32)), (.ref b2)])) rfl rfl (hb hby d1_18)
  have V7 : Arv Z h7 b2 k2 .int (2 : Int32) [(.int (0 : Int32)), (.int (0 : Int32))] (.int (0 : Int32)) := Arv.set Ar7 qq7 S7 N7_ H7 G7 rfl W7 0 rfl (Nat.le_of_ble_eq_true rfl)
  have zs8 : n0 ≤ h7.size := Nat.le_trans zs3 (Keep.of_wr W7).1
  have kp9 : Keep h0 h7 [] := kp4.wr W7 (Or.inr sz_b2)
  have N7 := Fr.snoc X7 N0 g_b2
  have fa10 : Arv Z h7 a1 k_a1 .int (1 : Int32) vs1 (.int (0 : Int32)) := (fa5.other W7 ne_a1_b2)
  obtain ⟨cl11, Ar11, qq11, S11, N11_, H11, G11⟩ := id fa10
  obtain ⟨cl12, Ar12, qq12, S12, N12_, H12, G12⟩ := id V7
  have hin12 : ¬ ((1 : Int32) < 0 ∨ cl12.slots.size ≤ ((1 : Int32)).toNatClampNeg) := inb_of S12 ⟨by decide, by decide⟩
  obtain ⟨T12, h12, X12, e12, W12, st12⟩ := stI X7 hx hZ e7 Ar12 (j := (1 : Int32)) hin12 (g := (mkF m 18 #[.val (.ref a1), .val (.ref b2), .val (.int (1 : Int32))] [(.int (1 : Int32)), (.int (1 : Int32)), (.ref b2)])) rfl rfl (hb hby d1_18)
  have V12 : Arv Z h12 b2 k2 .int (2 : Int32) [(.int (0 : Int32)), (.int (1 : Int32))] (.int (0 : Int32)) := Arv.set Ar12 qq12 S12 N12_ H12 G12 rfl W12 1 rfl (Nat.le_of_ble_eq_true rfl)
  have zs13 : n0 ≤ h12.size := Nat.le_trans zs8 (Keep.of_wr W12).1
  have kp14 : Keep h0 h12 [] := kp9.wr W12 (Or.inr sz_b2)
  have N12 := Fr.snoc X12 N7 g_b2
  have fa15 : Arv Z h12 a1 k_a1 .int (1 : Int32) vs1 (.int (0 : Int32)) := (fa10.other W12 ne_a1_b2)
  obtain ⟨cl16, Ar16, qq16, S16, N16_, H16, G16⟩ := id fa15
  obtain ⟨fs, hr, hrun, hended, hW, hsame⟩ := X12.leave (v := some (.ref b2)) (fun h => by rw [Bd.returns] at h; cases h)
  refine ⟨_, _, pre0 _ ?_, hrun, hended, _, _, rfl, ?_, ⟨_, rfl⟩, hW, hsame.mono (by decide) (by decide)⟩
  · show Steps p.tables e below (s₁.setTop (mkF m 0 #[.val (.ref a1), .unset, .unset] [])) _
    refine own_blk X0 hx bl1_0_1 (own_hb hby bd1_0_1) (pc' := 1) (Ls' := #[.val (.ref a1), .unset, .unset]) (st' := [(.ref a1)]) rfl ?_
    show Steps p.tables e below (s₁.setTop (mkF m 1 #[.val (.ref a1), .unset, .unset] [(.ref a1)])) _
    refine X0.arraylength hx (by rw [e0]; exact Ar1.1) (State.isArrayOf_alike hZ.alike Ar1.2.1) (g := (mkF m 1 #[.val (.ref a1), .unset, .unset] [(.ref a1)])) rfl rfl (hb hby d1_1) _ ?_
    rw [len_of S1 N1_]
    show Steps p.tables e below (s₁.setTop (mkF m 2 #[.val (.ref a1), .unset, .unset] [(.int (1 : Int32))])) _
    refine own_blk X0 hx bl1_2_2 (own_hb hby bd1_2_2) (pc' := 4) (Ls' := #[.val (.ref a1), .unset, .unset]) (st' := [(.int (2 : Int32))]) rfl ?_
    show Steps p.tables e below (s₁.setTop (mkF m 4 #[.val (.ref a1), .unset, .unset] [(.int (2 : Int32))])) _
    refine st2 _ ?_
    show Steps p.tables e below (T2.setTop (mkF m 6 #[.val (.ref a1), .unset, .unset] [(.ref b2)])) _
    refine own_blk X2 hx bl1_6_5 (own_hb hby bd1_6_5) (pc' := 11) (Ls' := #[.val (.ref a1), .val (.ref b2), .val (.int (0 : Int32))]) (st' := [(.ref a1), (.int (0 : Int32))]) rfl ?_
    show Steps p.tables e below (T2.setTop (mkF m 11 #[.val (.ref a1), .val (.ref b2), .val (.int (0 : Int32))] [(.ref a1), (.int (0 : Int32))])) _
    refine X2.arraylength hx (by rw [e2]; exact Ar6.1) (State.isArrayOf_alike hZ.alike Ar6.2.1) (g := (mkF m 11 #[.val (.ref a1), .val (.ref b2), .val (.int (0 : Int32))] [(.ref a1), (.int (0 : Int32))])) rfl rfl (hb hby d1_11) _ ?_
    rw [len_of S6 N6_]
    show Steps p.tables e below (T2.setTop (mkF m 12 #[.val (.ref a1), .val (.ref b2), .val (.int (0 : Int32))] [(.int (1 : Int32)), (.int (0 : Int32))])) _
    refine XS.icmpNo X2.here hx rfl (hb hby d1_12) rfl (flt (by decide : ¬ ((1 : Int32) < (0 : Int32)))).2.2.1 ?_
    show Steps p.tables e below (T2.setTop (mkF m 15 #[.val (.ref a1), .val (.ref b2), .val (.int (0 : Int32))] [])) _
    refine own_blk X2 hx bl1_15_3 (own_hb hby bd1_15_3) (pc' := 18) (Ls' := #[.val (.ref a1), .val (.ref b2), .val (.int (0 : Int32))]) (st' := [(.int (0 : Int32)), (.int (0 : Int32)), (.ref b2)]) rfl ?_
    show Steps p.tables e below (T2.setTop (mkF m 18 #[.val (.ref a1), .val (.ref b2), .val (.int (0 : Int32))] [(.int (0 : Int32)), (.int (0 : Int32)), (.ref b2)])) _
    refine st7 _ ?_
    show Steps p.tables e below (T7.setTop (mkF m 19 #[.val (.ref a1), .val (.ref b2), .val (.int (0 : Int32))] [])) _
    refine own_blk X7 hx bl1_19_4 (own_hb hby bd1_19_4) (pc' := 11) (Ls' := #[.val (.ref a1), .val (.ref b2), .val (.int (1 : Int32))]) (st' := [(.ref a1), (.int (1 : Int32))]) rfl ?_
    show Steps p.tables e below (T7.setTop (mkF m 11 #[.val (.ref a1), .val (.ref b2), .val (.int (1 : Int32))] [(.ref a1), (.int (1 : Int32))])) _
    refine X7.arraylength hx (by rw [e7]; exact Ar11.1) (State.isArrayOf_alike hZ.alike Ar11.2.1) (g := (mkF m 11 #[.val (.ref a1), .val (.ref b2), .val (.int (1 : Int32))] [(.ref a1), (.int (1 : Int32))])) rfl rfl (hb hby d1_11) _ ?_
    rw [len_of S11 N11_]
    show Steps p.tables e below (T7.setTop (mkF m 12 #[.val (.ref a1), .val (.ref b2), .val (.int (1 : Int32))] [(.int (1 : Int32)), (.int (1 : Int32))])) _
    refine XS.icmpNo X7.here hx rfl (hb hby d1_12) rfl (flt (by decide : ¬ ((1 : Int32) < (1 : Int32)))).2.2.1 ?_
    show Steps p.tables e below (T7.setTop (mkF m 15 #[.val (.ref a1), .val (.ref b2), .val (.int (1 : Int32))] [])) _
    refine own_blk X7 hx bl1_15_3 (own_hb hby bd1_15_3) (pc' := 18) (Ls' := #[.val (.ref a1), .val (.ref b2), .val (.int (1 : Int32))]) (st' := [(.int (1 : Int32)), (.int (1 : Int32)), (.ref b2)]) rfl ?_
    show Steps p.tables e below (T7.setTop (mkF m 18 #[.val (.ref a1), .val (.ref b2), .val (.int (1 : Int32))] [(.int (1 : Int32)), (.int (1 : Int32)), (.ref b2)])) _
    refine st12 _ ?_
    show Steps p.tables e below (T12.setTop (mkF m 19 #[.val (.ref a1), .val (.ref b2), .val (.int (1 : Int32))] [])) _
    refine own_blk X12 hx bl1_19_4 (own_hb hby bd1_19_4) (pc' := 11) (Ls' := #[.val (.ref a1), .val (.ref b2), .val (.int (2 : Int32))]) (st' := [(.ref a1), (.int (2 : Int32))]) rfl ?_
    show Steps p.tables e below (T12.setTop (mkF m 11 #[.val (.ref a1), .val (.ref b2), .val (.int (2 : Int32))] [(.ref a1), (.int (2 : Int32))])) _
    refine X12.arraylength hx (by rw [e12]; exact Ar16.1) (State.isArrayOf_alike hZ.alike Ar16.2.1) (g := (mkF m 11 #[.val (.ref a1), .val (.ref b2), .val (.int (2 : Int32))] [(.ref a1), (.int (2 : Int32))])) rfl rfl (hb hby d1_11) _ ?_
    rw [len_of S16 N16_]
    show Steps p.tables e below (T12.setTop (mkF m 12 #[.val (.ref a1), .val (.ref b2), .val (.int (2 : Int32))] [(.int (1 : Int32)), (.int (2 : Int32))])) _
    refine XS.icmpYes X12.here hx rfl (pc0 := 12) (pc' := 25) rfl (hb hby d1_12) rfl (tlt (by decide : (1 : Int32) < (2 : Int32))).2.2.1 (by decide) (by decide) ?_
    show Steps p.tables e below (T12.setTop (mkF m 25 #[.val (.ref a1), .val (.ref b2), .val (.int (2 : Int32))] [])) _
    refine own_blk X12 hx bl1_25_1 (own_hb hby bd1_25_1) (pc' := 26) (Ls' := #[.val (.ref a1), .val (.ref b2), .val (.int (2 : Int32))]) (st' := [(.ref b2)]) rfl ?_
    show Steps p.tables e below (T12.setTop (mkF m 26 #[.val (.ref a1), .val (.ref b2), .val (.int (2 : Int32))] [(.ref b2)])) _
    jvm_step X12.here [X12.here.top, hx, (hb hby d1_26), X12.method', Bd.returns, Value.isRef, FieldType.isReference]
    first | (intro acts; rw [hr _ acts rfl rfl rfl]) | rw [hr _ _ rfl rfl rfl]
    exact Steps.refl _
  · show Q1_1 Z a1 k_a1 vs1 h0 n0 _ T12.heap _
    rw [e12]
    exact ⟨b2, k2, rfl, N12, kp14, g_b2, sz_b2, V12⟩
def bl0_17_3 : List (Nat × Instr × Nat) := [(17, .aload 5, 2), (19, .iconst 0, 1), (20, .iload_n 1, 1)]
theorem bd0_17_3 : own_dec code bl0_17_3 = true := by decide +kernel

def f0_1 (p1 : Int32) (p2 : Int32) (p3 : Int32) (p4 : Int32) : Int32 := (1 : Int32)
def Q0_1 (Z : State) (p1 : Int32) (p2 : Int32) (p3 : Int32) (p4 : Int32) (h0 : Heap) (n0 : Nat) (v : Option Value) (h : Heap) (L : List Loc) : Prop := v = some (.int (f0_1 p1 p2 p3 p4)) ∧ Fr n0 L
set_option maxRecDepth 65536 in
set_option maxHeartbeats 40000000 in
theorem rm0_1 (l : Launch) (Z : State) (a0 : Array Value) (hw : ∀ d ∈ tables_1, d.before a0 Z = true) (ws : List Jvm.Cond) (p1 : Int32) (p2 : Int32) (p3 : Int32) (p4 : Int32) (h0 : Heap) (n0 : Nat) (Z0 : n0 ≤ h0.size) (hn : (p1 &&& (7 : Int32)) = (1 : Int32)) :
    MetFree l x (head1 (Jvm.Cond.code x code maxLocals ret :: ws) room_1) (fun a U => a = #[(.int p1), (.int p2), (.int p3), (.int p4)] ∧ Z.Warmed39 U.vm ∧ U.heap = h0) (fun _ _ _ _ _ => True) (fun _ U o U' => ∃ v L, o = .returned v ∧ Q0_1 Z p1 p2 p3 p4 h0 n0 v U'.heap L ∧ FrameEnd U o U' L room_1.cells room_1.slots) := by
  refine MetFree.of_bodySF (plainFor_of_name pn_0) hisR ?_
  intro p e s m args below meth c s₁ Bd hml0 hP hK
  obtain ⟨rfl, hZ, hh⟩ := hP
  have hx := Bd.exec
  have hby := Bd.bytes
  have hml : c.maxLocals = 9 := hml0
  have hown : s.vm.findClass "com/example/varel/varel/text/EditDistanceStartPinLaw" = some m.cls := findClass_of_methodNamed Bd.named
  have hnm := (name_of_methodNamed Bd.named Bd.method).1
  have X0 : Stand p l e room_1 s m #[(.int p1), (.int p2), (.int p3), (.int p4)] below meth c s₁ [] 0 0 := Stand.of_body Bd
  have e0 : s₁.heap = h0 := by rw [← hh, Bd.state]; rfl
  have N0 := Fr.nil n0
  have pre0 : ∀ t, Steps p.tables e below (s₁.setTop (mkF m 0 #[.val (.int p1), .val (.int p2), .val (.int p3), .val (.int p4), .unset, .unset, .unset, .unset, .unset] [])) t → Steps p.tables e below (s₁.setTop (entryFrame m #[(.int p1), (.int p2), (.int p3), (.int p4)] maxLocals)) t := fun t k => castTop (ef_0 m p1 p2 p3 p4) k
  obtain ⟨T1, h1, k1, X1, e1, E1, A1, st1⟩ := newP X0 hx hZ (hw _ (List.mem_of_getElem? (i := 0) rfl)) e0 (g := (mkF m 8 #[.val (.int p1), .val (.int p2), .val (.int p3), .val (.int p4), .val (.int (1 : Int32)), .unset, .unset, .unset, .unset] [(.int (1 : Int32))])) rfl (hb hby at_8) rfl (by decide) (cap := 1) (by decide) (by decide) (by decide) (by decide)
  obtain ⟨b1, g1⟩ : ∃ z, z = h0.size := ⟨_, rfl⟩
  rw [← g1] at A1 st1
  have g_b1 : n0 ≤ b1 := Nat.le_trans Z0 (Nat.le_of_eq g1.symm)
  have zs2 : n0 ≤ h1.size := Nat.le_trans Z0 E1.1
  have V_b1 : Arv Z h1 b1 k1 .int (1 : Int32) [(.int (0 : Int32))] (.int (0 : Int32)) := (Arv.new A1 (by decide)).pad (pad_rep [] (.int (0 : Int32)) 1)
  obtain ⟨cl3, Ar3, qq3, S3, N3_, H3, G3⟩ := id V_b1
  have hin3 : ¬ ((0 : Int32) < 0 ∨ cl3.slots.size ≤ ((0 : Int32)).toNatClampNeg) := inb_of S3 ⟨by decide, by decide⟩
  obtain ⟨T3, h3, X3, e3, W3, st3⟩ := stI X1 hx hZ e1 Ar3 (j := (0 : Int32)) hin3 (g := (mkF m 21 #[.val (.int p1), .val (.int p2), .val (.int p3), .val (.int p4), .val (.int (1 : Int32)), .val (.ref b1), .unset, .unset, .unset] [(.int p2), (.int (0 : Int32)), (.ref b1)])) rfl rfl (hb hby at_21)
  have V3 : Arv Z h3 b1 k1 .int (1 : Int32) [(.int p2)] (.int (0 : Int32)) := Arv.set Ar3 qq3 S3 N3_ H3 G3 rfl W3 0 rfl (Nat.le_of_ble_eq_true rfl)
  have zs4 : n0 ≤ h3.size := Nat.le_trans zs2 (Keep.of_wr W3).1
  have N3 := Fr.snoc X3 N0 g_b1
  obtain ⟨_, T5, Lc5, X5, hQ5, st5⟩ := own_callS X3 hx hZ (y := (⟨"com/example/varel/varel/text/EditDistance", "start", "([I)[I"⟩ : MethodName)) hown (hw _ (List.mem_of_getElem? (i := 1) rfl)) (hw _ (List.mem_of_getElem? (i := 2) rfl)) (hw _ (List.mem_of_getElem? (i := 3) rfl)) (hw _ (List.mem_of_getElem? (i := 4) rfl)) (by decide) (W := 0) (argsL := [(.ref b1)]) (rest := []) (rm1_1 l Z a0 hw [] b1 k1 [(.int p2)] h3 n0 zs4 V3) (by decide) (by decide) (c' := 2) (s' := 3) rfl rfl (by decide) (by decide) e3 (g := (mkF m 101 #[.val (.int p1), .val (.int p2), .val (.int p3), .val (.int p4), .val (.int (1 : Int32)), .val (.ref b1), .unset, .unset, .unset] [(.ref b1)])) rfl (by rw [hml]; rfl) (lenOf pd_0_0 rfl) rfl (by show 2 * 0 + _ ≤ _; exact Nat.le_of_eq rfl) (hb hby at_101)
  obtain ⟨b5, kk5, rfl, N5q, K5, g_b5, szz5, V_b5⟩ := hQ5
  have N5 := Fr.app N3 N5q
  have ne_b1_b5 : b1 ≠ b5 := Nat.ne_of_lt (Nat.lt_of_lt_of_le V3.lt szz5)
  have zs6 : n0 ≤ T5.heap.size := Nat.le_trans zs4 K5.1
  obtain ⟨cl7, Ar7, qq7, S7, N7_, H7, G7⟩ := id V_b5
  obtain ⟨_, T8, Lc8, X8, hQ8, st8⟩ := own_callS X5 hx hZ (y := (⟨"com/example/varel/varel/text/EditDistanceStartPinLaw", "at", "([II)Z"⟩ : MethodName)) hown (hw _ (List.mem_of_getElem? (i := 5) rfl)) (hw _ (List.mem_of_getElem? (i := 6) rfl)) (hw _ (List.mem_of_getElem? (i := 7) rfl)) (hw _ (List.mem_of_getElem? (i := 8) rfl)) (by decide) (W := 0) (argsL := [(.ref b5), (.int (0 : Int32))]) (rest := []) (rm2 l Z a0 hw [] b5 (0 : Int32) (0 : Int32) kk5 [(.int (0 : Int32)), (.int (1 : Int32))] (2 : Int32) T5.heap n0 zs6 V_b5 (by decide) (fun _ => rfl)) (by decide) (by decide) (c' := 2) (s' := 3) rfl rfl (by decide) (by decide) rfl (g := (mkF m 128 #[.val (.int p1), .val (.int p2), .val (.int p3), .val (.int p4), .val (.int (1 : Int32)), .val (.ref b1), .val (.ref b5), .unset, .unset] [(.int (0 : Int32)), (.ref b5)])) rfl (by rw [hml]; rfl) (lenOf pd_0_1 rfl) rfl (by show 2 * 0 + _ ≤ _; exact Nat.le_of_eq rfl) (hb hby at_128)
  obtain ⟨hv8, N8q, e8⟩ := hQ8
  have N8 := Fr.app N5 N8q
  rw [f2, if_pos (by decide : (0 : Int32) < (2 : Int32)), if_pos (by decide : (0 : Int32) = (0 : Int32))] at hv8
  subst hv8
  obtain ⟨_, T9, Lc9, X9, hQ9, st9⟩ := own_callS X8 hx hZ (y := (⟨"com/example/varel/varel/text/EditDistanceStartPinLaw", "at", "([II)Z"⟩ : MethodName)) hown (hw _ (List.mem_of_getElem? (i := 5) rfl)) (hw _ (List.mem_of_getElem? (i := 6) rfl)) (hw _ (List.mem_of_getElem? (i := 7) rfl)) (hw _ (List.mem_of_getElem? (i := 8) rfl)) (by decide) (W := 0) (argsL := [(.ref b5), (.int (1 : Int32))]) (rest := []) (rm2 l Z a0 hw [] b5 (1 : Int32) (1 : Int32) kk5 [(.int (0 : Int32)), (.int (1 : Int32))] (2 : Int32) T5.heap n0 zs6 V_b5 (by decide) (fun _ => rfl)) (by decide) (by decide) (c' := 2) (s' := 3) rfl rfl (by decide) (by decide) e8 (g := (mkF m 137 #[.val (.int p1), .val (.int p2), .val (.int p3), .val (.int p4), .val (.int (1 : Int32)), .val (.ref b1), .val (.ref b5), .unset, .unset] [(.int (1 : Int32)), (.ref b5)])) rfl (by rw [hml]; rfl) (lenOf pd_0_1 rfl) rfl (by show 2 * 0 + _ ≤ _; exact Nat.le_of_eq rfl) (hb hby at_137)
  obtain ⟨hv9, N9q, e9⟩ := hQ9
  have N9 := Fr.app N8 N9q
  rw [f2, if_pos (by decide : (1 : Int32) < (2 : Int32)), if_pos (by decide : (1 : Int32) = (1 : Int32))] at hv9
  subst hv9
  obtain ⟨_, T10, Lc10, X10, hQ10, st10⟩ := own_callS X9 hx hZ (y := (⟨"com/example/varel/varel/text/EditDistanceStartPinLaw", "at", "([II)Z"⟩ : MethodName)) hown (hw _ (List.mem_of_getElem? (i := 5) rfl)) (hw _ (List.mem_of_getElem? (i := 6) rfl)) (hw _ (List.mem_of_getElem? (i := 7) rfl)) (hw _ (List.mem_of_getElem? (i := 8) rfl)) (by decide) (W := 0) (argsL := [(.ref b5), (.int (2 : Int32))]) (rest := []) (rm2 l Z a0 hw [] b5 (2 : Int32) (0 : Int32) kk5 [(.int (0 : Int32)), (.int (1 : Int32))] (2 : Int32) T5.heap n0 zs6 V_b5 (by decide) (fun h => absurd h (by decide))) (by decide) (by decide) (c' := 2) (s' := 3) rfl rfl (by decide) (by decide) e9 (g := (mkF m 146 #[.val (.int p1), .val (.int p2), .val (.int p3), .val (.int p4), .val (.int (1 : Int32)), .val (.ref b1), .val (.ref b5), .unset, .unset] [(.int (2 : Int32)), (.ref b5)])) rfl (by rw [hml]; rfl) (lenOf pd_0_1 rfl) rfl (by show 2 * 0 + _ ≤ _; exact Nat.le_of_eq rfl) (hb hby at_146)
  obtain ⟨hv10, N10q, e10⟩ := hQ10
  have N10 := Fr.app N9 N10q
  rw [f2, if_neg (by decide : ¬ ((2 : Int32) < (2 : Int32)))] at hv10
  subst hv10
  obtain ⟨_, T11, Lc11, X11, hQ11, st11⟩ := own_callS X10 hx hZ (y := (⟨"com/example/varel/varel/text/EditDistanceStartPinLaw", "at", "([II)Z"⟩ : MethodName)) hown (hw _ (List.mem_of_getElem? (i := 5) rfl)) (hw _ (List.mem_of_getElem? (i := 6) rfl)) (hw _ (List.mem_of_getElem? (i := 7) rfl)) (hw _ (List.mem_of_getElem? (i := 8) rfl)) (by decide) (W := 0) (argsL := [(.ref b5), (.int (3 : Int32))]) (rest := []) (rm2 l Z a0 hw [] b5 (3 : Int32) (0 : Int32) kk5 [(.int (0 : Int32)), (.int (1 : Int32))] (2 : Int32) T5.heap n0 zs6 V_b5 (by decide) (fun h => absurd h (by decide))) (by decide) (by decide) (c' := 2) (s' := 3) rfl rfl (by decide) (by decide) e10 (g := (mkF m 155 #[.val (.int p1), .val (.int p2), .val (.int p3), .val (.int p4), .val (.int (1 : Int32)), .val (.ref b1), .val (.ref b5), .unset, .unset] [(.int (3 : Int32)), (.ref b5)])) rfl (by rw [hml]; rfl) (lenOf pd_0_1 rfl) rfl (by show 2 * 0 + _ ≤ _; exact Nat.le_of_eq rfl) (hb hby at_155)
  obtain ⟨hv11, N11q, e11⟩ := hQ11
  have N11 := Fr.app N10 N11q
  rw [f2, if_neg (by decide : ¬ ((3 : Int32) < (2 : Int32)))] at hv11
  subst hv11
  obtain ⟨_, T12, Lc12, X12, hQ12, st12⟩ := own_callS X11 hx hZ (y := (⟨"com/example/varel/varel/text/EditDistanceStartPinLaw", "at", "([II)Z"⟩ : MethodName)) hown (hw _ (List.mem_of_getElem? (i := 5) rfl)) (hw _ (List.mem_of_getElem? (i := 6) rfl)) (hw _ (List.mem_of_getElem? (i := 7) rfl)) (hw _ (List.mem_of_getElem? (i := 8) rfl)) (by decide) (W := 0) (argsL := [(.ref b5), (.int (4 : Int32))]) (rest := []) (rm2 l Z a0 hw [] b5 (4 : Int32) (0 : Int32) kk5 [(.int (0 : Int32)), (.int (1 : Int32))] (2 : Int32) T5.heap n0 zs6 V_b5 (by decide) (fun h => absurd h (by decide))) (by decide) (by decide) (c' := 2) (s' := 3) rfl rfl (by decide) (by decide) e11 (g := (mkF m 164 #[.val (.int p1), .val (.int p2), .val (.int p3), .val (.int p4), .val (.int (1 : Int32)), .val (.ref b1), .val (.ref b5), .unset, .unset] [(.int (4 : Int32)), (.ref b5)])) rfl (by rw [hml]; rfl) (lenOf pd_0_1 rfl) rfl (by show 2 * 0 + _ ≤ _; exact Nat.le_of_eq rfl) (hb hby at_164)
  obtain ⟨hv12, N12q, e12⟩ := hQ12
  have N12 := Fr.app N11 N12q
  rw [f2, if_neg (by decide : ¬ ((4 : Int32) < (2 : Int32)))] at hv12
  subst hv12
  obtain ⟨_, T13, Lc13, X13, hQ13, st13⟩ := own_callS X12 hx hZ (y := (⟨"com/example/varel/varel/text/EditDistanceStartPinLaw", "at", "([II)Z"⟩ : MethodName)) hown (hw _ (List.mem_of_getElem? (i := 5) rfl)) (hw _ (List.mem_of_getElem? (i := 6) rfl)) (hw _ (List.mem_of_getElem? (i := 7) rfl)) (hw _ (List.mem_of_getElem? (i := 8) rfl)) (by decide) (W := 0) (argsL := [(.ref b5), (.int (5 : Int32))]) (rest := []) (rm2 l Z a0 hw [] b5 (5 : Int32) (0 : Int32) kk5 [(.int (0 : Int32)), (.int (1 : Int32))] (2 : Int32) T5.heap n0 zs6 V_b5 (by decide) (fun h => absurd h (by decide))) (by decide) (by decide) (c' := 2) (s' := 3) rfl rfl (by decide) (by decide) e12 (g := (mkF m 173 #[.val (.int p1), .val (.int p2), .val (.int p3), .val (.int p4), .val (.int (1 : Int32)), .val (.ref b1), .val (.ref b5), .unset, .unset] [(.int (5 : Int32)), (.ref b5)])) rfl (by rw [hml]; rfl) (lenOf pd_0_1 rfl) rfl (by show 2 * 0 + _ ≤ _; exact Nat.le_of_eq rfl) (hb hby at_173)
  obtain ⟨hv13, N13q, e13⟩ := hQ13
  have N13 := Fr.app N12 N13q
  rw [f2, if_neg (by decide : ¬ ((5 : Int32) < (2 : Int32)))] at hv13
  subst hv13
  obtain ⟨_, T14, Lc14, X14, hQ14, st14⟩ := own_callS X13 hx hZ (y := (⟨"com/example/varel/varel/text/EditDistanceStartPinLaw", "at", "([II)Z"⟩ : MethodName)) hown (hw _ (List.mem_of_getElem? (i := 5) rfl)) (hw _ (List.mem_of_getElem? (i := 6) rfl)) (hw _ (List.mem_of_getElem? (i := 7) rfl)) (hw _ (List.mem_of_getElem? (i := 8) rfl)) (by decide) (W := 0) (argsL := [(.ref b5), (.int (6 : Int32))]) (rest := []) (rm2 l Z a0 hw [] b5 (6 : Int32) (0 : Int32) kk5 [(.int (0 : Int32)), (.int (1 : Int32))] (2 : Int32) T5.heap n0 zs6 V_b5 (by decide) (fun h => absurd h (by decide))) (by decide) (by decide) (c' := 2) (s' := 3) rfl rfl (by decide) (by decide) e13 (g := (mkF m 183 #[.val (.int p1), .val (.int p2), .val (.int p3), .val (.int p4), .val (.int (1 : Int32)), .val (.ref b1), .val (.ref b5), .unset, .unset] [(.int (6 : Int32)), (.ref b5)])) rfl (by rw [hml]; rfl) (lenOf pd_0_1 rfl) rfl (by show 2 * 0 + _ ≤ _; exact Nat.le_of_eq rfl) (hb hby at_183)
  obtain ⟨hv14, N14q, e14⟩ := hQ14
  have N14 := Fr.app N13 N14q
  rw [f2, if_neg (by decide : ¬ ((6 : Int32) < (2 : Int32)))] at hv14
  subst hv14
  obtain ⟨_, T15, Lc15, X15, hQ15, st15⟩ := own_callS X14 hx hZ (y := (⟨"com/example/varel/varel/text/EditDistanceStartPinLaw", "at", "([II)Z"⟩ : MethodName)) hown (hw _ (List.mem_of_getElem? (i := 5) rfl)) (hw _ (List.mem_of_getElem? (i := 6) rfl)) (hw _ (List.mem_of_getElem? (i := 7) rfl)) (hw _ (List.mem_of_getElem? (i := 8) rfl)) (by decide) (W := 0) (argsL := [(.ref b5), (.int (7 : Int32))]) (rest := []) (rm2 l Z a0 hw [] b5 (7 : Int32) (0 : Int32) kk5 [(.int (0 : Int32)), (.int (1 : Int32))] (2 : Int32) T5.heap n0 zs6 V_b5 (by decide) (fun h => absurd h (by decide))) (by decide) (by decide) (c' := 2) (s' := 3) rfl rfl (by decide) (by decide) e14 (g := (mkF m 193 #[.val (.int p1), .val (.int p2), .val (.int p3), .val (.int p4), .val (.int (1 : Int32)), .val (.ref b1), .val (.ref b5), .unset, .unset] [(.int (7 : Int32)), (.ref b5)])) rfl (by rw [hml]; rfl) (lenOf pd_0_1 rfl) rfl (by show 2 * 0 + _ ≤ _; exact Nat.le_of_eq rfl) (hb hby at_193)
  obtain ⟨hv15, N15q, e15⟩ := hQ15
  have N15 := Fr.app N14 N15q
  rw [f2, if_neg (by decide : ¬ ((7 : Int32) < (2 : Int32)))] at hv15
  subst hv15
  have fa16 : Arv Z T5.heap b1 k1 .int (1 : Int32) [(.int p2)] (.int (0 : Int32)) := (V3.keep K5 nin0)
  obtain ⟨cl17, Ar17, qq17, S17, N17_, H17, G17⟩ := id fa16
  obtain ⟨_, T18, Lc18, X18, hQ18, st18⟩ := own_callS X15 hx hZ (y := (⟨"com/example/varel/varel/text/EditDistanceStartPinLaw", "kept", "([III)Z"⟩ : MethodName)) hown (hw _ (List.mem_of_getElem? (i := 9) rfl)) (hw _ (List.mem_of_getElem? (i := 10) rfl)) (hw _ (List.mem_of_getElem? (i := 7) rfl)) (hw _ (List.mem_of_getElem? (i := 11) rfl)) (by decide) (W := 0) (argsL := [(.ref b1), (.int (0 : Int32)), (.int p2)]) (rest := []) (rm3 l Z a0 hw [] b1 (0 : Int32) p2 p2 k1 [(.int p2)] (1 : Int32) T5.heap n0 zs6 fa16 (by decide) (fun _ => rfl)) (by decide) (by decide) (c' := 2) (s' := 3) rfl rfl (by decide) (by decide) e15 (g := (mkF m 218 #[.val (.int p1), .val (.int p2), .val (.int p3), .val (.int p4), .val (.int (1 : Int32)), .val (.ref b1), .val (.ref b5), .val (.int (1 : Int32)), .unset] [(.int p2), (.int (0 : Int32)), (.ref b1)])) rfl (by rw [hml]; rfl) (lenOf pd_0_2 rfl) rfl (by show 2 * 0 + _ ≤ _; exact Nat.le_of_eq rfl) (hb hby at_218)
  obtain ⟨hv18, N18q, e18⟩ := hQ18
  have N18 := Fr.app N15 N18q
  rw [f3, if_pos (by decide : (0 : Int32) < (1 : Int32)), if_pos (rfl : p2 = p2)] at hv18
  subst hv18
  obtain ⟨_, T19, Lc19, X19, hQ19, st19⟩ := own_callS X18 hx hZ (y := (⟨"com/example/varel/varel/text/EditDistanceStartPinLaw", "kept", "([III)Z"⟩ : MethodName)) hown (hw _ (List.mem_of_getElem? (i := 9) rfl)) (hw _ (List.mem_of_getElem? (i := 10) rfl)) (hw _ (List.mem_of_getElem? (i := 7) rfl)) (hw _ (List.mem_of_getElem? (i := 11) rfl)) (by decide) (W := 0) (argsL := [(.ref b1), (.int (1 : Int32)), (.int p3)]) (rest := []) (rm3 l Z a0 hw [] b1 (1 : Int32) p3 (0 : Int32) k1 [(.int p2)] (1 : Int32) T5.heap n0 zs6 fa16 (by decide) (fun h => absurd h (by decide))) (by decide) (by decide) (c' := 2) (s' := 3) rfl rfl (by decide) (by decide) e18 (g := (mkF m 228 #[.val (.int p1), .val (.int p2), .val (.int p3), .val (.int p4), .val (.int (1 : Int32)), .val (.ref b1), .val (.ref b5), .val (.int (1 : Int32)), .unset] [(.int p3), (.int (1 : Int32)), (.ref b1)])) rfl (by rw [hml]; rfl) (lenOf pd_0_2 rfl) rfl (by show 2 * 0 + _ ≤ _; exact Nat.le_of_eq rfl) (hb hby at_228)
  obtain ⟨hv19, N19q, e19⟩ := hQ19
  have N19 := Fr.app N18 N19q
  rw [f3, if_neg (by decide : ¬ ((1 : Int32) < (1 : Int32)))] at hv19
  subst hv19
  obtain ⟨_, T20, Lc20, X20, hQ20, st20⟩ := own_callS X19 hx hZ (y := (⟨"com/example/varel/varel/text/EditDistanceStartPinLaw", "kept", "([III)Z"⟩ : MethodName)) hown (hw _ (List.mem_of_getElem? (i := 9) rfl)) (hw _ (List.mem_of_getElem? (i := 10) rfl)) (hw _ (List.mem_of_getElem? (i := 7) rfl)) (hw _ (List.mem_of_getElem? (i := 11) rfl)) (by decide) (W := 0) (argsL := [(.ref b1), (.int (2 : Int32)), (.int p4)]) (rest := []) (rm3 l Z a0 hw [] b1 (2 : Int32) p4 (0 : Int32) k1 [(.int p2)] (1 : Int32) T5.heap n0 zs6 fa16 (by decide) (fun h => absurd h (by decide))) (by decide) (by decide) (c' := 2) (s' := 3) rfl rfl (by decide) (by decide) e19 (g := (mkF m 238 #[.val (.int p1), .val (.int p2), .val (.int p3), .val (.int p4), .val (.int (1 : Int32)), .val (.ref b1), .val (.ref b5), .val (.int (1 : Int32)), .unset] [(.int p4), (.int (2 : Int32)), (.ref b1)])) rfl (by rw [hml]; rfl) (lenOf pd_0_2 rfl) rfl (by show 2 * 0 + _ ≤ _; exact Nat.le_of_eq rfl) (hb hby at_238)
  obtain ⟨hv20, N20q, e20⟩ := hQ20
  have N20 := Fr.app N19 N20q
  rw [f3, if_neg (by decide : ¬ ((2 : Int32) < (1 : Int32)))] at hv20
  subst hv20
  obtain ⟨_, T21, Lc21, X21, hQ21, st21⟩ := own_callS X20 hx hZ (y := (⟨"com/example/varel/varel/text/EditDistanceStartPinLaw", "kept", "([III)Z"⟩ : MethodName)) hown (hw _ (List.mem_of_getElem? (i := 9) rfl)) (hw _ (List.mem_of_getElem? (i := 10) rfl)) (hw _ (List.mem_of_getElem? (i := 7) rfl)) (hw _ (List.mem_of_getElem? (i := 11) rfl)) (by decide) (W := 0) (argsL := [(.ref b1), (.int (3 : Int32)), (.int (p2 ^^^ p3))]) (rest := []) (rm3 l Z a0 hw [] b1 (3 : Int32) (p2 ^^^ p3) (0 : Int32) k1 [(.int p2)] (1 : Int32) T5.heap n0 zs6 fa16 (by decide) (fun h => absurd h (by decide))) (by decide) (by decide) (c' := 2) (s' := 3) rfl rfl (by decide) (by decide) e20 (g := (mkF m 250 #[.val (.int p1), .val (.int p2), .val (.int p3), .val (.int p4), .val (.int (1 : Int32)), .val (.ref b1), .val (.ref b5), .val (.int (1 : Int32)), .unset] [(.int (p2 ^^^ p3)), (.int (3 : Int32)), (.ref b1)])) rfl (by rw [hml]; rfl) (lenOf pd_0_2 rfl) rfl (by show 2 * 0 + _ ≤ _; exact Nat.le_of_eq rfl) (hb hby at_250)
  obtain ⟨hv21, N21q, e21⟩ := hQ21
  have N21 := Fr.app N20 N21q
  rw [f3, if_neg (by decide : ¬ ((3 : Int32) < (1 : Int32)))] at hv21
  subst hv21
  obtain ⟨_, T22, Lc22, X22, hQ22, st22⟩ := own_callS X21 hx hZ (y := (⟨"com/example/varel/varel/text/EditDistanceStartPinLaw", "kept", "([III)Z"⟩ : MethodName)) hown (hw _ (List.mem_of_getElem? (i := 9) rfl)) (hw _ (List.mem_of_getElem? (i := 10) rfl)) (hw _ (List.mem_of_getElem? (i := 7) rfl)) (hw _ (List.mem_of_getElem? (i := 11) rfl)) (by decide) (W := 0) (argsL := [(.ref b1), (.int (4 : Int32)), (.int (p3 - p4))]) (rest := []) (rm3 l Z a0 hw [] b1 (4 : Int32) (p3 - p4) (0 : Int32) k1 [(.int p2)] (1 : Int32) T5.heap n0 zs6 fa16 (by decide) (fun h => absurd h (by decide))) (by decide) (by decide) (c' := 2) (s' := 3) rfl rfl (by decide) (by decide) e21 (g := (mkF m 262 #[.val (.int p1), .val (.int p2), .val (.int p3), .val (.int p4), .val (.int (1 : Int32)), .val (.ref b1), .val (.ref b5), .val (.int (1 : Int32)), .unset] [(.int (p3 - p4)), (.int (4 : Int32)), (.ref b1)])) rfl (by rw [hml]; rfl) (lenOf pd_0_2 rfl) rfl (by show 2 * 0 + _ ≤ _; exact Nat.le_of_eq rfl) (hb hby at_262)
  obtain ⟨hv22, N22q, e22⟩ := hQ22
  have N22 := Fr.app N21 N22q
  rw [f3, if_neg (by decide : ¬ ((4 : Int32) < (1 : Int32)))] at hv22
  subst hv22
  obtain ⟨_, T23, Lc23, X23, hQ23, st23⟩ := own_callS X22 hx hZ (y := (⟨"com/example/varel/varel/text/EditDistanceStartPinLaw", "kept", "([III)Z"⟩ : MethodName)) hown (hw _ (List.mem_of_getElem? (i := 9) rfl)) (hw _ (List.mem_of_getElem? (i := 10) rfl)) (hw _ (List.mem_of_getElem? (i := 7) rfl)) (hw _ (List.mem_of_getElem? (i := 11) rfl)) (by decide) (W := 0) (argsL := [(.ref b1), (.int (5 : Int32)), (.int (p2 ^^^ (-1 : Int32)))]) (rest := []) (rm3 l Z a0 hw [] b1 (5 : Int32) (p2 ^^^ (-1 : Int32)) (0 : Int32) k1 [(.int p2)] (1 : Int32) T5.heap n0 zs6 fa16 (by decide) (fun h => absurd h (by decide))) (by decide) (by decide) (c' := 2) (s' := 3) rfl rfl (by decide) (by decide) e22 (g := (mkF m 274 #[.val (.int p1), .val (.int p2), .val (.int p3), .val (.int p4), .val (.int (1 : Int32)), .val (.ref b1), .val (.ref b5), .val (.int (1 : Int32)), .unset] [(.int (p2 ^^^ (-1 : Int32))), (.int (5 : Int32)), (.ref b1)])) rfl (by rw [hml]; rfl) (lenOf pd_0_2 rfl) rfl (by show 2 * 0 + _ ≤ _; exact Nat.le_of_eq rfl) (hb hby at_274)
  obtain ⟨hv23, N23q, e23⟩ := hQ23
  have N23 := Fr.app N22 N23q
  rw [f3, if_neg (by decide : ¬ ((5 : Int32) < (1 : Int32)))] at hv23
  subst hv23
  obtain ⟨_, T24, Lc24, X24, hQ24, st24⟩ := own_callS X23 hx hZ (y := (⟨"com/example/varel/varel/text/EditDistanceStartPinLaw", "kept", "([III)Z"⟩ : MethodName)) hown (hw _ (List.mem_of_getElem? (i := 9) rfl)) (hw _ (List.mem_of_getElem? (i := 10) rfl)) (hw _ (List.mem_of_getElem? (i := 7) rfl)) (hw _ (List.mem_of_getElem? (i := 11) rfl)) (by decide) (W := 0) (argsL := [(.ref b1), (.int (6 : Int32)), (.int (p4 * (31 : Int32)))]) (rest := []) (rm3 l Z a0 hw [] b1 (6 : Int32) (p4 * (31 : Int32)) (0 : Int32) k1 [(.int p2)] (1 : Int32) T5.heap n0 zs6 fa16 (by decide) (fun h => absurd h (by decide))) (by decide) (by decide) (c' := 2) (s' := 3) rfl rfl (by decide) (by decide) e23 (g := (mkF m 288 #[.val (.int p1), .val (.int p2), .val (.int p3), .val (.int p4), .val (.int (1 : Int32)), .val (.ref b1), .val (.ref b5), .val (.int (1 : Int32)), .unset] [(.int (p4 * (31 : Int32))), (.int (6 : Int32)), (.ref b1)])) rfl (by rw [hml]; rfl) (lenOf pd_0_2 rfl) rfl (by show 2 * 0 + _ ≤ _; exact Nat.le_of_eq rfl) (hb hby at_288)
  obtain ⟨hv24, N24q, e24⟩ := hQ24
  have N24 := Fr.app N23 N24q
  rw [f3, if_neg (by decide : ¬ ((6 : Int32) < (1 : Int32)))] at hv24
  subst hv24
  obtain ⟨fs, hr, hrun, hended, hW, hsame⟩ := X24.leave (v := some (.int (1 : Int32))) (fun h => by rw [Bd.returns] at h; cases h)
  refine ⟨_, _, pre0 _ ?_, hrun, hended, _, _, rfl, ?_, ⟨_, rfl⟩, hW, hsame.mono (by decide) (by decide)⟩
  · show Steps p.tables e below (s₁.setTop (mkF m 0 #[.val (.int p1), .val (.int p2), .val (.int p3), .val (.int p4), .unset, .unset, .unset, .unset, .unset] [])) _
    refine own_blk X0 hx bl0_0_3 (own_hb hby bd0_0_3) (pc' := 4) (Ls' := #[.val (.int p1), .val (.int p2), .val (.int p3), .val (.int p4), .unset, .unset, .unset, .unset, .unset]) (st' := [(.int (p1 &&& (7 : Int32)))]) rfl ?_
    show Steps p.tables e below (s₁.setTop (mkF m 4 #[.val (.int p1), .val (.int p2), .val (.int p3), .val (.int p4), .unset, .unset, .unset, .unset, .unset] [(.int (p1 &&& (7 : Int32)))])) _
    rw [hn]
    show Steps p.tables e below (s₁.setTop (mkF m 4 #[.val (.int p1), .val (.int p2), .val (.int p3), .val (.int p4), .unset, .unset, .unset, .unset, .unset] [(.int (1 : Int32))])) _
    refine own_blk X0 hx bl0_4_2 (own_hb hby bd0_4_2) (pc' := 8) (Ls' := #[.val (.int p1), .val (.int p2), .val (.int p3), .val (.int p4), .val (.int (1 : Int32)), .unset, .unset, .unset, .unset]) (st' := [(.int (1 : Int32))]) rfl ?_
    show Steps p.tables e below (s₁.setTop (mkF m 8 #[.val (.int p1), .val (.int p2), .val (.int p3), .val (.int p4), .val (.int (1 : Int32)), .unset, .unset, .unset, .unset] [(.int (1 : Int32))])) _
    refine st1 _ ?_
    show Steps p.tables e below (T1.setTop (mkF m 10 #[.val (.int p1), .val (.int p2), .val (.int p3), .val (.int p4), .val (.int (1 : Int32)), .unset, .unset, .unset, .unset] [(.ref b1)])) _
    refine own_blk X1 hx bl0_10_2 (own_hb hby bd0_10_2) (pc' := 14) (Ls' := #[.val (.int p1), .val (.int p2), .val (.int p3), .val (.int p4), .val (.int (1 : Int32)), .val (.ref b1), .unset, .unset, .unset]) (st' := [(.int (1 : Int32))]) rfl ?_
    show Steps p.tables e below (T1.setTop (mkF m 14 #[.val (.int p1), .val (.int p2), .val (.int p3), .val (.int p4), .val (.int (1 : Int32)), .val (.ref b1), .unset, .unset, .unset] [(.int (1 : Int32))])) _
    refine XS.ifNo X1.here hx rfl (hb hby at_14) rfl ((if0 _ _).trans (tlt (by decide : (0 : Int32) < (1 : Int32))).2.2.2) ?_
    show Steps p.tables e below (T1.setTop (mkF m 17 #[.val (.int p1), .val (.int p2), .val (.int p3), .val (.int p4), .val (.int (1 : Int32)), .val (.ref b1), .unset, .unset, .unset] [])) _
    refine own_blk X1 hx bl0_17_3 (own_hb hby bd0_17_3) (pc' := 21) (Ls' := #[.val (.int p1), .val (.int p2), .val (.int p3), .val (.int p4), .val (.int (1 : Int32)), .val (.ref b1), .unset, .unset, .unset]) (st' := [(.int p2), (.int (0 : Int32)), (.ref b1)]) rfl ?_
    show Steps p.tables e below (T1.setTop (mkF m 21 #[.val (.int p1), .val (.int p2), .val (.int p3), .val (.int p4), .val (.int (1 : Int32)), .val (.ref b1), .unset, .unset, .unset] [(.int p2), (.int (0 : Int32)), (.ref b1)])) _
    refine st3 _ ?_
    show Steps p.tables e below (T3.setTop (mkF m 22 #[.val (.int p1), .val (.int p2), .val (.int p3), .val (.int p4), .val (.int (1 : Int32)), .val (.ref b1), .unset, .unset, .unset] [])) _
    refine own_blk X3 hx bl0_22_2 (own_hb hby bd0_22_2) (pc' := 25) (Ls' := #[.val (.int p1), .val (.int p2), .val (.int p3), .val (.int p4), .val (.int (1 : Int32)), .val (.ref b1), .unset, .unset, .unset]) (st' := [(.int (1 : Int32)), (.int (1 : Int32))]) rfl ?_
    show Steps p.tables e below (T3.setTop (mkF m 25 #[.val (.int p1), .val (.int p2), .val (.int p3), .val (.int p4), .val (.int (1 : Int32)), .val (.ref b1), .unset, .unset, .unset] [(.int (1 : Int32)), (.int (1 : Int32))])) _
    refine XS.icmpYes X3.here hx rfl (pc0 := 25) (pc' := 33) rfl (hb hby at_25) rfl (flt (by decide : ¬ ((1 : Int32) < (1 : Int32)))).2.2.2 (by decide) (by decide) ?_
    show Steps p.tables e below (T3.setTop (mkF m 33 #[.val (.int p1), .val (.int p2), .val (.int p3), .val (.int p4), .val (.int (1 : Int32)), .val (.ref b1), .unset, .unset, .unset] [])) _
    refine own_blk X3 hx bl0_33_2 (own_hb hby bd0_33_2) (pc' := 36) (Ls' := #[.val (.int p1), .val (.int p2), .val (.int p3), .val (.int p4), .val (.int (1 : Int32)), .val (.ref b1), .unset, .unset, .unset]) (st' := [(.int (2 : Int32)), (.int (1 : Int32))]) rfl ?_
    show Steps p.tables e below (T3.setTop (mkF m 36 #[.val (.int p1), .val (.int p2), .val (.int p3), .val (.int p4), .val (.int (1 : Int32)), .val (.ref b1), .unset, .unset, .unset] [(.int (2 : Int32)), (.int (1 : Int32))])) _
    refine XS.icmpYes X3.here hx rfl (pc0 := 36) (pc' := 44) rfl (hb hby at_36) rfl (flt (by decide : ¬ ((2 : Int32) < (1 : Int32)))).2.2.2 (by decide) (by decide) ?_
    show Steps p.tables e below (T3.setTop (mkF m 44 #[.val (.int p1), .val (.int p2), .val (.int p3), .val (.int p4), .val (.int (1 : Int32)), .val (.ref b1), .unset, .unset, .unset] [])) _
    refine own_blk X3 hx bl0_44_2 (own_hb hby bd0_44_2) (pc' := 47) (Ls' := #[.val (.int p1), .val (.int p2), .val (.int p3), .val (.int p4), .val (.int (1 : Int32)), .val (.ref b1), .unset, .unset, .unset]) (st' := [(.int (3 : Int32)), (.int (1 : Int32))]) rfl ?_
    show Steps p.tables e below (T3.setTop (mkF m 47 #[.val (.int p1), .val (.int p2), .val (.int p3), .val (.int p4), .val (.int (1 : Int32)), .val (.ref b1), .unset, .unset, .unset] [(.int (3 : Int32)), (.int (1 : Int32))])) _
    refine XS.icmpYes X3.here hx rfl (pc0 := 47) (pc' := 57) rfl (hb hby at_47) rfl (flt (by decide : ¬ ((3 : Int32) < (1 : Int32)))).2.2.2 (by decide) (by decide) ?_
    show Steps p.tables e below (T3.setTop (mkF m 57 #[.val (.int p1), .val (.int p2), .val (.int p3), .val (.int p4), .val (.int (1 : Int32)), .val (.ref b1), .unset, .unset, .unset] [])) _
    refine own_blk X3 hx bl0_57_2 (own_hb hby bd0_57_2) (pc' := 60) (Ls' := #[.val (.int p1), .val (.int p2), .val (.int p3), .val (.int p4), .val (.int (1 : Int32)), .val (.ref b1), .unset, .unset, .unset]) (st' := [(.int (4 : Int32)), (.int (1 : Int32))]) rfl ?_
    show Steps p.tables e below (T3.setTop (mkF m 60 #[.val (.int p1), .val (.int p2), .val (.int p3), .val (.int p4), .val (.int (1 : Int32)), .val (.ref b1), .unset, .unset, .unset] [(.int (4 : Int32)), (.int (1 : Int32))])) _
    refine XS.icmpYes X3.here hx rfl (pc0 := 60) (pc' := 70) rfl (hb hby at_60) rfl (flt (by decide : ¬ ((4 : Int32) < (1 : Int32)))).2.2.2 (by decide) (by decide) ?_
    show Steps p.tables e below (T3.setTop (mkF m 70 #[.val (.int p1), .val (.int p2), .val (.int p3), .val (.int p4), .val (.int (1 : Int32)), .val (.ref b1), .unset, .unset, .unset] [])) _
    refine own_blk X3 hx bl0_70_2 (own_hb hby bd0_70_2) (pc' := 73) (Ls' := #[.val (.int p1), .val (.int p2), .val (.int p3), .val (.int p4), .val (.int (1 : Int32)), .val (.ref b1), .unset, .unset, .unset]) (st' := [(.int (5 : Int32)), (.int (1 : Int32))]) rfl ?_
    show Steps p.tables e below (T3.setTop (mkF m 73 #[.val (.int p1), .val (.int p2), .val (.int p3), .val (.int p4), .val (.int (1 : Int32)), .val (.ref b1), .unset, .unset, .unset] [(.int (5 : Int32)), (.int (1 : Int32))])) _
    refine XS.icmpYes X3.here hx rfl (pc0 := 73) (pc' := 83) rfl (hb hby at_73) rfl (flt (by decide : ¬ ((5 : Int32) < (1 : Int32)))).2.2.2 (by decide) (by decide) ?_
    show Steps p.tables e below (T3.setTop (mkF m 83 #[.val (.int p1), .val (.int p2), .val (.int p3), .val (.int p4), .val (.int (1 : Int32)), .val (.ref b1), .unset, .unset, .unset] [])) _
    refine own_blk X3 hx bl0_83_2 (own_hb hby bd0_83_2) (pc' := 87) (Ls' := #[.val (.int p1), .val (.int p2), .val (.int p3), .val (.int p4), .val (.int (1 : Int32)), .val (.ref b1), .unset, .unset, .unset]) (st' := [(.int (6 : Int32)), (.int (1 : Int32))]) rfl ?_
    show Steps p.tables e below (T3.setTop (mkF m 87 #[.val (.int p1), .val (.int p2), .val (.int p3), .val (.int p4), .val (.int (1 : Int32)), .val (.ref b1), .unset, .unset, .unset] [(.int (6 : Int32)), (.int (1 : Int32))])) _
    refine XS.icmpYes X3.here hx rfl (pc0 := 87) (pc' := 99) rfl (hb hby at_87) rfl (flt (by decide : ¬ ((6 : Int32) < (1 : Int32)))).2.2.2 (by decide) (by decide) ?_
    show Steps p.tables e below (T3.setTop (mkF m 99 #[.val (.int p1), .val (.int p2), .val (.int p3), .val (.int p4), .val (.int (1 : Int32)), .val (.ref b1), .unset, .unset, .unset] [])) _
    refine own_blk X3 hx bl0_99_1 (own_hb hby bd0_99_1) (pc' := 101) (Ls' := #[.val (.int p1), .val (.int p2), .val (.int p3), .val (.int p4), .val (.int (1 : Int32)), .val (.ref b1), .unset, .unset, .unset]) (st' := [(.ref b1)]) rfl ?_
    show Steps p.tables e below (T3.setTop (mkF m 101 #[.val (.int p1), .val (.int p2), .val (.int p3), .val (.int p4), .val (.int (1 : Int32)), .val (.ref b1), .unset, .unset, .unset] [(.ref b1)])) _
    refine st5 _ ?_
    show Steps p.tables e below (T5.setTop (mkF m 104 #[.val (.int p1), .val (.int p2), .val (.int p3), .val (.int p4), .val (.int (1 : Int32)), .val (.ref b1), .unset, .unset, .unset] [(.ref b5)])) _
    refine own_blk X5 hx bl0_104_2 (own_hb hby bd0_104_2) (pc' := 108) (Ls' := #[.val (.int p1), .val (.int p2), .val (.int p3), .val (.int p4), .val (.int (1 : Int32)), .val (.ref b1), .val (.ref b5), .unset, .unset]) (st' := [(.ref b5)]) rfl ?_
    show Steps p.tables e below (T5.setTop (mkF m 108 #[.val (.int p1), .val (.int p2), .val (.int p3), .val (.int p4), .val (.int (1 : Int32)), .val (.ref b1), .val (.ref b5), .unset, .unset] [(.ref b5)])) _
    refine XS.ifnonnullYes X5.here hx rfl (pc0 := 108) (pc' := 113) rfl (hb hby at_108) rfl (by decide) (by decide) ?_
    show Steps p.tables e below (T5.setTop (mkF m 113 #[.val (.int p1), .val (.int p2), .val (.int p3), .val (.int p4), .val (.int (1 : Int32)), .val (.ref b1), .val (.ref b5), .unset, .unset] [])) _
    refine own_blk X5 hx bl0_113_1 (own_hb hby bd0_113_1) (pc' := 115) (Ls' := #[.val (.int p1), .val (.int p2), .val (.int p3), .val (.int p4), .val (.int (1 : Int32)), .val (.ref b1), .val (.ref b5), .unset, .unset]) (st' := [(.ref b5)]) rfl ?_
    show Steps p.tables e below (T5.setTop (mkF m 115 #[.val (.int p1), .val (.int p2), .val (.int p3), .val (.int p4), .val (.int (1 : Int32)), .val (.ref b1), .val (.ref b5), .unset, .unset] [(.ref b5)])) _
    refine X5.arraylength hx Ar7.1 (State.isArrayOf_alike hZ.alike Ar7.2.1) (g := (mkF m 115 #[.val (.int p1), .val (.int p2), .val (.int p3), .val (.int p4), .val (.int (1 : Int32)), .val (.ref b1), .val (.ref b5), .unset, .unset] [(.ref b5)])) rfl rfl (hb hby at_115) _ ?_
    rw [len_of S7 N7_]
    show Steps p.tables e below (T5.setTop (mkF m 116 #[.val (.int p1), .val (.int p2), .val (.int p3), .val (.int p4), .val (.int (1 : Int32)), .val (.ref b1), .val (.ref b5), .unset, .unset] [(.int (2 : Int32))])) _
    refine own_blk X5 hx bl0_116_3 (own_hb hby bd0_116_3) (pc' := 120) (Ls' := #[.val (.int p1), .val (.int p2), .val (.int p3), .val (.int p4), .val (.int (1 : Int32)), .val (.ref b1), .val (.ref b5), .unset, .unset]) (st' := [(.int (2 : Int32)), (.int (2 : Int32))]) rfl ?_
    show Steps p.tables e below (T5.setTop (mkF m 120 #[.val (.int p1), .val (.int p2), .val (.int p3), .val (.int p4), .val (.int (1 : Int32)), .val (.ref b1), .val (.ref b5), .unset, .unset] [(.int (2 : Int32)), (.int (2 : Int32))])) _
    refine XS.icmpYes X5.here hx rfl (pc0 := 120) (pc' := 125) rfl (hb hby at_120) rfl (teq (by decide : (2 : Int32) = (2 : Int32))).1 (by decide) (by decide) ?_
    show Steps p.tables e below (T5.setTop (mkF m 125 #[.val (.int p1), .val (.int p2), .val (.int p3), .val (.int p4), .val (.int (1 : Int32)), .val (.ref b1), .val (.ref b5), .unset, .unset] [])) _
    refine own_blk X5 hx bl0_125_2 (own_hb hby bd0_125_2) (pc' := 128) (Ls' := #[.val (.int p1), .val (.int p2), .val (.int p3), .val (.int p4), .val (.int (1 : Int32)), .val (.ref b1), .val (.ref b5), .unset, .unset]) (st' := [(.int (0 : Int32)), (.ref b5)]) rfl ?_
    show Steps p.tables e below (T5.setTop (mkF m 128 #[.val (.int p1), .val (.int p2), .val (.int p3), .val (.int p4), .val (.int (1 : Int32)), .val (.ref b1), .val (.ref b5), .unset, .unset] [(.int (0 : Int32)), (.ref b5)])) _
    refine st8 _ ?_
    show Steps p.tables e below (T8.setTop (mkF m 131 #[.val (.int p1), .val (.int p2), .val (.int p3), .val (.int p4), .val (.int (1 : Int32)), .val (.ref b1), .val (.ref b5), .unset, .unset] [(.int (1 : Int32))])) _
    refine XS.ifNo X8.here hx rfl (hb hby at_131) rfl ((if0 _ _).trans (feq (by decide : ¬ ((1 : Int32) = (0 : Int32)))).1) ?_
    show Steps p.tables e below (T8.setTop (mkF m 134 #[.val (.int p1), .val (.int p2), .val (.int p3), .val (.int p4), .val (.int (1 : Int32)), .val (.ref b1), .val (.ref b5), .unset, .unset] [])) _
    refine own_blk X8 hx bl0_134_2 (own_hb hby bd0_134_2) (pc' := 137) (Ls' := #[.val (.int p1), .val (.int p2), .val (.int p3), .val (.int p4), .val (.int (1 : Int32)), .val (.ref b1), .val (.ref b5), .unset, .unset]) (st' := [(.int (1 : Int32)), (.ref b5)]) rfl ?_
    show Steps p.tables e below (T8.setTop (mkF m 137 #[.val (.int p1), .val (.int p2), .val (.int p3), .val (.int p4), .val (.int (1 : Int32)), .val (.ref b1), .val (.ref b5), .unset, .unset] [(.int (1 : Int32)), (.ref b5)])) _
    refine st9 _ ?_
    show Steps p.tables e below (T9.setTop (mkF m 140 #[.val (.int p1), .val (.int p2), .val (.int p3), .val (.int p4), .val (.int (1 : Int32)), .val (.ref b1), .val (.ref b5), .unset, .unset] [(.int (1 : Int32))])) _
    refine XS.ifNo X9.here hx rfl (hb hby at_140) rfl ((if0 _ _).trans (feq (by decide : ¬ ((1 : Int32) = (0 : Int32)))).1) ?_
    show Steps p.tables e below (T9.setTop (mkF m 143 #[.val (.int p1), .val (.int p2), .val (.int p3), .val (.int p4), .val (.int (1 : Int32)), .val (.ref b1), .val (.ref b5), .unset, .unset] [])) _
    refine own_blk X9 hx bl0_143_2 (own_hb hby bd0_143_2) (pc' := 146) (Ls' := #[.val (.int p1), .val (.int p2), .val (.int p3), .val (.int p4), .val (.int (1 : Int32)), .val (.ref b1), .val (.ref b5), .unset, .unset]) (st' := [(.int (2 : Int32)), (.ref b5)]) rfl ?_
    show Steps p.tables e below (T9.setTop (mkF m 146 #[.val (.int p1), .val (.int p2), .val (.int p3), .val (.int p4), .val (.int (1 : Int32)), .val (.ref b1), .val (.ref b5), .unset, .unset] [(.int (2 : Int32)), (.ref b5)])) _
    refine st10 _ ?_
    show Steps p.tables e below (T10.setTop (mkF m 149 #[.val (.int p1), .val (.int p2), .val (.int p3), .val (.int p4), .val (.int (1 : Int32)), .val (.ref b1), .val (.ref b5), .unset, .unset] [(.int (1 : Int32))])) _
    refine XS.ifNo X10.here hx rfl (hb hby at_149) rfl ((if0 _ _).trans (feq (by decide : ¬ ((1 : Int32) = (0 : Int32)))).1) ?_
    show Steps p.tables e below (T10.setTop (mkF m 152 #[.val (.int p1), .val (.int p2), .val (.int p3), .val (.int p4), .val (.int (1 : Int32)), .val (.ref b1), .val (.ref b5), .unset, .unset] [])) _
    refine own_blk X10 hx bl0_152_2 (own_hb hby bd0_152_2) (pc' := 155) (Ls' := #[.val (.int p1), .val (.int p2), .val (.int p3), .val (.int p4), .val (.int (1 : Int32)), .val (.ref b1), .val (.ref b5), .unset, .unset]) (st' := [(.int (3 : Int32)), (.ref b5)]) rfl ?_
    show Steps p.tables e below (T10.setTop (mkF m 155 #[.val (.int p1), .val (.int p2), .val (.int p3), .val (.int p4), .val (.int (1 : Int32)), .val (.ref b1), .val (.ref b5), .unset, .unset] [(.int (3 : Int32)), (.ref b5)])) _
    refine st11 _ ?_
    show Steps p.tables e below (T11.setTop (mkF m 158 #[.val (.int p1), .val (.int p2), .val (.int p3), .val (.int p4), .val (.int (1 : Int32)), .val (.ref b1), .val (.ref b5), .unset, .unset] [(.int (1 : Int32))])) _
    refine XS.ifNo X11.here hx rfl (hb hby at_158) rfl ((if0 _ _).trans (feq (by decide : ¬ ((1 : Int32) = (0 : Int32)))).1) ?_
    show Steps p.tables e below (T11.setTop (mkF m 161 #[.val (.int p1), .val (.int p2), .val (.int p3), .val (.int p4), .val (.int (1 : Int32)), .val (.ref b1), .val (.ref b5), .unset, .unset] [])) _
    refine own_blk X11 hx bl0_161_2 (own_hb hby bd0_161_2) (pc' := 164) (Ls' := #[.val (.int p1), .val (.int p2), .val (.int p3), .val (.int p4), .val (.int (1 : Int32)), .val (.ref b1), .val (.ref b5), .unset, .unset]) (st' := [(.int (4 : Int32)), (.ref b5)]) rfl ?_
    show Steps p.tables e below (T11.setTop (mkF m 164 #[.val (.int p1), .val (.int p2), .val (.int p3), .val (.int p4), .val (.int (1 : Int32)), .val (.ref b1), .val (.ref b5), .unset, .unset] [(.int (4 : Int32)), (.ref b5)])) _
    refine st12 _ ?_
    show Steps p.tables e below (T12.setTop (mkF m 167 #[.val (.int p1), .val (.int p2), .val (.int p3), .val (.int p4), .val (.int (1 : Int32)), .val (.ref b1), .val (.ref b5), .unset, .unset] [(.int (1 : Int32))])) _
    refine XS.ifNo X12.here hx rfl (hb hby at_167) rfl ((if0 _ _).trans (feq (by decide : ¬ ((1 : Int32) = (0 : Int32)))).1) ?_
    show Steps p.tables e below (T12.setTop (mkF m 170 #[.val (.int p1), .val (.int p2), .val (.int p3), .val (.int p4), .val (.int (1 : Int32)), .val (.ref b1), .val (.ref b5), .unset, .unset] [])) _
    refine own_blk X12 hx bl0_170_2 (own_hb hby bd0_170_2) (pc' := 173) (Ls' := #[.val (.int p1), .val (.int p2), .val (.int p3), .val (.int p4), .val (.int (1 : Int32)), .val (.ref b1), .val (.ref b5), .unset, .unset]) (st' := [(.int (5 : Int32)), (.ref b5)]) rfl ?_
    show Steps p.tables e below (T12.setTop (mkF m 173 #[.val (.int p1), .val (.int p2), .val (.int p3), .val (.int p4), .val (.int (1 : Int32)), .val (.ref b1), .val (.ref b5), .unset, .unset] [(.int (5 : Int32)), (.ref b5)])) _
    refine st13 _ ?_
    show Steps p.tables e below (T13.setTop (mkF m 176 #[.val (.int p1), .val (.int p2), .val (.int p3), .val (.int p4), .val (.int (1 : Int32)), .val (.ref b1), .val (.ref b5), .unset, .unset] [(.int (1 : Int32))])) _
    refine XS.ifNo X13.here hx rfl (hb hby at_176) rfl ((if0 _ _).trans (feq (by decide : ¬ ((1 : Int32) = (0 : Int32)))).1) ?_
    show Steps p.tables e below (T13.setTop (mkF m 179 #[.val (.int p1), .val (.int p2), .val (.int p3), .val (.int p4), .val (.int (1 : Int32)), .val (.ref b1), .val (.ref b5), .unset, .unset] [])) _
    refine own_blk X13 hx bl0_179_2 (own_hb hby bd0_179_2) (pc' := 183) (Ls' := #[.val (.int p1), .val (.int p2), .val (.int p3), .val (.int p4), .val (.int (1 : Int32)), .val (.ref b1), .val (.ref b5), .unset, .unset]) (st' := [(.int (6 : Int32)), (.ref b5)]) rfl ?_
    show Steps p.tables e below (T13.setTop (mkF m 183 #[.val (.int p1), .val (.int p2), .val (.int p3), .val (.int p4), .val (.int (1 : Int32)), .val (.ref b1), .val (.ref b5), .unset, .unset] [(.int (6 : Int32)), (.ref b5)])) _
    refine st14 _ ?_
    show Steps p.tables e below (T14.setTop (mkF m 186 #[.val (.int p1), .val (.int p2), .val (.int p3), .val (.int p4), .val (.int (1 : Int32)), .val (.ref b1), .val (.ref b5), .unset, .unset] [(.int (1 : Int32))])) _
    refine XS.ifNo X14.here hx rfl (hb hby at_186) rfl ((if0 _ _).trans (feq (by decide : ¬ ((1 : Int32) = (0 : Int32)))).1) ?_
    show Steps p.tables e below (T14.setTop (mkF m 189 #[.val (.int p1), .val (.int p2), .val (.int p3), .val (.int p4), .val (.int (1 : Int32)), .val (.ref b1), .val (.ref b5), .unset, .unset] [])) _
    refine own_blk X14 hx bl0_189_2 (own_hb hby bd0_189_2) (pc' := 193) (Ls' := #[.val (.int p1), .val (.int p2), .val (.int p3), .val (.int p4), .val (.int (1 : Int32)), .val (.ref b1), .val (.ref b5), .unset, .unset]) (st' := [(.int (7 : Int32)), (.ref b5)]) rfl ?_
    show Steps p.tables e below (T14.setTop (mkF m 193 #[.val (.int p1), .val (.int p2), .val (.int p3), .val (.int p4), .val (.int (1 : Int32)), .val (.ref b1), .val (.ref b5), .unset, .unset] [(.int (7 : Int32)), (.ref b5)])) _
    refine st15 _ ?_
    show Steps p.tables e below (T15.setTop (mkF m 196 #[.val (.int p1), .val (.int p2), .val (.int p3), .val (.int p4), .val (.int (1 : Int32)), .val (.ref b1), .val (.ref b5), .unset, .unset] [(.int (1 : Int32))])) _
    refine XS.ifNo X15.here hx rfl (hb hby at_196) rfl ((if0 _ _).trans (feq (by decide : ¬ ((1 : Int32) = (0 : Int32)))).1) ?_
    show Steps p.tables e below (T15.setTop (mkF m 199 #[.val (.int p1), .val (.int p2), .val (.int p3), .val (.int p4), .val (.int (1 : Int32)), .val (.ref b1), .val (.ref b5), .unset, .unset] [])) _
    refine own_blk X15 hx bl0_199_4 (own_hb hby bd0_199_4) (pc' := 208) (Ls' := #[.val (.int p1), .val (.int p2), .val (.int p3), .val (.int p4), .val (.int (1 : Int32)), .val (.ref b1), .val (.ref b5), .val (.int (1 : Int32)), .unset]) (st' := [(.ref b1)]) rfl ?_
    show Steps p.tables e below (T15.setTop (mkF m 208 #[.val (.int p1), .val (.int p2), .val (.int p3), .val (.int p4), .val (.int (1 : Int32)), .val (.ref b1), .val (.ref b5), .val (.int (1 : Int32)), .unset] [(.ref b1)])) _
    refine X15.arraylength hx (by rw [e15]; exact Ar17.1) (State.isArrayOf_alike hZ.alike Ar17.2.1) (g := (mkF m 208 #[.val (.int p1), .val (.int p2), .val (.int p3), .val (.int p4), .val (.int (1 : Int32)), .val (.ref b1), .val (.ref b5), .val (.int (1 : Int32)), .unset] [(.ref b1)])) rfl rfl (hb hby at_208) _ ?_
    rw [len_of S17 N17_]
    show Steps p.tables e below (T15.setTop (mkF m 209 #[.val (.int p1), .val (.int p2), .val (.int p3), .val (.int p4), .val (.int (1 : Int32)), .val (.ref b1), .val (.ref b5), .val (.int (1 : Int32)), .unset] [(.int (1 : Int32))])) _
    refine own_blk X15 hx bl0_209_1 (own_hb hby bd0_209_1) (pc' := 211) (Ls' := #[.val (.int p1), .val (.int p2), .val (.int p3), .val (.int p4), .val (.int (1 : Int32)), .val (.ref b1), .val (.ref b5), .val (.int (1 : Int32)), .unset]) (st' := [(.int (1 : Int32)), (.int (1 : Int32))]) rfl ?_
    show Steps p.tables e below (T15.setTop (mkF m 211 #[.val (.int p1), .val (.int p2), .val (.int p3), .val (.int p4), .val (.int (1 : Int32)), .val (.ref b1), .val (.ref b5), .val (.int (1 : Int32)), .unset] [(.int (1 : Int32)), (.int (1 : Int32))])) _
    refine XS.icmpNo X15.here hx rfl (hb hby at_211) rfl (teq (by decide : (1 : Int32) = (1 : Int32))).2 ?_
    show Steps p.tables e below (T15.setTop (mkF m 214 #[.val (.int p1), .val (.int p2), .val (.int p3), .val (.int p4), .val (.int (1 : Int32)), .val (.ref b1), .val (.ref b5), .val (.int (1 : Int32)), .unset] [])) _
    refine own_blk X15 hx bl0_214_3 (own_hb hby bd0_214_3) (pc' := 218) (Ls' := #[.val (.int p1), .val (.int p2), .val (.int p3), .val (.int p4), .val (.int (1 : Int32)), .val (.ref b1), .val (.ref b5), .val (.int (1 : Int32)), .unset]) (st' := [(.int p2), (.int (0 : Int32)), (.ref b1)]) rfl ?_
    show Steps p.tables e below (T15.setTop (mkF m 218 #[.val (.int p1), .val (.int p2), .val (.int p3), .val (.int p4), .val (.int (1 : Int32)), .val (.ref b1), .val (.ref b5), .val (.int (1 : Int32)), .unset] [(.int p2), (.int (0 : Int32)), (.ref b1)])) _
    refine st18 _ ?_
    show Steps p.tables e below (T18.setTop (mkF m 221 #[.val (.int p1), .val (.int p2), .val (.int p3), .val (.int p4), .val (.int (1 : Int32)), .val (.ref b1), .val (.ref b5), .val (.int (1 : Int32)), .unset] [(.int (1 : Int32))])) _
    refine XS.ifNo X18.here hx rfl (hb hby at_221) rfl ((if0 _ _).trans (feq (by decide : ¬ ((1 : Int32) = (0 : Int32)))).1) ?_
    show Steps p.tables e below (T18.setTop (mkF m 224 #[.val (.int p1), .val (.int p2), .val (.int p3), .val (.int p4), .val (.int (1 : Int32)), .val (.ref b1), .val (.ref b5), .val (.int (1 : Int32)), .unset] [])) _
    refine own_blk X18 hx bl0_224_3 (own_hb hby bd0_224_3) (pc' := 228) (Ls' := #[.val (.int p1), .val (.int p2), .val (.int p3), .val (.int p4), .val (.int (1 : Int32)), .val (.ref b1), .val (.ref b5), .val (.int (1 : Int32)), .unset]) (st' := [(.int p3), (.int (1 : Int32)), (.ref b1)]) rfl ?_
    show Steps p.tables e below (T18.setTop (mkF m 228 #[.val (.int p1), .val (.int p2), .val (.int p3), .val (.int p4), .val (.int (1 : Int32)), .val (.ref b1), .val (.ref b5), .val (.int (1 : Int32)), .unset] [(.int p3), (.int (1 : Int32)), (.ref b1)])) _
    refine st19 _ ?_
    show Steps p.tables e below (T19.setTop (mkF m 231 #[.val (.int p1), .val (.int p2), .val (.int p3), .val (.int p4), .val (.int (1 : Int32)), .val (.ref b1), .val (.ref b5), .val (.int (1 : Int32)), .unset] [(.int (1 : Int32))])) _
    refine XS.ifNo X19.here hx rfl (hb hby at_231) rfl ((if0 _ _).trans (feq (by decide : ¬ ((1 : Int32) = (0 : Int32)))).1) ?_
    show Steps p.tables e below (T19.setTop (mkF m 234 #[.val (.int p1), .val (.int p2), .val (.int p3), .val (.int p4), .val (.int (1 : Int32)), .val (.ref b1), .val (.ref b5), .val (.int (1 : Int32)), .unset] [])) _
    refine own_blk X19 hx bl0_234_3 (own_hb hby bd0_234_3) (pc' := 238) (Ls' := #[.val (.int p1), .val (.int p2), .val (.int p3), .val (.int p4), .val (.int (1 : Int32)), .val (.ref b1), .val (.ref b5), .val (.int (1 : Int32)), .unset]) (st' := [(.int p4), (.int (2 : Int32)), (.ref b1)]) rfl ?_
    show Steps p.tables e below (T19.setTop (mkF m 238 #[.val (.int p1), .val (.int p2), .val (.int p3), .val (.int p4), .val (.int (1 : Int32)), .val (.ref b1), .val (.ref b5), .val (.int (1 : Int32)), .unset] [(.int p4), (.int (2 : Int32)), (.ref b1)])) _
    refine st20 _ ?_
    show Steps p.tables e below (T20.setTop (mkF m 241 #[.val (.int p1), .val (.int p2), .val (.int p3), .val (.int p4), .val (.int (1 : Int32)), .val (.ref b1), .val (.ref b5), .val (.int (1 : Int32)), .unset] [(.int (1 : Int32))])) _
    refine XS.ifNo X20.here hx rfl (hb hby at_241) rfl ((if0 _ _).trans (feq (by decide : ¬ ((1 : Int32) = (0 : Int32)))).1) ?_
    show Steps p.tables e below (T20.setTop (mkF m 244 #[.val (.int p1), .val (.int p2), .val (.int p3), .val (.int p4), .val (.int (1 : Int32)), .val (.ref b1), .val (.ref b5), .val (.int (1 : Int32)), .unset] [])) _
    refine own_blk X20 hx bl0_244_5 (own_hb hby bd0_244_5) (pc' := 250) (Ls' := #[.val (.int p1), .val (.int p2), .val (.int p3), .val (.int p4), .val (.int (1 : Int32)), .val (.ref b1), .val (.ref b5), .val (.int (1 : Int32)), .unset]) (st' := [(.int (p2 ^^^ p3)), (.int (3 : Int32)), (.ref b1)]) rfl ?_
    show Steps p.tables e below (T20.setTop (mkF m 250 #[.val (.int p1), .val (.int p2), .val (.int p3), .val (.int p4), .val (.int (1 : Int32)), .val (.ref b1), .val (.ref b5), .val (.int (1 : Int32)), .unset] [(.int (p2 ^^^ p3)), (.int (3 : Int32)), (.ref b1)])) _
    refine st21 _ ?_
    show Steps p.tables e below (T21.setTop (mkF m 253 #[.val (.int p1), .val (.int p2), .val (.int p3), .val (.int p4), .val (.int (1 : Int32)), .val (.ref b1), .val (.ref b5), .val (.int (1 : Int32)), .unset] [(.int (1 : Int32))])) _
    refine XS.ifNo X21.here hx rfl (hb hby at_253) rfl ((if0 _ _).trans (feq (by decide : ¬ ((1 : Int32) = (0 : Int32)))).1) ?_
    show Steps p.tables e below (T21.setTop (mkF m 256 #[.val (.int p1), .val (.int p2), .val (.int p3), .val (.int p4), .val (.int (1 : Int32)), .val (.ref b1), .val (.ref b5), .val (.int (1 : Int32)), .unset] [])) _
    refine own_blk X21 hx bl0_256_5 (own_hb hby bd0_256_5) (pc' := 262) (Ls' := #[.val (.int p1), .val (.int p2), .val (.int p3), .val (.int p4), .val (.int (1 : Int32)), .val (.ref b1), .val (.ref b5), .val (.int (1 : Int32)), .unset]) (st' := [(.int (p3 - p4)), (.int (4 : Int32)), (.ref b1)]) rfl ?_
    show Steps p.tables e below (T21.setTop (mkF m 262 #[.val (.int p1), .val (.int p2), .val (.int p3), .val (.int p4), .val (.int (1 : Int32)), .val (.ref b1), .val (.ref b5), .val (.int (1 : Int32)), .unset] [(.int (p3 - p4)), (.int (4 : Int32)), (.ref b1)])) _
    refine st22 _ ?_
    show Steps p.tables e below (T22.setTop (mkF m 265 #[.val (.int p1), .val (.int p2), .val (.int p3), .val (.int p4), .val (.int (1 : Int32)), .val (.ref b1), .val (.ref b5), .val (.int (1 : Int32)), .unset] [(.int (1 : Int32))])) _
    refine XS.ifNo X22.here hx rfl (hb hby at_265) rfl ((if0 _ _).trans (feq (by decide : ¬ ((1 : Int32) = (0 : Int32)))).1) ?_
    show Steps p.tables e below (T22.setTop (mkF m 268 #[.val (.int p1), .val (.int p2), .val (.int p3), .val (.int p4), .val (.int (1 : Int32)), .val (.ref b1), .val (.ref b5), .val (.int (1 : Int32)), .unset] [])) _
    refine own_blk X22 hx bl0_268_5 (own_hb hby bd0_268_5) (pc' := 274) (Ls' := #[.val (.int p1), .val (.int p2), .val (.int p3), .val (.int p4), .val (.int (1 : Int32)), .val (.ref b1), .val (.ref b5), .val (.int (1 : Int32)), .unset]) (st' := [(.int (p2 ^^^ (-1 : Int32))), (.int (5 : Int32)), (.ref b1)]) rfl ?_
    show Steps p.tables e below (T22.setTop (mkF m 274 #[.val (.int p1), .val (.int p2), .val (.int p3), .val (.int p4), .val (.int (1 : Int32)), .val (.ref b1), .val (.ref b5), .val (.int (1 : Int32)), .unset] [(.int (p2 ^^^ (-1 : Int32))), (.int (5 : Int32)), (.ref b1)])) _
    refine st23 _ ?_
    show Steps p.tables e below (T23.setTop (mkF m 277 #[.val (.int p1), .val (.int p2), .val (.int p3), .val (.int p4), .val (.int (1 : Int32)), .val (.ref b1), .val (.ref b5), .val (.int (1 : Int32)), .unset] [(.int (1 : Int32))])) _
    refine XS.ifNo X23.here hx rfl (hb hby at_277) rfl ((if0 _ _).trans (feq (by decide : ¬ ((1 : Int32) = (0 : Int32)))).1) ?_
    show Steps p.tables e below (T23.setTop (mkF m 280 #[.val (.int p1), .val (.int p2), .val (.int p3), .val (.int p4), .val (.int (1 : Int32)), .val (.ref b1), .val (.ref b5), .val (.int (1 : Int32)), .unset] [])) _
    refine own_blk X23 hx bl0_280_5 (own_hb hby bd0_280_5) (pc' := 288) (Ls' := #[.val (.int p1), .val (.int p2), .val (.int p3), .val (.int p4), .val (.int (1 : Int32)), .val (.ref b1), .val (.ref b5), .val (.int (1 : Int32)), .unset]) (st' := [(.int (p4 * (31 : Int32))), (.int (6 : Int32)), (.ref b1)]) rfl ?_
    show Steps p.tables e below (T23.setTop (mkF m 288 #[.val (.int p1), .val (.int p2), .val (.int p3), .val (.int p4), .val (.int (1 : Int32)), .val (.ref b1), .val (.ref b5), .val (.int (1 : Int32)), .unset] [(.int (p4 * (31 : Int32))), (.int (6 : Int32)), (.ref b1)])) _
    refine st24 _ ?_
    show Steps p.tables e below (T24.setTop (mkF m 291 #[.val (.int p1), .val (.int p2), .val (.int p3), .val (.int p4), .val (.int (1 : Int32)), .val (.ref b1), .val (.ref b5), .val (.int (1 : Int32)), .unset] [(.int (1 : Int32))])) _
    refine XS.ifNo X24.here hx rfl (hb hby at_291) rfl ((if0 _ _).trans (feq (by decide : ¬ ((1 : Int32) = (0 : Int32)))).1) ?_
    show Steps p.tables e below (T24.setTop (mkF m 294 #[.val (.int p1), .val (.int p2), .val (.int p3), .val (.int p4), .val (.int (1 : Int32)), .val (.ref b1), .val (.ref b5), .val (.int (1 : Int32)), .unset] [])) _
    refine own_blk X24 hx bl0_294_4 (own_hb hby bd0_294_4) (pc' := 303) (Ls' := #[.val (.int p1), .val (.int p2), .val (.int p3), .val (.int p4), .val (.int (1 : Int32)), .val (.ref b1), .val (.ref b5), .val (.int (1 : Int32)), .val (.int (1 : Int32))]) (st' := [(.int (1 : Int32))]) rfl ?_
    show Steps p.tables e below (T24.setTop (mkF m 303 #[.val (.int p1), .val (.int p2), .val (.int p3), .val (.int p4), .val (.int (1 : Int32)), .val (.ref b1), .val (.ref b5), .val (.int (1 : Int32)), .val (.int (1 : Int32))] [(.int (1 : Int32))])) _
    refine XS.ifNo X24.here hx rfl (hb hby at_303) rfl ((if0 _ _).trans (feq (by decide : ¬ ((1 : Int32) = (0 : Int32)))).1) ?_
    show Steps p.tables e below (T24.setTop (mkF m 306 #[.val (.int p1), .val (.int p2), .val (.int p3), .val (.int p4), .val (.int (1 : Int32)), .val (.ref b1), .val (.ref b5), .val (.int (1 : Int32)), .val (.int (1 : Int32))] [])) _
    refine own_blk X24 hx bl0_306_1 (own_hb hby bd0_306_1) (pc' := 308) (Ls' := #[.val (.int p1), .val (.int p2), .val (.int p3), .val (.int p4), .val (.int (1 : Int32)), .val (.ref b1), .val (.ref b5), .val (.int (1 : Int32)), .val (.int (1 : Int32))]) (st' := [(.int (1 : Int32))]) rfl ?_
    show Steps p.tables e below (T24.setTop (mkF m 308 #[.val (.int p1), .val (.int p2), .val (.int p3), .val (.int p4), .val (.int (1 : Int32)), .val (.ref b1), .val (.ref b5), .val (.int (1 : Int32)), .val (.int (1 : Int32))] [(.int (1 : Int32))])) _
    refine XS.ifNo X24.here hx rfl (hb hby at_308) rfl ((if0 _ _).trans (feq (by decide : ¬ ((1 : Int32) = (0 : Int32)))).1) ?_
    show Steps p.tables e below (T24.setTop (mkF m 311 #[.val (.int p1), .val (.int p2), .val (.int p3), .val (.int p4), .val (.int (1 : Int32)), .val (.ref b1), .val (.ref b5), .val (.int (1 : Int32)), .val (.int (1 : Int32))] [])) _
    refine own_blk X24 hx bl0_311_2 (own_hb hby bd0_311_2) (pc' := 316) (Ls' := #[.val (.int p1), .val (.int p2), .val (.int p3), .val (.int p4), .val (.int (1 : Int32)), .val (.ref b1), .val (.ref b5), .val (.int (1 : Int32)), .val (.int (1 : Int32))]) (st' := [(.int (1 : Int32))]) rfl ?_
    show Steps p.tables e below (T24.setTop (mkF m 316 #[.val (.int p1), .val (.int p2), .val (.int p3), .val (.int p4), .val (.int (1 : Int32)), .val (.ref b1), .val (.ref b5), .val (.int (1 : Int32)), .val (.int (1 : Int32))] [(.int (1 : Int32))])) _
    exact retN X24 hx (t := .boolean) Bd.returns (by simp) (hb hby at_316) hr
  · show Q0_1 Z p1 p2 p3 p4 h0 n0 _ T24.heap _
    rw [e24]
    exact ⟨by rw [f0_1], N24⟩

def Q1_2 (Z : State) (a1 : Addr) (k_a1 : ClassId) (vs1 : List Value) (h0 : Heap) (n0 : Nat) (v : Option Value) (h : Heap) (L : List Loc) : Prop := ∃ (b : Addr) (k : ClassId), v = some (.ref b) ∧ Fr n0 L ∧ Keep h0 h [] ∧ n0 ≤ b ∧ h0.size ≤ b ∧ Arv Z h b k .int (3 : Int32) [(.int (0 : Int32)), (.int (1 : Int32)), (.int (2 : Int32))] (.int (0 : Int32))
set_option maxRecDepth 65536 in
set_option maxHeartbeats 40000000 in
theorem rm1_2 (l : Launch) (Z : State) (a0 : Array Value) (hw : ∀ d ∈ tables_1, d.before a0 Z = true) (ws : List Jvm.Cond) (a1 : Addr) (k_a1 : ClassId) (vs1 : List Value) (h0 : Heap) (n0 : Nat) (Z0 : n0 ≤ h0.size) (V_a1 : Arv Z h0 a1 k_a1 .int (2 : Int32) vs1 (.int (0 : Int32))) :
    MetFree l (⟨"com/example/varel/varel/text/EditDistance", "start", "([I)[I"⟩ : MethodName) (head1 (Jvm.Cond.code (⟨"com/example/varel/varel/text/EditDistance", "start", "([I)[I"⟩ : MethodName) prog_54_method_4_code 3 (some (.array .int)) :: ws) ({ frames := 0, cells := 1, slots := 3, locals := 0 } : Room)) (fun a U => a = #[(.ref a1)] ∧ Z.Warmed39 U.vm ∧ U.heap = h0) (fun _ _ _ _ _ => True) (fun _ U o U' => ∃ v L, o = .returned v ∧ Q1_2 Z a1 k_a1 vs1 h0 n0 v U'.heap L ∧ FrameEnd U o U' L ({ frames := 0, cells := 1, slots := 3, locals := 0 } : Room).cells ({ frames := 0, cells := 1, slots := 3, locals := 0 } : Room).slots) := by
  refine MetFree.of_bodySF (plainFor_of_name pn_1) hisR ?_
  intro p e s m args below meth c s₁ Bd hml0 hP hK
  obtain ⟨rfl, hZ, hh⟩ := hP
  have hx := Bd.exec
  have hby := Bd.bytes
  have hml : c.maxLocals = 3 := hml0
  have hown : s.vm.findClass "com/example/varel/varel/text/EditDistance" = some m.cls := findClass_of_methodNamed Bd.named
  have hnm := (name_of_methodNamed Bd.named Bd.method).1
  have X0 : Stand p l e ({ frames := 0, cells := 1, slots := 3, locals := 0 } : Room) s m #[(.ref a1)] below meth c s₁ [] 0 0 := Stand.of_body Bd
  have e0 : s₁.heap = h0 := by rw [← hh, Bd.state]; rfl
  have N0 := Fr.nil n0
  have pre0 : ∀ t, Steps p.tables e below (s₁.setTop (mkF m 0 #[.val (.ref a1), .unset, .unset] [])) t → Steps p.tables e below (s₁.setTop (entryFrame m #[(.ref a1)] 3)) t := fun t k => castTop (ef_1 m a1) k
  obtain ⟨cl1, Ar1, qq1, S1, N1_, H1, G1⟩ := id V_a1
  obtain ⟨T2, h2, k2, X2, e2, E2, A2, st2⟩ := newP X0 hx hZ (hw _ (List.mem_of_getElem? (i := 0) rfl)) e0 (g := (mkF m 4 #[.val (.ref a1), .unset, .unset] [(.int (3 : Int32))])) rfl (hb hby d1_4) rfl (by decide) (cap := 3) (by decide) (by decide) (by decide) (by decide)
  obtain ⟨b2, g2⟩ : ∃ z, z = h0.size := ⟨_, rfl⟩
  rw [← g2] at A2 st2
  have ne_a1_b2 : a1 ≠ b2 := Nat.ne_of_lt (Nat.lt_of_lt_of_le V_a1.lt (Nat.le_of_eq g2.symm))
  have g_b2 : n0 ≤ b2 := Nat.le_trans Z0 (Nat.le_of_eq g2.symm)
  have sz_b2 : h0.size ≤ b2 := Nat.le_trans (Keep.refl h0 []).1 (Nat.le_of_eq g2.symm)
  have zs3 : n0 ≤ h2.size := Nat.le_trans Z0 E2.1
  have kp4 : Keep h0 h2 [] := (Keep.refl h0 []).ext E2
  have V_b2 : Arv Z h2 b2 k2 .int (3 : Int32) [(.int (0 : Int32)), (.int (0 : Int32)), (.int (0 : Int32))] (.int (0 : Int32)) := (Arv.new A2 (by decide)).pad (pad_rep [] (.int (0 : Int32)) 3)
  have fa5 : Arv Z h2 a1 k_a1 .int (2 : Int32) vs1 (.int (0 : Int32)) := (V_a1.ext E2)
  obtain ⟨cl6, Ar6, qq6, S6, N6_, H6, G6⟩ := id fa5
  obtain ⟨cl7, Ar7, qq7, S7, N7_, H7, G7⟩ := id V_b2
  have hin7 : ¬ ((0 : Int32) < 0 ∨ cl7.slots.size ≤ ((0 : Int32)).toNatClampNeg) := inb_of S7 ⟨by decide, by decide⟩
  obtain ⟨T7, h7, X7, e7, W7, st7⟩ := stI X2 hx hZ e2 Ar7 (j := (0 : Int32)) hin7 (g := (mkF m 18 #[.val (.ref a1), .val (.ref b2), .val (.int (0 : Int32))] [(.int (0 : Int32)), (.int (0 : Int32)), (.ref b2)])) rfl rfl (hb hby d1_18)
  have V7 : Arv Z h7 b2 k2 .int (3 : Int32) [(.int (0 : Int32)), (.int (0 : Int32)), (.int (0 : Int32))] (.int (0 : Int32)) := Arv.set Ar7 qq7 S7 N7_ H7 G7 rfl W7 0 rfl (Nat.le_of_ble_eq_true rfl)
  have zs8 : n0 ≤ h7.size := Nat.le_trans zs3 (Keep.of_wr W7).1
  have kp9 : Keep h0 h7 [] := kp4.wr W7 (Or.inr sz_b2)
  have N7 := Fr.snoc X7 N0 g_b2
  have fa10 : Arv Z h7 a1 k_a1 .int (2 : Int32) vs1 (.int (0 : Int32)) := (fa5.other W7 ne_a1_b2)
  obtain ⟨cl11, Ar11, qq11, S11, N11_, H11, G11⟩ := id fa10
  obtain ⟨cl12, Ar12, qq12, S12, N12_, H12, G12⟩ := id V7
  have hin12 : ¬ ((1 : Int32) < 0 ∨ cl12.slots.size ≤ ((1 : Int32)).toNatClampNeg) := inb_of S12 ⟨by decide, by decide⟩
  obtain ⟨T12, h12, X12, e12, W12, st12⟩ := stI X7 hx hZ e7 Ar12 (j := (1 : Int32)) hin12 (g := (mkF m 18 #[.val (.ref a1), .val (.ref b2), .val (.int (1 : Int32))] [(.int (1 : Int32)), (.int (1 : Int32)), (.ref b2)])) rfl rfl (hb hby d1_18)
  have V12 : Arv Z h12 b2 k2 .int (3 : Int32) [(.int (0 : Int32)), (.int (1 : Int32)), (.int (0 : Int32))] (.int (0 : Int32)) := Arv.set Ar12 qq12 S12 N12_ H12 G12 rfl W12 1 rfl (Nat.le_of_ble_eq_true rfl)
  have zs13 : n0 ≤ h12.size := Nat.le_trans zs8 (Keep.of_wr W12).1
  have kp14 : Keep h0 h12 [] := kp9.wr W12 (Or.inr sz_b2)
  have N12 := Fr.snoc X12 N7 g_b2
  have fa15 : Arv Z h12 a1 k_a1 .int (2 : Int32) vs1 (.int (0 : Int32)) := (fa10.other W12 ne_a1_b2)
  obtain ⟨cl16, Ar16, qq16, S16, N16_, H16, G16⟩ := id fa15
  obtain ⟨cl17, Ar17, qq17, S17, N17_, H17, G17⟩ := id V12
  have hin17 : ¬ ((2 : Int32) < 0 ∨ cl17.slots.size ≤ ((2 : Int32)).toNatClampNeg) := inb_of S17 ⟨by decide, by decide⟩
  obtain ⟨T17, h17, X17, e17, W17, st17⟩ := stI X12 hx hZ e12 Ar17 (j := (2 : Int32)) hin17 (g := (mkF m 18 #[.val (.ref a1), .val (.ref b2), .val (.int (2 : Int32))] [(.int (2 : Int32)), (.int (2 : Int32)), (.ref b2)])) rfl rfl (hb hby d1_18)
  have V17 : Arv Z h17 b2 k2 .int (3 : Int32) [(.int (0 : Int32)), (.int (1 : Int32)), (.int (2 : Int32))] (.int (0 : Int32)) := Arv.set Ar17 qq17 S17 N17_ H17 G17 rfl W17 2 rfl (Nat.le_of_ble_eq_true rfl)
  have zs18 : n0 ≤ h17.size := Nat.le_trans zs13 (Keep.of_wr W17).1
  have kp19 : Keep h0 h17 [] := kp14.wr W17 (Or.inr sz_b2)
  have N17 := Fr.snoc X17 N12 g_b2
  have fa20 : Arv Z h17 a1 k_a1 .int (2 : Int32) vs1 (.int (0 : Int32)) := (fa15.other W17 ne_a1_b2)
  obtain ⟨cl21, Ar21, qq21, S21, N21_, H21, G21⟩ := id fa20
  obtain ⟨fs, hr, hrun, hended, hW, hsame⟩ := X17.leave (v := some (.ref b2)) (fun h => by rw [Bd.returns] at h; cases h)
  refine ⟨_, _, pre0 _ ?_, hrun, hended, _, _, rfl, ?_, ⟨_, rfl⟩, hW, hsame.mono (by decide) (by decide)⟩
  · show Steps p.tables e below (s₁.setTop (mkF m 0 #[.val (.ref a1), .unset, .unset] [])) _
    refine own_blk X0 hx bl1_0_1 (own_hb hby bd1_0_1) (pc' := 1) (Ls' := #[.val (.ref a1), .unset, .unset]) (st' := [(.ref a1)]) rfl ?_
    show Steps p.tables e below (s₁.setTop (mkF m 1 #[.val (.ref a1), .unset, .unset] [(.ref a1)])) _
    refine X0.arraylength hx (by rw [e0]; exact Ar1.1) (State.isArrayOf_alike hZ.alike Ar1.2.1) (g := (mkF m 1 #[.val (.ref a1), .unset, .unset] [(.ref a1)])) rfl rfl (hb hby d1_1) _ ?_
    rw [len_of S1 N1_]
    show Steps p.tables e below (s₁.setTop (mkF m 2 #[.val (.ref a1), .unset, .unset] [(.int (2 : Int32))])) _
    refine own_blk X0 hx bl1_2_2 (own_hb hby bd1_2_2) (pc' := 4) (Ls' := #[.val (.ref a1), .unset, .unset]) (st' := [(.int (3 : Int32))]) rfl ?_
    show Steps p.tables e below (s₁.setTop (mkF m 4 #[.val (.ref a1), .unset, .unset] [(.int (3 : Int32))])) _
    refine st2 _ ?_
    show Steps p.tables e below (T2.setTop (mkF m 6 #[.val (.ref a1), .unset, .unset] [(.ref b2)])) _
    refine own_blk X2 hx bl1_6_5 (own_hb hby bd1_6_5) (pc' := 11) (Ls' := #[.val (.ref a1), .val (.ref b2), .val (.int (0 : Int32))]) (st' := [(.ref a1), (.int (0 : Int32))]) rfl ?_
    show Steps p.tables e below (T2.setTop (mkF m 11 #[.val (.ref a1), .val (.ref b2), .val (.int (0 : Int32))] [(.ref a1), (.int (0 : Int32))])) _
    refine X2.arraylength hx (by rw [e2]; exact Ar6.1) (State.isArrayOf_alike hZ.alike Ar6.2.1) (g := (mkF m 11 #[.val (.ref a1), .val (.ref b2), .val (.int (0 : Int32))] [(.ref a1), (.int (0 : Int32))])) rfl rfl (hb hby d1_11) _ ?_
    rw [len_of S6 N6_]
    show Steps p.tables e below (T2.setTop (mkF m 12 #[.val (.ref a1), .val (.ref b2), .val (.int (0 : Int32))] [(.int (2 : Int32)), (.int (0 : Int32))])) _
    refine XS.icmpNo X2.here hx rfl (hb hby d1_12) rfl (flt (by decide : ¬ ((2 : Int32) < (0 : Int32)))).2.2.1 ?_
    show Steps p.tables e below (T2.setTop (mkF m 15 #[.val (.ref a1), .val (.ref b2), .val (.int (0 : Int32))] [])) _
    refine own_blk X2 hx bl1_15_3 (own_hb hby bd1_15_3) (pc' := 18) (Ls' := #[.val (.ref a1), .val (.ref b2), .val (.int (0 : Int32))]) (st' := [(.int (0 : Int32)), (.int (0 : Int32)), (.ref b2)]) rfl ?_
    show Steps p.tables e below (T2.setTop (mkF m 18 #[.val (.ref a1), .val (.ref b2), .val (.int (0 : Int32))] [(.int (0 : Int32)), (.int (0 : Int32)), (.ref b2)])) _
    refine st7 _ ?_
    show Steps p.tables e below (T7.setTop (mkF m 19 #[.val (.ref a1), .val (.ref b2), .val (.int (0 : Int32))] [])) _
    refine own_blk X7 hx bl1_19_4 (own_hb hby bd1_19_4) (pc' := 11) (Ls' := #[.val (.ref a1), .val (.ref b2), .val (.int (1 : Int32))]) (st' := [(.ref a1), (.int (1 : Int32))]) rfl ?_
    show Steps p.tables e below (T7.setTop (mkF m 11 #[.val (.ref a1), .val (.ref b2), .val (.int (1 : Int32))] [(.ref a1), (.int (1 : Int32))])) _
    refine X7.arraylength hx (by rw [e7]; exact Ar11.1) (State.isArrayOf_alike hZ.alike Ar11.2.1) (g := (mkF m 11 #[.val (.ref a1), .val (.ref b2), .val (.int (1 : Int32))] [(.ref a1), (.int (1 : Int32))])) rfl rfl (hb hby d1_11) _ ?_
    rw [len_of S11 N11_]
    show Steps p.tables e below (T7.setTop (mkF m 12 #[.val (.ref a1), .val (.ref b2), .val (.int (1 : Int32))] [(.int (2 : Int32)), (.int (1 : Int32))])) _
    refine XS.icmpNo X7.here hx rfl (hb hby d1_12) rfl (flt (by decide : ¬ ((2 : Int32) < (1 : Int32)))).2.2.1 ?_
    show Steps p.tables e below (T7.setTop (mkF m 15 #[.val (.ref a1), .val (.ref b2), .val (.int (1 : Int32))] [])) _
    refine own_blk X7 hx bl1_15_3 (own_hb hby bd1_15_3) (pc' := 18) (Ls' := #[.val (.ref a1), .val (.ref b2), .val (.int (1 : Int32))]) (st' := [(.int (1 : Int32)), (.int (1 : Int32)), (.ref b2)]) rfl ?_
    show Steps p.tables e below (T7.setTop (mkF m 18 #[.val (.ref a1), .val (.ref b2), .val (.int (1 : Int32))] [(.int (1 : Int32)), (.int (1 : Int32)), (.ref b2)])) _
    refine st12 _ ?_
    show Steps p.tables e below (T12.setTop (mkF m 19 #[.val (.ref a1), .val (.ref b2), .val (.int (1 : Int32))] [])) _
    refine own_blk X12 hx bl1_19_4 (own_hb hby bd1_19_4) (pc' := 11) (Ls' := #[.val (.ref a1), .val (.ref b2), .val (.int (2 : Int32))]) (st' := [(.ref a1), (.int (2 : Int32))]) rfl ?_
    show Steps p.tables e below (T12.setTop (mkF m 11 #[.val (.ref a1), .val (.ref b2), .val (.int (2 : Int32))] [(.ref a1), (.int (2 : Int32))])) _
    refine X12.arraylength hx (by rw [e12]; exact Ar16.1) (State.isArrayOf_alike hZ.alike Ar16.2.1) (g := (mkF m 11 #[.val (.ref a1), .val (.ref b2), .val (.int (2 : Int32))] [(.ref a1), (.int (2 : Int32))])) rfl rfl (hb hby d1_11) _ ?_
    rw [len_of S16 N16_]
    show Steps p.tables e below (T12.setTop (mkF m 12 #[.val (.ref a1), .val (.ref b2), .val (.int (2 : Int32))] [(.int (2 : Int32)), (.int (2 : Int32))])) _
    refine XS.icmpNo X12.here hx rfl (hb hby d1_12) rfl (flt (by decide : ¬ ((2 : Int32) < (2 : Int32)))).2.2.1 ?_
    show Steps p.tables e below (T12.setTop (mkF m 15 #[.val (.ref a1), .val (.ref b2), .val (.int (2 : Int32))] [])) _
    refine own_blk X12 hx bl1_15_3 (own_hb hby bd1_15_3) (pc' := 18) (Ls' := #[.val (.ref a1), .val (.ref b2), .val (.int (2 : Int32))]) (st' := [(.int (2 : Int32)), (.int (2 : Int32)), (.ref b2)]) rfl ?_
    show Steps p.tables e below (T12.setTop (mkF m 18 #[.val (.ref a1), .val (.ref b2), .val (.int (2 : Int32))] [(.int (2 : Int32)), (.int (2 : Int32)), (.ref b2)])) _
    refine st17 _ ?_
    show Steps p.tables e below (T17.setTop (mkF m 19 #[.val (.ref a1), .val (.ref b2), .val (.int (2 : Int32))] [])) _
    refine own_blk X17 hx bl1_19_4 (own_hb hby bd1_19_4) (pc' := 11) (Ls' := #[.val (.ref a1), .val (.ref b2), .val (.int (3 : Int32))]) (st' := [(.ref a1), (.int (3 : Int32))]) rfl ?_
    show Steps p.tables e below (T17.setTop (mkF m 11 #[.val (.ref a1), .val (.ref b2), .val (.int (3 : Int32))] [(.ref a1), (.int (3 : Int32))])) _
    refine X17.arraylength hx (by rw [e17]; exact Ar21.1) (State.isArrayOf_alike hZ.alike Ar21.2.1) (g := (mkF m 11 #[.val (.ref a1), .val (.ref b2), .val (.int (3 : Int32))] [(.ref a1), (.int (3 : Int32))])) rfl rfl (hb hby d1_11) _ ?_
    rw [len_of S21 N21_]
    show Steps p.tables e below (T17.setTop (mkF m 12 #[.val (.ref a1), .val (.ref b2), .val (.int (3 : Int32))] [(.int (2 : Int32)), (.int (3 : Int32))])) _
    refine XS.icmpYes X17.here hx rfl (pc0 := 12) (pc' := 25) rfl (hb hby d1_12) rfl (tlt (by decide : (2 : Int32) < (3 : Int32))).2.2.1 (by decide) (by decide) ?_
    show Steps p.tables e below (T17.setTop (mkF m 25 #[.val (.ref a1), .val (.ref b2), .val (.int (3 : Int32))] [])) _
    refine own_blk X17 hx bl1_25_1 (own_hb hby bd1_25_1) (pc' := 26) (Ls' := #[.val (.ref a1), .val (.ref b2), .val (.int (3 : Int32))]) (st' := [(.ref b2)]) rfl ?_
    show Steps p.tables e below (T17.setTop (mkF m 26 #[.val (.ref a1), .val (.ref b2), .val (.int (3 : Int32))] [(.ref b2)])) _
    jvm_step X17.here [X17.here.top, hx, (hb hby d1_26), X17.method', Bd.returns, Value.isRef, FieldType.isReference]
    first | (intro acts; rw [hr _ acts rfl rfl rfl]) | rw [hr _ _ rfl rfl rfl]
    exact Steps.refl _
  · show Q1_2 Z a1 k_a1 vs1 h0 n0 _ T17.heap _
    rw [e17]
    exact ⟨b2, k2, rfl, N17, kp19, g_b2, sz_b2, V17⟩
def bl0_28_3 : List (Nat × Instr × Nat) := [(28, .aload 5, 2), (30, .iconst 1, 1), (31, .iload_n 2, 1)]
theorem bd0_28_3 : own_dec code bl0_28_3 = true := by decide +kernel

def f0_2 (p1 : Int32) (p2 : Int32) (p3 : Int32) (p4 : Int32) : Int32 := (1 : Int32)
def Q0_2 (Z : State) (p1 : Int32) (p2 : Int32) (p3 : Int32) (p4 : Int32) (h0 : Heap) (n0 : Nat) (v : Option Value) (h : Heap) (L : List Loc) : Prop := v = some (.int (f0_2 p1 p2 p3 p4)) ∧ Fr n0 L
set_option maxRecDepth 65536 in
set_option maxHeartbeats 40000000 in
theorem rm0_2 (l : Launch) (Z : State) (a0 : Array Value) (hw : ∀ d ∈ tables_1, d.before a0 Z = true) (ws : List Jvm.Cond) (p1 : Int32) (p2 : Int32) (p3 : Int32) (p4 : Int32) (h0 : Heap) (n0 : Nat) (Z0 : n0 ≤ h0.size) (hn : (p1 &&& (7 : Int32)) = (2 : Int32)) :
    MetFree l x (head1 (Jvm.Cond.code x code maxLocals ret :: ws) room_1) (fun a U => a = #[(.int p1), (.int p2), (.int p3), (.int p4)] ∧ Z.Warmed39 U.vm ∧ U.heap = h0) (fun _ _ _ _ _ => True) (fun _ U o U' => ∃ v L, o = .returned v ∧ Q0_2 Z p1 p2 p3 p4 h0 n0 v U'.heap L ∧ FrameEnd U o U' L room_1.cells room_1.slots) := by
  refine MetFree.of_bodySF (plainFor_of_name pn_0) hisR ?_
  intro p e s m args below meth c s₁ Bd hml0 hP hK
  obtain ⟨rfl, hZ, hh⟩ := hP
  have hx := Bd.exec
  have hby := Bd.bytes
  have hml : c.maxLocals = 9 := hml0
  have hown : s.vm.findClass "com/example/varel/varel/text/EditDistanceStartPinLaw" = some m.cls := findClass_of_methodNamed Bd.named
  have hnm := (name_of_methodNamed Bd.named Bd.method).1
  have X0 : Stand p l e room_1 s m #[(.int p1), (.int p2), (.int p3), (.int p4)] below meth c s₁ [] 0 0 := Stand.of_body Bd
  have e0 : s₁.heap = h0 := by rw [← hh, Bd.state]; rfl
  have N0 := Fr.nil n0
  have pre0 : ∀ t, Steps p.tables e below (s₁.setTop (mkF m 0 #[.val (.int p1), .val (.int p2), .val (.int p3), .val (.int p4), .unset, .unset, .unset, .unset, .unset] [])) t → Steps p.tables e below (s₁.setTop (entryFrame m #[(.int p1), (.int p2), (.int p3), (.int p4)] maxLocals)) t := fun t k => castTop (ef_0 m p1 p2 p3 p4) k
  obtain ⟨T1, h1, k1, X1, e1, E1, A1, st1⟩ := newP X0 hx hZ (hw _ (List.mem_of_getElem? (i := 0) rfl)) e0 (g := (mkF m 8 #[.val (.int p1), .val (.int p2), .val (.int p3), .val (.int p4), .val (.int (2 : Int32)), .unset, .unset, .unset, .unset] [(.int (2 : Int32))])) rfl (hb hby at_8) rfl (by decide) (cap := 2) (by decide) (by decide) (by decide) (by decide)
  obtain ⟨b1, g1⟩ : ∃ z, z = h0.size := ⟨_, rfl⟩
  rw [← g1] at A1 st1
  have g_b1 : n0 ≤ b1 := Nat.le_trans Z0 (Nat.le_of_eq g1.symm)
  have zs2 : n0 ≤ h1.size := Nat.le_trans Z0 E1.1
  have V_b1 : Arv Z h1 b1 k1 .int (2 : Int32) [(.int (0 : Int32)), (.int (0 : Int32))] (.int (0 : Int32)) := (Arv.new A1 (by decide)).pad (pad_rep [] (.int (0 : Int32)) 2)
  obtain ⟨cl3, Ar3, qq3, S3, N3_, H3, G3⟩ := id V_b1
  have hin3 : ¬ ((0 : Int32) < 0 ∨ cl3.slots.size ≤ ((0 : Int32)).toNatClampNeg) := inb_of S3 ⟨by decide, by decide⟩
  obtain ⟨T3, h3, X3, e3, W3, st3⟩ := stI X1 hx hZ e1 Ar3 (j := (0 : Int32)) hin3 (g := (mkF m 21 #[.val (.int p1), .val (.int p2), .val (.int p3), .val (.int p4), .val (.int (2 : Int32)), .val (.ref b1), .unset, .unset, .unset] [(.int p2), (.int (0 : Int32)), (.ref b1)])) rfl rfl (hb hby at_21)
  have V3 : Arv Z h3 b1 k1 .int (2 : Int32) [(.int p2), (.int (0 : Int32))] (.int (0 : Int32)) := Arv.set Ar3 qq3 S3 N3_ H3 G3 rfl W3 0 rfl (Nat.le_of_ble_eq_true rfl)
  have zs4 : n0 ≤ h3.size := Nat.le_trans zs2 (Keep.of_wr W3).1
  have N3 := Fr.snoc X3 N0 g_b1
  obtain ⟨cl5, Ar5, qq5, S5, N5_, H5, G5⟩ := id V3
  have hin5 : ¬ ((1 : Int32) < 0 ∨ cl5.slots.size ≤ ((1 : Int32)).toNatClampNeg) := inb_of S5 ⟨by decide, by decide⟩
  obtain ⟨T5, h5, X5, e5, W5, st5⟩ := stI X3 hx hZ e3 Ar5 (j := (1 : Int32)) hin5 (g := (mkF m 32 #[.val (.int p1), .val (.int p2), .val (.int p3), .val (.int p4), .val (.int (2 : Int32)), .val (.ref b1), .unset, .unset, .unset] [(.int p3), (.int (1 : Int32)), (.ref b1)])) rfl rfl (hb hby at_32)
  have V5 : Arv Z h5 b1 k1 .int (2 : Int32) [(.int p2), (.int p3)] (.int (0 : Int32)) := Arv.set Ar5 qq5 S5 N5_ H5 G5 rfl W5 1 rfl (Nat.le_of_ble_eq_true rfl)
  have zs6 : n0 ≤ h5.size := Nat.le_trans zs4 (Keep.of_wr W5).1
  have N5 := Fr.snoc X5 N3 g_b1
  obtain ⟨_, T7, Lc7, X7, hQ7, st7⟩ := own_callS X5 hx hZ (y := (⟨"com/example/varel/varel/text/EditDistance", "start", "([I)[I"⟩ : MethodName)) hown (hw _ (List.mem_of_getElem? (i := 1) rfl)) (hw _ (List.mem_of_getElem? (i := 2) rfl)) (hw _ (List.mem_of_getElem? (i := 3) rfl)) (hw _ (List.mem_of_getElem? (i := 4) rfl)) (by decide) (W := 0) (argsL := [(.ref b1)]) (rest := []) (rm1_2 l Z a0 hw [] b1 k1 [(.int p2), (.int p3)] h5 n0 zs6 V5) (by decide) (by decide) (c' := 2) (s' := 5) rfl rfl (by decide) (by decide) e5 (g := (mkF m 101 #[.val (.int p1), .val (.int p2), .val (.int p3), .val (.int p4), .val (.int (2 : Int32)), .val (.ref b1), .unset, .unset, .unset] [(.ref b1)])) rfl (by rw [hml]; rfl) (lenOf pd_0_0 rfl) rfl (by show 2 * 0 + _ ≤ _; exact Nat.le_of_eq rfl) (hb hby at_101)
  obtain ⟨b7, kk7, rfl, N7q, K7, g_b7, szz7, V_b7⟩ := hQ7
  have N7 := Fr.app N5 N7q
  have ne_b1_b7 : b1 ≠ b7 := Nat.ne_of_lt (Nat.lt_of_lt_of_le V5.lt szz7)
  have zs8 : n0 ≤ T7.heap.size := Nat.le_trans zs6 K7.1
  obtain ⟨cl9, Ar9, qq9, S9, N9_, H9, G9⟩ := id V_b7
  obtain ⟨_, T10, Lc10, X10, hQ10, st10⟩ := own_callS X7 hx hZ (y := (⟨"com/example/varel/varel/text/EditDistanceStartPinLaw", "at", "([II)Z"⟩ : MethodName)) hown (hw _ (List.mem_of_getElem? (i := 5) rfl)) (hw _ (List.mem_of_getElem? (i := 6) rfl)) (hw _ (List.mem_of_getElem? (i := 7) rfl)) (hw _ (List.mem_of_getElem? (i := 8) rfl)) (by decide) (W := 0) (argsL := [(.ref b7), (.int (0 : Int32))]) (rest := []) (rm2 l Z a0 hw [] b7 (0 : Int32) (0 : Int32) kk7 [(.int (0 : Int32)), (.int (1 : Int32)), (.int (2 : Int32))] (3 : Int32) T7.heap n0 zs8 V_b7 (by decide) (fun _ => rfl)) (by decide) (by decide) (c' := 2) (s' := 5) rfl rfl (by decide) (by decide) rfl (g := (mkF m 128 #[.val (.int p1), .val (.int p2), .val (.int p3), .val (.int p4), .val (.int (2 : Int32)), .val (.ref b1), .val (.ref b7), .unset, .unset] [(.int (0 : Int32)), (.ref b7)])) rfl (by rw [hml]; rfl) (lenOf pd_0_1 rfl) rfl (by show 2 * 0 + _ ≤ _; exact Nat.le_of_eq rfl) (hb hby at_128)
  obtain ⟨hv10, N10q, e10⟩ := hQ10
  have N10 := Fr.app N7 N10q
  rw [f2, if_pos (by decide : (0 : Int32) < (3 : Int32)), if_pos (by decide : (0 : Int32) = (0 : Int32))] at hv10
  subst hv10
  obtain ⟨_, T11, Lc11, X11, hQ11, st11⟩ := own_callS X10 hx hZ (y := (⟨"com/example/varel/varel/text/EditDistanceStartPinLaw", "at", "([II)Z"⟩ : MethodName)) hown (hw _ (List.mem_of_getElem? (i := 5) rfl)) (hw _ (List.mem_of_getElem? (i := 6) rfl)) (hw _ (List.mem_of_getElem? (i := 7) rfl)) (hw _ (List.mem_of_getElem? (i := 8) rfl)) (by decide) (W := 0) (argsL := [(.ref b7), (.int (1 : Int32))]) (rest := []) (rm2 l Z a0 hw [] b7 (1 : Int32) (1 : Int32) kk7 [(.int (0 : Int32)), (.int (1 : Int32)), (.int (2 : Int32))] (3 : Int32) T7.heap n0 zs8 V_b7 (by decide) (fun _ => rfl)) (by decide) (by decide) (c' := 2) (s' := 5) rfl rfl (by decide) (by decide) e10 (g := (mkF m 137 #[.val (.int p1), .val (.int p2), .val (.int p3), .val (.int p4), .val (.int (2 : Int32)), .val (.ref b1), .val (.ref b7), .unset, .unset] [(.int (1 : Int32)), (.ref b7)])) rfl (by rw [hml]; rfl) (lenOf pd_0_1 rfl) rfl (by show 2 * 0 + _ ≤ _; exact Nat.le_of_eq rfl) (hb hby at_137)
  obtain ⟨hv11, N11q, e11⟩ := hQ11
  have N11 := Fr.app N10 N11q
  rw [f2, if_pos (by decide : (1 : Int32) < (3 : Int32)), if_pos (by decide : (1 : Int32) = (1 : Int32))] at hv11
  subst hv11
  obtain ⟨_, T12, Lc12, X12, hQ12, st12⟩ := own_callS X11 hx hZ (y := (⟨"com/example/varel/varel/text/EditDistanceStartPinLaw", "at", "([II)Z"⟩ : MethodName)) hown (hw _ (List.mem_of_getElem? (i := 5) rfl)) (hw _ (List.mem_of_getElem? (i := 6) rfl)) (hw _ (List.mem_of_getElem? (i := 7) rfl)) (hw _ (List.mem_of_getElem? (i := 8) rfl)) (by decide) (W := 0) (argsL := [(.ref b7), (.int (2 : Int32))]) (rest := []) (rm2 l Z a0 hw [] b7 (2 : Int32) (2 : Int32) kk7 [(.int (0 : Int32)), (.int (1 : Int32)), (.int (2 : Int32))] (3 : Int32) T7.heap n0 zs8 V_b7 (by decide) (fun _ => rfl)) (by decide) (by decide) (c' := 2) (s' := 5) rfl rfl (by decide) (by decide) e11 (g := (mkF m 146 #[.val (.int p1), .val (.int p2), .val (.int p3), .val (.int p4), .val (.int (2 : Int32)), .val (.ref b1), .val (.ref b7), .unset, .unset] [(.int (2 : Int32)), (.ref b7)])) rfl (by rw [hml]; rfl) (lenOf pd_0_1 rfl) rfl (by show 2 * 0 + _ ≤ _; exact Nat.le_of_eq rfl) (hb hby at_146)
  obtain ⟨hv12, N12q, e12⟩ := hQ12
  have N12 := Fr.app N11 N12q
  rw [f2, if_pos (by decide : (2 : Int32) < (3 : Int32)), if_pos (by decide : (2 : Int32) = (2 : Int32))] at hv12
  subst hv12
  obtain ⟨_, T13, Lc13, X13, hQ13, st13⟩ := own_callS X12 hx hZ (y := (⟨"com/example/varel/varel/text/EditDistanceStartPinLaw", "at", "([II)Z"⟩ : MethodName)) hown (hw _ (List.mem_of_getElem? (i := 5) rfl)) (hw _ (List.mem_of_getElem? (i := 6) rfl)) (hw _ (List.mem_of_getElem? (i := 7) rfl)) (hw _ (List.mem_of_getElem? (i := 8) rfl)) (by decide) (W := 0) (argsL := [(.ref b7), (.int (3 : Int32))]) (rest := []) (rm2 l Z a0 hw [] b7 (3 : Int32) (0 : Int32) kk7 [(.int (0 : Int32)), (.int (1 : Int32)), (.int (2 : Int32))] (3 : Int32) T7.heap n0 zs8 V_b7 (by decide) (fun h => absurd h (by decide))) (by decide) (by decide) (c' := 2) (s' := 5) rfl rfl (by decide) (by decide) e12 (g := (mkF m 155 #[.val (.int p1), .val (.int p2), .val (.int p3), .val (.int p4), .val (.int (2 : Int32)), .val (.ref b1), .val (.ref b7), .unset, .unset] [(.int (3 : Int32)), (.ref b7)])) rfl (by rw [hml]; rfl) (lenOf pd_0_1 rfl) rfl (by show 2 * 0 + _ ≤ _; exact Nat.le_of_eq rfl) (hb hby at_155)
  obtain ⟨hv13, N13q, e13⟩ := hQ13
  have N13 := Fr.app N12 N13q
  rw [f2, if_neg (by decide : ¬ ((3 : Int32) < (3 : Int32)))] at hv13
  subst hv13
  obtain ⟨_, T14, Lc14, X14, hQ14, st14⟩ := own_callS X13 hx hZ (y := (⟨"com/example/varel/varel/text/EditDistanceStartPinLaw", "at", "([II)Z"⟩ : MethodName)) hown (hw _ (List.mem_of_getElem? (i := 5) rfl)) (hw _ (List.mem_of_getElem? (i := 6) rfl)) (hw _ (List.mem_of_getElem? (i := 7) rfl)) (hw _ (List.mem_of_getElem? (i := 8) rfl)) (by decide) (W := 0) (argsL := [(.ref b7), (.int (4 : Int32))]) (rest := []) (rm2 l Z a0 hw [] b7 (4 : Int32) (0 : Int32) kk7 [(.int (0 : Int32)), (.int (1 : Int32)), (.int (2 : Int32))] (3 : Int32) T7.heap n0 zs8 V_b7 (by decide) (fun h => absurd h (by decide))) (by decide) (by decide) (c' := 2) (s' := 5) rfl rfl (by decide) (by decide) e13 (g := (mkF m 164 #[.val (.int p1), .val (.int p2), .val (.int p3), .val (.int p4), .val (.int (2 : Int32)), .val (.ref b1), .val (.ref b7), .unset, .unset] [(.int (4 : Int32)), (.ref b7)])) rfl (by rw [hml]; rfl) (lenOf pd_0_1 rfl) rfl (by show 2 * 0 + _ ≤ _; exact Nat.le_of_eq rfl) (hb hby at_164)
  obtain ⟨hv14, N14q, e14⟩ := hQ14
  have N14 := Fr.app N13 N14q
  rw [f2, if_neg (by decide : ¬ ((4 : Int32) < (3 : Int32)))] at hv14
  subst hv14
  obtain ⟨_, T15, Lc15, X15, hQ15, st15⟩ := own_callS X14 hx hZ (y := (⟨"com/example/varel/varel/text/EditDistanceStartPinLaw", "at", "([II)Z"⟩ : MethodName)) hown (hw _ (List.mem_of_getElem? (i := 5) rfl)) (hw _ (List.mem_of_getElem? (i := 6) rfl)) (hw _ (List.mem_of_getElem? (i := 7) rfl)) (hw _ (List.mem_of_getElem? (i := 8) rfl)) (by decide) (W := 0) (argsL := [(.ref b7), (.int (5 : Int32))]) (rest := []) (rm2 l Z a0 hw [] b7 (5 : Int32) (0 : Int32) kk7 [(.int (0 : Int32)), (.int (1 : Int32)), (.int (2 : Int32))] (3 : Int32) T7.heap n0 zs8 V_b7 (by decide) (fun h => absurd h (by decide))) (by decide) (by decide) (c' := 2) (s' := 5) rfl rfl (by decide) (by decide) e14 (g := (mkF m 173 #[.val (.int p1), .val (.int p2), .val (.int p3), .val (.int p4), .val (.int (2 : Int32)), .val (.ref b1), .val (.ref b7), .unset, .unset] [(.int (5 : Int32)), (.ref b7)])) rfl (by rw [hml]; rfl) (lenOf pd_0_1 rfl) rfl (by show 2 * 0 + _ ≤ _; exact Nat.le_of_eq rfl) (hb hby at_173)
  obtain ⟨hv15, N15q, e15⟩ := hQ15
  have N15 := Fr.app N14 N15q
  rw [f2, if_neg (by decide : ¬ ((5 : Int32) < (3 : Int32)))] at hv15
  subst hv15
  obtain ⟨_, T16, Lc16, X16, hQ16, st16⟩ := own_callS X15 hx hZ (y := (⟨"com/example/varel/varel/text/EditDistanceStartPinLaw", "at", "([II)Z"⟩ : MethodName)) hown (hw _ (List.mem_of_getElem? (i := 5) rfl)) (hw _ (List.mem_of_getElem? (i := 6) rfl)) (hw _ (List.mem_of_getElem? (i := 7) rfl)) (hw _ (List.mem_of_getElem? (i := 8) rfl)) (by decide) (W := 0) (argsL := [(.ref b7), (.int (6 : Int32))]) (rest := []) (rm2 l Z a0 hw [] b7 (6 : Int32) (0 : Int32) kk7 [(.int (0 : Int32)), (.int (1 : Int32)), (.int (2 : Int32))] (3 : Int32) T7.heap n0 zs8 V_b7 (by decide) (fun h => absurd h (by decide))) (by decide) (by decide) (c' := 2) (s' := 5) rfl rfl (by decide) (by decide) e15 (g := (mkF m 183 #[.val (.int p1), .val (.int p2), .val (.int p3), .val (.int p4), .val (.int (2 : Int32)), .val (.ref b1), .val (.ref b7), .unset, .unset] [(.int (6 : Int32)), (.ref b7)])) rfl (by rw [hml]; rfl) (lenOf pd_0_1 rfl) rfl (by show 2 * 0 + _ ≤ _; exact Nat.le_of_eq rfl) (hb hby at_183)
  obtain ⟨hv16, N16q, e16⟩ := hQ16
  have N16 := Fr.app N15 N16q
  rw [f2, if_neg (by decide : ¬ ((6 : Int32) < (3 : Int32)))] at hv16
  subst hv16
  obtain ⟨_, T17, Lc17, X17, hQ17, st17⟩ := own_callS X16 hx hZ (y := (⟨"com/example/varel/varel/text/EditDistanceStartPinLaw", "at", "([II)Z"⟩ : MethodName)) hown (hw _ (List.mem_of_getElem? (i := 5) rfl)) (hw _ (List.mem_of_getElem? (i := 6) rfl)) (hw _ (List.mem_of_getElem? (i := 7) rfl)) (hw _ (List.mem_of_getElem? (i := 8) rfl)) (by decide) (W := 0) (argsL := [(.ref b7), (.int (7 : Int32))]) (rest := []) (rm2 l Z a0 hw [] b7 (7 : Int32) (0 : Int32) kk7 [(.int (0 : Int32)), (.int (1 : Int32)), (.int (2 : Int32))] (3 : Int32) T7.heap n0 zs8 V_b7 (by decide) (fun h => absurd h (by decide))) (by decide) (by decide) (c' := 2) (s' := 5) rfl rfl (by decide) (by decide) e16 (g := (mkF m 193 #[.val (.int p1), .val (.int p2), .val (.int p3), .val (.int p4), .val (.int (2 : Int32)), .val (.ref b1), .val (.ref b7), .unset, .unset] [(.int (7 : Int32)), (.ref b7)])) rfl (by rw [hml]; rfl) (lenOf pd_0_1 rfl) rfl (by show 2 * 0 + _ ≤ _; exact Nat.le_of_eq rfl) (hb hby at_193)
  obtain ⟨hv17, N17q, e17⟩ := hQ17
  have N17 := Fr.app N16 N17q
  rw [f2, if_neg (by decide : ¬ ((7 : Int32) < (3 : Int32)))] at hv17
  subst hv17
  have fa18 : Arv Z T7.heap b1 k1 .int (2 : Int32) [(.int p2), (.int p3)] (.int (0 : Int32)) := (V5.keep K7 nin0)
  obtain ⟨cl19, Ar19, qq19, S19, N19_, H19, G19⟩ := id fa18
  obtain ⟨_, T20, Lc20, X20, hQ20, st20⟩ := own_callS X17 hx hZ (y := (⟨"com/example/varel/varel/text/EditDistanceStartPinLaw", "kept", "([III)Z"⟩ : MethodName)) hown (hw _ (List.mem_of_getElem? (i := 9) rfl)) (hw _ (List.mem_of_getElem? (i := 10) rfl)) (hw _ (List.mem_of_getElem? (i := 7) rfl)) (hw _ (List.mem_of_getElem? (i := 11) rfl)) (by decide) (W := 0) (argsL := [(.ref b1), (.int (0 : Int32)), (.int p2)]) (rest := []) (rm3 l Z a0 hw [] b1 (0 : Int32) p2 p2 k1 [(.int p2), (.int p3)] (2 : Int32) T7.heap n0 zs8 fa18 (by decide) (fun _ => rfl)) (by decide) (by decide) (c' := 2) (s' := 5) rfl rfl (by decide) (by decide) e17 (g := (mkF m 218 #[.val (.int p1), .val (.int p2), .val (.int p3), .val (.int p4), .val (.int (2 : Int32)), .val (.ref b1), .val (.ref b7), .val (.int (1 : Int32)), .unset] [(.int p2), (.int (0 : Int32)), (.ref b1)])) rfl (by rw [hml]; rfl) (lenOf pd_0_2 rfl) rfl (by show 2 * 0 + _ ≤ _; exact Nat.le_of_eq rfl) (hb hby at_218)
  obtain ⟨hv20, N20q, e20⟩ := hQ20
  have N20 := Fr.app N17 N20q
  rw [f3, if_pos (by decide : (0 : Int32) < (2 : Int32)), if_pos (rfl : p2 = p2)] at hv20
  subst hv20
  obtain ⟨_, T21, Lc21, X21, hQ21, st21⟩ := own_callS X20 hx hZ (y := (⟨"com/example/varel/varel/text/EditDistanceStartPinLaw", "kept", "([III)Z"⟩ : MethodName)) hown (hw _ (List.mem_of_getElem? (i := 9) rfl)) (hw _ (List.mem_of_getElem? (i := 10) rfl)) (hw _ (List.mem_of_getElem? (i := 7) rfl)) (hw _ (List.mem_of_getElem? (i := 11) rfl)) (by decide) (W := 0) (argsL := [(.ref b1), (.int (1 : Int32)), (.int p3)]) (rest := []) (rm3 l Z a0 hw [] b1 (1 : Int32) p3 p3 k1 [(.int p2), (.int p3)] (2 : Int32) T7.heap n0 zs8 fa18 (by decide) (fun _ => rfl)) (by decide) (by decide) (c' := 2) (s' := 5) rfl rfl (by decide) (by decide) e20 (g := (mkF m 228 #[.val (.int p1), .val (.int p2), .val (.int p3), .val (.int p4), .val (.int (2 : Int32)), .val (.ref b1), .val (.ref b7), .val (.int (1 : Int32)), .unset] [(.int p3), (.int (1 : Int32)), (.ref b1)])) rfl (by rw [hml]; rfl) (lenOf pd_0_2 rfl) rfl (by show 2 * 0 + _ ≤ _; exact Nat.le_of_eq rfl) (hb hby at_228)
  obtain ⟨hv21, N21q, e21⟩ := hQ21
  have N21 := Fr.app N20 N21q
  rw [f3, if_pos (by decide : (1 : Int32) < (2 : Int32)), if_pos (rfl : p3 = p3)] at hv21
  subst hv21
  obtain ⟨_, T22, Lc22, X22, hQ22, st22⟩ := own_callS X21 hx hZ (y := (⟨"com/example/varel/varel/text/EditDistanceStartPinLaw", "kept", "([III)Z"⟩ : MethodName)) hown (hw _ (List.mem_of_getElem? (i := 9) rfl)) (hw _ (List.mem_of_getElem? (i := 10) rfl)) (hw _ (List.mem_of_getElem? (i := 7) rfl)) (hw _ (List.mem_of_getElem? (i := 11) rfl)) (by decide) (W := 0) (argsL := [(.ref b1), (.int (2 : Int32)), (.int p4)]) (rest := []) (rm3 l Z a0 hw [] b1 (2 : Int32) p4 (0 : Int32) k1 [(.int p2), (.int p3)] (2 : Int32) T7.heap n0 zs8 fa18 (by decide) (fun h => absurd h (by decide))) (by decide) (by decide) (c' := 2) (s' := 5) rfl rfl (by decide) (by decide) e21 (g := (mkF m 238 #[.val (.int p1), .val (.int p2), .val (.int p3), .val (.int p4), .val (.int (2 : Int32)), .val (.ref b1), .val (.ref b7), .val (.int (1 : Int32)), .unset] [(.int p4), (.int (2 : Int32)), (.ref b1)])) rfl (by rw [hml]; rfl) (lenOf pd_0_2 rfl) rfl (by show 2 * 0 + _ ≤ _; exact Nat.le_of_eq rfl) (hb hby at_238)
  obtain ⟨hv22, N22q, e22⟩ := hQ22
  have N22 := Fr.app N21 N22q
  rw [f3, if_neg (by decide : ¬ ((2 : Int32) < (2 : Int32)))] at hv22
  subst hv22
  obtain ⟨_, T23, Lc23, X23, hQ23, st23⟩ := own_callS X22 hx hZ (y := (⟨"com/example/varel/varel/text/EditDistanceStartPinLaw", "kept", "([III)Z"⟩ : MethodName)) hown (hw _ (List.mem_of_getElem? (i := 9) rfl)) (hw _ (List.mem_of_getElem? (i := 10) rfl)) (hw _ (List.mem_of_getElem? (i := 7) rfl)) (hw _ (List.mem_of_getElem? (i := 11) rfl)) (by decide) (W := 0) (argsL := [(.ref b1), (.int (3 : Int32)), (.int (p2 ^^^ p3))]) (rest := []) (rm3 l Z a0 hw [] b1 (3 : Int32) (p2 ^^^ p3) (0 : Int32) k1 [(.int p2), (.int p3)] (2 : Int32) T7.heap n0 zs8 fa18 (by decide) (fun h => absurd h (by decide))) (by decide) (by decide) (c' := 2) (s' := 5) rfl rfl (by decide) (by decide) e22 (g := (mkF m 250 #[.val (.int p1), .val (.int p2), .val (.int p3), .val (.int p4), .val (.int (2 : Int32)), .val (.ref b1), .val (.ref b7), .val (.int (1 : Int32)), .unset] [(.int (p2 ^^^ p3)), (.int (3 : Int32)), (.ref b1)])) rfl (by rw [hml]; rfl) (lenOf pd_0_2 rfl) rfl (by show 2 * 0 + _ ≤ _; exact Nat.le_of_eq rfl) (hb hby at_250)
  obtain ⟨hv23, N23q, e23⟩ := hQ23
  have N23 := Fr.app N22 N23q
  rw [f3, if_neg (by decide : ¬ ((3 : Int32) < (2 : Int32)))] at hv23
  subst hv23
  obtain ⟨_, T24, Lc24, X24, hQ24, st24⟩ := own_callS X23 hx hZ (y := (⟨"com/example/varel/varel/text/EditDistanceStartPinLaw", "kept", "([III)Z"⟩ : MethodName)) hown (hw _ (List.mem_of_getElem? (i := 9) rfl)) (hw _ (List.mem_of_getElem? (i := 10) rfl)) (hw _ (List.mem_of_getElem? (i := 7) rfl)) (hw _ (List.mem_of_getElem? (i := 11) rfl)) (by decide) (W := 0) (argsL := [(.ref b1), (.int (4 : Int32)), (.int (p3 - p4))]) (rest := []) (rm3 l Z a0 hw [] b1 (4 : Int32) (p3 - p4) (0 : Int32) k1 [(.int p2), (.int p3)] (2 : Int32) T7.heap n0 zs8 fa18 (by decide) (fun h => absurd h (by decide))) (by decide) (by decide) (c' := 2) (s' := 5) rfl rfl (by decide) (by decide) e23 (g := (mkF m 262 #[.val (.int p1), .val (.int p2), .val (.int p3), .val (.int p4), .val (.int (2 : Int32)), .val (.ref b1), .val (.ref b7), .val (.int (1 : Int32)), .unset] [(.int (p3 - p4)), (.int (4 : Int32)), (.ref b1)])) rfl (by rw [hml]; rfl) (lenOf pd_0_2 rfl) rfl (by show 2 * 0 + _ ≤ _; exact Nat.le_of_eq rfl) (hb hby at_262)
  obtain ⟨hv24, N24q, e24⟩ := hQ24
  have N24 := Fr.app N23 N24q
  rw [f3, if_neg (by decide : ¬ ((4 : Int32) < (2 : Int32)))] at hv24
  subst hv24
  obtain ⟨_, T25, Lc25, X25, hQ25, st25⟩ := own_callS X24 hx hZ (y := (⟨"com/example/varel/varel/text/EditDistanceStartPinLaw", "kept", "([III)Z"⟩ : MethodName)) hown (hw _ (List.mem_of_getElem? (i := 9) rfl)) (hw _ (List.mem_of_getElem? (i := 10) rfl)) (hw _ (List.mem_of_getElem? (i := 7) rfl)) (hw _ (List.mem_of_getElem? (i := 11) rfl)) (by decide) (W := 0) (argsL := [(.ref b1), (.int (5 : Int32)), (.int (p2 ^^^ (-1 : Int32)))]) (rest := []) (rm3 l Z a0 hw [] b1 (5 : Int32) (p2 ^^^ (-1 : Int32)) (0 : Int32) k1 [(.int p2), (.int p3)] (2 : Int32) T7.heap n0 zs8 fa18 (by decide) (fun h => absurd h (by decide))) (by decide) (by decide) (c' := 2) (s' := 5) rfl rfl (by decide) (by decide) e24 (g := (mkF m 274 #[.val (.int p1), .val (.int p2), .val (.int p3), .val (.int p4), .val (.int (2 : Int32)), .val (.ref b1), .val (.ref b7), .val (.int (1 : Int32)), .unset] [(.int (p2 ^^^ (-1 : Int32))), (.int (5 : Int32)), (.ref b1)])) rfl (by rw [hml]; rfl) (lenOf pd_0_2 rfl) rfl (by show 2 * 0 + _ ≤ _; exact Nat.le_of_eq rfl) (hb hby at_274)
  obtain ⟨hv25, N25q, e25⟩ := hQ25
  have N25 := Fr.app N24 N25q
  rw [f3, if_neg (by decide : ¬ ((5 : Int32) < (2 : Int32)))] at hv25
  subst hv25
  obtain ⟨_, T26, Lc26, X26, hQ26, st26⟩ := own_callS X25 hx hZ (y := (⟨"com/example/varel/varel/text/EditDistanceStartPinLaw", "kept", "([III)Z"⟩ : MethodName)) hown (hw _ (List.mem_of_getElem? (i := 9) rfl)) (hw _ (List.mem_of_getElem? (i := 10) rfl)) (hw _ (List.mem_of_getElem? (i := 7) rfl)) (hw _ (List.mem_of_getElem? (i := 11) rfl)) (by decide) (W := 0) (argsL := [(.ref b1), (.int (6 : Int32)), (.int (p4 * (31 : Int32)))]) (rest := []) (rm3 l Z a0 hw [] b1 (6 : Int32) (p4 * (31 : Int32)) (0 : Int32) k1 [(.int p2), (.int p3)] (2 : Int32) T7.heap n0 zs8 fa18 (by decide) (fun h => absurd h (by decide))) (by decide) (by decide) (c' := 2) (s' := 5) rfl rfl (by decide) (by decide) e25 (g := (mkF m 288 #[.val (.int p1), .val (.int p2), .val (.int p3), .val (.int p4), .val (.int (2 : Int32)), .val (.ref b1), .val (.ref b7), .val (.int (1 : Int32)), .unset] [(.int (p4 * (31 : Int32))), (.int (6 : Int32)), (.ref b1)])) rfl (by rw [hml]; rfl) (lenOf pd_0_2 rfl) rfl (by show 2 * 0 + _ ≤ _; exact Nat.le_of_eq rfl) (hb hby at_288)
  obtain ⟨hv26, N26q, e26⟩ := hQ26
  have N26 := Fr.app N25 N26q
  rw [f3, if_neg (by decide : ¬ ((6 : Int32) < (2 : Int32)))] at hv26
  subst hv26
  obtain ⟨fs, hr, hrun, hended, hW, hsame⟩ := X26.leave (v := some (.int (1 : Int32))) (fun h => by rw [Bd.returns] at h; cases h)
  refine ⟨_, _, pre0 _ ?_, hrun, hended, _, _, rfl, ?_, ⟨_, rfl⟩, hW, hsame.mono (by decide) (by decide)⟩
  · show Steps p.tables e below (s₁.setTop (mkF m 0 #[.val (.int p1), .val (.int p2), .val (.int p3), .val (.int p4), .unset, .unset, .unset, .unset, .unset] [])) _
    refine own_blk X0 hx bl0_0_3 (own_hb hby bd0_0_3) (pc' := 4) (Ls' := #[.val (.int p1), .val (.int p2), .val (.int p3), .val (.int p4), .unset, .unset, .unset, .unset, .unset]) (st' := [(.int (p1 &&& (7 : Int32)))]) rfl ?_
    show Steps p.tables e below (s₁.setTop (mkF m 4 #[.val (.int p1), .val (.int p2), .val (.int p3), .val (.int p4), .unset, .unset, .unset, .unset, .unset] [(.int (p1 &&& (7 : Int32)))])) _
    rw [hn]
    show Steps p.tables e below (s₁.setTop (mkF m 4 #[.val (.int p1), .val (.int p2), .val (.int p3), .val (.int p4), .unset, .unset, .unset, .unset, .unset] [(.int (2 : Int32))])) _
    refine own_blk X0 hx bl0_4_2 (own_hb hby bd0_4_2) (pc' := 8) (Ls' := #[.val (.int p1), .val (.int p2), .val (.int p3), .val (.int p4), .val (.int (2 : Int32)), .unset, .unset, .unset, .unset]) (st' := [(.int (2 : Int32))]) rfl ?_
    show Steps p.tables e below (s₁.setTop (mkF m 8 #[.val (.int p1), .val (.int p2), .val (.int p3), .val (.int p4), .val (.int (2 : Int32)), .unset, .unset, .unset, .unset] [(.int (2 : Int32))])) _
    refine st1 _ ?_
    show Steps p.tables e below (T1.setTop (mkF m 10 #[.val (.int p1), .val (.int p2), .val (.int p3), .val (.int p4), .val (.int (2 : Int32)), .unset, .unset, .unset, .unset] [(.ref b1)])) _
    refine own_blk X1 hx bl0_10_2 (own_hb hby bd0_10_2) (pc' := 14) (Ls' := #[.val (.int p1), .val (.int p2), .val (.int p3), .val (.int p4), .val (.int (2 : Int32)), .val (.ref b1), .unset, .unset, .unset]) (st' := [(.int (2 : Int32))]) rfl ?_
    show Steps p.tables e below (T1.setTop (mkF m 14 #[.val (.int p1), .val (.int p2), .val (.int p3), .val (.int p4), .val (.int (2 : Int32)), .val (.ref b1), .unset, .unset, .unset] [(.int (2 : Int32))])) _
    refine XS.ifNo X1.here hx rfl (hb hby at_14) rfl ((if0 _ _).trans (tlt (by decide : (0 : Int32) < (2 : Int32))).2.2.2) ?_
    show Steps p.tables e below (T1.setTop (mkF m 17 #[.val (.int p1), .val (.int p2), .val (.int p3), .val (.int p4), .val (.int (2 : Int32)), .val (.ref b1), .unset, .unset, .unset] [])) _
    refine own_blk X1 hx bl0_17_3 (own_hb hby bd0_17_3) (pc' := 21) (Ls' := #[.val (.int p1), .val (.int p2), .val (.int p3), .val (.int p4), .val (.int (2 : Int32)), .val (.ref b1), .unset, .unset, .unset]) (st' := [(.int p2), (.int (0 : Int32)), (.ref b1)]) rfl ?_
    show Steps p.tables e below (T1.setTop (mkF m 21 #[.val (.int p1), .val (.int p2), .val (.int p3), .val (.int p4), .val (.int (2 : Int32)), .val (.ref b1), .unset, .unset, .unset] [(.int p2), (.int (0 : Int32)), (.ref b1)])) _
    refine st3 _ ?_
    show Steps p.tables e below (T3.setTop (mkF m 22 #[.val (.int p1), .val (.int p2), .val (.int p3), .val (.int p4), .val (.int (2 : Int32)), .val (.ref b1), .unset, .unset, .unset] [])) _
    refine own_blk X3 hx bl0_22_2 (own_hb hby bd0_22_2) (pc' := 25) (Ls' := #[.val (.int p1), .val (.int p2), .val (.int p3), .val (.int p4), .val (.int (2 : Int32)), .val (.ref b1), .unset, .unset, .unset]) (st' := [(.int (1 : Int32)), (.int (2 : Int32))]) rfl ?_
    show Steps p.tables e below (T3.setTop (mkF m 25 #[.val (.int p1), .val (.int p2), .val (.int p3), .val (.int p4), .val (.int (2 : Int32)), .val (.ref b1), .unset, .unset, .unset] [(.int (1 : Int32)), (.int (2 : Int32))])) _
    refine XS.icmpNo X3.here hx rfl (hb hby at_25) rfl (tlt (by decide : (1 : Int32) < (2 : Int32))).2.2.2 ?_
    show Steps p.tables e below (T3.setTop (mkF m 28 #[.val (.int p1), .val (.int p2), .val (.int p3), .val (.int p4), .val (.int (2 : Int32)), .val (.ref b1), .unset, .unset, .unset] [])) _
    refine own_blk X3 hx bl0_28_3 (own_hb hby bd0_28_3) (pc' := 32) (Ls' := #[.val (.int p1), .val (.int p2), .val (.int p3), .val (.int p4), .val (.int (2 : Int32)), .val (.ref b1), .unset, .unset, .unset]) (st' := [(.int p3), (.int (1 : Int32)), (.ref b1)]) rfl ?_
    show Steps p.tables e below (T3.setTop (mkF m 32 #[.val (.int p1), .val (.int p2), .val (.int p3), .val (.int p4), .val (.int (2 : Int32)), .val (.ref b1), .unset, .unset, .unset] [(.int p3), (.int (1 : Int32)), (.ref b1)])) _
    refine st5 _ ?_
    show Steps p.tables e below (T5.setTop (mkF m 33 #[.val (.int p1), .val (.int p2), .val (.int p3), .val (.int p4), .val (.int (2 : Int32)), .val (.ref b1), .unset, .unset, .unset] [])) _
    refine own_blk X5 hx bl0_33_2 (own_hb hby bd0_33_2) (pc' := 36) (Ls' := #[.val (.int p1), .val (.int p2), .val (.int p3), .val (.int p4), .val (.int (2 : Int32)), .val (.ref b1), .unset, .unset, .unset]) (st' := [(.int (2 : Int32)), (.int (2 : Int32))]) rfl ?_
    show Steps p.tables e below (T5.setTop (mkF m 36 #[.val (.int p1), .val (.int p2), .val (.int p3), .val (.int p4), .val (.int (2 : Int32)), .val (.ref b1), .unset, .unset, .unset] [(.int (2 : Int32)), (.int (2 : Int32))])) _
    refine XS.icmpYes X5.here hx rfl (pc0 := 36) (pc' := 44) rfl (hb hby at_36) rfl (flt (by decide : ¬ ((2 : Int32) < (2 : Int32)))).2.2.2 (by decide) (by decide) ?_
    show Steps p.tables e below (T5.setTop (mkF m 44 #[.val (.int p1), .val (.int p2), .val (.int p3), .val (.int p4), .val (.int (2 : Int32)), .val (.ref b1), .unset, .unset, .unset] [])) _
    refine own_blk X5 hx bl0_44_2 (own_hb hby bd0_44_2) (pc' := 47) (Ls' := #[.val (.int p1), .val (.int p2), .val (.int p3), .val (.int p4), .val (.int (2 : Int32)), .val (.ref b1), .unset, .unset, .unset]) (st' := [(.int (3 : Int32)), (.int (2 : Int32))]) rfl ?_
    show Steps p.tables e below (T5.setTop (mkF m 47 #[.val (.int p1), .val (.int p2), .val (.int p3), .val (.int p4), .val (.int (2 : Int32)), .val (.ref b1), .unset, .unset, .unset] [(.int (3 : Int32)), (.int (2 : Int32))])) _
    refine XS.icmpYes X5.here hx rfl (pc0 := 47) (pc' := 57) rfl (hb hby at_47) rfl (flt (by decide : ¬ ((3 : Int32) < (2 : Int32)))).2.2.2 (by decide) (by decide) ?_
    show Steps p.tables e below (T5.setTop (mkF m 57 #[.val (.int p1), .val (.int p2), .val (.int p3), .val (.int p4), .val (.int (2 : Int32)), .val (.ref b1), .unset, .unset, .unset] [])) _
    refine own_blk X5 hx bl0_57_2 (own_hb hby bd0_57_2) (pc' := 60) (Ls' := #[.val (.int p1), .val (.int p2), .val (.int p3), .val (.int p4), .val (.int (2 : Int32)), .val (.ref b1), .unset, .unset, .unset]) (st' := [(.int (4 : Int32)), (.int (2 : Int32))]) rfl ?_
    show Steps p.tables e below (T5.setTop (mkF m 60 #[.val (.int p1), .val (.int p2), .val (.int p3), .val (.int p4), .val (.int (2 : Int32)), .val (.ref b1), .unset, .unset, .unset] [(.int (4 : Int32)), (.int (2 : Int32))])) _
    refine XS.icmpYes X5.here hx rfl (pc0 := 60) (pc' := 70) rfl (hb hby at_60) rfl (flt (by decide : ¬ ((4 : Int32) < (2 : Int32)))).2.2.2 (by decide) (by decide) ?_
    show Steps p.tables e below (T5.setTop (mkF m 70 #[.val (.int p1), .val (.int p2), .val (.int p3), .val (.int p4), .val (.int (2 : Int32)), .val (.ref b1), .unset, .unset, .unset] [])) _
    refine own_blk X5 hx bl0_70_2 (own_hb hby bd0_70_2) (pc' := 73) (Ls' := #[.val (.int p1), .val (.int p2), .val (.int p3), .val (.int p4), .val (.int (2 : Int32)), .val (.ref b1), .unset, .unset, .unset]) (st' := [(.int (5 : Int32)), (.int (2 : Int32))]) rfl ?_
    show Steps p.tables e below (T5.setTop (mkF m 73 #[.val (.int p1), .val (.int p2), .val (.int p3), .val (.int p4), .val (.int (2 : Int32)), .val (.ref b1), .unset, .unset, .unset] [(.int (5 : Int32)), (.int (2 : Int32))])) _
    refine XS.icmpYes X5.here hx rfl (pc0 := 73) (pc' := 83) rfl (hb hby at_73) rfl (flt (by decide : ¬ ((5 : Int32) < (2 : Int32)))).2.2.2 (by decide) (by decide) ?_
    show Steps p.tables e below (T5.setTop (mkF m 83 #[.val (.int p1), .val (.int p2), .val (.int p3), .val (.int p4), .val (.int (2 : Int32)), .val (.ref b1), .unset, .unset, .unset] [])) _
    refine own_blk X5 hx bl0_83_2 (own_hb hby bd0_83_2) (pc' := 87) (Ls' := #[.val (.int p1), .val (.int p2), .val (.int p3), .val (.int p4), .val (.int (2 : Int32)), .val (.ref b1), .unset, .unset, .unset]) (st' := [(.int (6 : Int32)), (.int (2 : Int32))]) rfl ?_
    show Steps p.tables e below (T5.setTop (mkF m 87 #[.val (.int p1), .val (.int p2), .val (.int p3), .val (.int p4), .val (.int (2 : Int32)), .val (.ref b1), .unset, .unset, .unset] [(.int (6 : Int32)), (.int (2 : Int32))])) _
    refine XS.icmpYes X5.here hx rfl (pc0 := 87) (pc' := 99) rfl (hb hby at_87) rfl (flt (by decide : ¬ ((6 : Int32) < (2 : Int32)))).2.2.2 (by decide) (by decide) ?_
    show Steps p.tables e below (T5.setTop (mkF m 99 #[.val (.int p1), .val (.int p2), .val (.int p3), .val (.int p4), .val (.int (2 : Int32)), .val (.ref b1), .unset, .unset, .unset] [])) _
    refine own_blk X5 hx bl0_99_1 (own_hb hby bd0_99_1) (pc' := 101) (Ls' := #[.val (.int p1), .val (.int p2), .val (.int p3), .val (.int p4), .val (.int (2 : Int32)), .val (.ref b1), .unset, .unset, .unset]) (st' := [(.ref b1)]) rfl ?_
    show Steps p.tables e below (T5.setTop (mkF m 101 #[.val (.int p1), .val (.int p2), .val (.int p3), .val (.int p4), .val (.int (2 : Int32)), .val (.ref b1), .unset, .unset, .unset] [(.ref b1)])) _
    refine st7 _ ?_
    show Steps p.tables e below (T7.setTop (mkF m 104 #[.val (.int p1), .val (.int p2), .val (.int p3), .val (.int p4), .val (.int (2 : Int32)), .val (.ref b1), .unset, .unset, .unset] [(.ref b7)])) _
    refine own_blk X7 hx bl0_104_2 (own_hb hby bd0_104_2) (pc' := 108) (Ls' := #[.val (.int p1), .val (.int p2), .val (.int p3), .val (.int p4), .val (.int (2 : Int32)), .val (.ref b1), .val (.ref b7), .unset, .unset]) (st' := [(.ref b7)]) rfl ?_
    show Steps p.tables e below (T7.setTop (mkF m 108 #[.val (.int p1), .val (.int p2), .val (.int p3), .val (.int p4), .val (.int (2 : Int32)), .val (.ref b1), .val (.ref b7), .unset, .unset] [(.ref b7)])) _
    refine XS.ifnonnullYes X7.here hx rfl (pc0 := 108) (pc' := 113) rfl (hb hby at_108) rfl (by decide) (by decide) ?_
    show Steps p.tables e below (T7.setTop (mkF m 113 #[.val (.int p1), .val (.int p2), .val (.int p3), .val (.int p4), .val (.int (2 : Int32)), .val (.ref b1), .val (.ref b7), .unset, .unset] [])) _
    refine own_blk X7 hx bl0_113_1 (own_hb hby bd0_113_1) (pc' := 115) (Ls' := #[.val (.int p1), .val (.int p2), .val (.int p3), .val (.int p4), .val (.int (2 : Int32)), .val (.ref b1), .val (.ref b7), .unset, .unset]) (st' := [(.ref b7)]) rfl ?_
    show Steps p.tables e below (T7.setTop (mkF m 115 #[.val (.int p1), .val (.int p2), .val (.int p3), .val (.int p4), .val (.int (2 : Int32)), .val (.ref b1), .val (.ref b7), .unset, .unset] [(.ref b7)])) _
    refine X7.arraylength hx Ar9.1 (State.isArrayOf_alike hZ.alike Ar9.2.1) (g := (mkF m 115 #[.val (.int p1), .val (.int p2), .val (.int p3), .val (.int p4), .val (.int (2 : Int32)), .val (.ref b1), .val (.ref b7), .unset, .unset] [(.ref b7)])) rfl rfl (hb hby at_115) _ ?_
    rw [len_of S9 N9_]
    show Steps p.tables e below (T7.setTop (mkF m 116 #[.val (.int p1), .val (.int p2), .val (.int p3), .val (.int p4), .val (.int (2 : Int32)), .val (.ref b1), .val (.ref b7), .unset, .unset] [(.int (3 : Int32))])) _
    refine own_blk X7 hx bl0_116_3 (own_hb hby bd0_116_3) (pc' := 120) (Ls' := #[.val (.int p1), .val (.int p2), .val (.int p3), .val (.int p4), .val (.int (2 : Int32)), .val (.ref b1), .val (.ref b7), .unset, .unset]) (st' := [(.int (3 : Int32)), (.int (3 : Int32))]) rfl ?_
    show Steps p.tables e below (T7.setTop (mkF m 120 #[.val (.int p1), .val (.int p2), .val (.int p3), .val (.int p4), .val (.int (2 : Int32)), .val (.ref b1), .val (.ref b7), .unset, .unset] [(.int (3 : Int32)), (.int (3 : Int32))])) _
    refine XS.icmpYes X7.here hx rfl (pc0 := 120) (pc' := 125) rfl (hb hby at_120) rfl (teq (by decide : (3 : Int32) = (3 : Int32))).1 (by decide) (by decide) ?_
    show Steps p.tables e below (T7.setTop (mkF m 125 #[.val (.int p1), .val (.int p2), .val (.int p3), .val (.int p4), .val (.int (2 : Int32)), .val (.ref b1), .val (.ref b7), .unset, .unset] [])) _
    refine own_blk X7 hx bl0_125_2 (own_hb hby bd0_125_2) (pc' := 128) (Ls' := #[.val (.int p1), .val (.int p2), .val (.int p3), .val (.int p4), .val (.int (2 : Int32)), .val (.ref b1), .val (.ref b7), .unset, .unset]) (st' := [(.int (0 : Int32)), (.ref b7)]) rfl ?_
    show Steps p.tables e below (T7.setTop (mkF m 128 #[.val (.int p1), .val (.int p2), .val (.int p3), .val (.int p4), .val (.int (2 : Int32)), .val (.ref b1), .val (.ref b7), .unset, .unset] [(.int (0 : Int32)), (.ref b7)])) _
    refine st10 _ ?_
    show Steps p.tables e below (T10.setTop (mkF m 131 #[.val (.int p1), .val (.int p2), .val (.int p3), .val (.int p4), .val (.int (2 : Int32)), .val (.ref b1), .val (.ref b7), .unset, .unset] [(.int (1 : Int32))])) _
    refine XS.ifNo X10.here hx rfl (hb hby at_131) rfl ((if0 _ _).trans (feq (by decide : ¬ ((1 : Int32) = (0 : Int32)))).1) ?_
    show Steps p.tables e below (T10.setTop (mkF m 134 #[.val (.int p1), .val (.int p2), .val (.int p3), .val (.int p4), .val (.int (2 : Int32)), .val (.ref b1), .val (.ref b7), .unset, .unset] [])) _
    refine own_blk X10 hx bl0_134_2 (own_hb hby bd0_134_2) (pc' := 137) (Ls' := #[.val (.int p1), .val (.int p2), .val (.int p3), .val (.int p4), .val (.int (2 : Int32)), .val (.ref b1), .val (.ref b7), .unset, .unset]) (st' := [(.int (1 : Int32)), (.ref b7)]) rfl ?_
    show Steps p.tables e below (T10.setTop (mkF m 137 #[.val (.int p1), .val (.int p2), .val (.int p3), .val (.int p4), .val (.int (2 : Int32)), .val (.ref b1), .val (.ref b7), .unset, .unset] [(.int (1 : Int32)), (.ref b7)])) _
    refine st11 _ ?_
    show Steps p.tables e below (T11.setTop (mkF m 140 #[.val (.int p1), .val (.int p2), .val (.int p3), .val (.int p4), .val (.int (2 : Int32)), .val (.ref b1), .val (.ref b7), .unset, .unset] [(.int (1 : Int32))])) _
    refine XS.ifNo X11.here hx rfl (hb hby at_140) rfl ((if0 _ _).trans (feq (by decide : ¬ ((1 : Int32) = (0 : Int32)))).1) ?_
    show Steps p.tables e below (T11.setTop (mkF m 143 #[.val (.int p1), .val (.int p2), .val (.int p3), .val (.int p4), .val (.int (2 : Int32)), .val (.ref b1), .val (.ref b7), .unset, .unset] [])) _
    refine own_blk X11 hx bl0_143_2 (own_hb hby bd0_143_2) (pc' := 146) (Ls' := #[.val (.int p1), .val (.int p2), .val (.int p3), .val (.int p4), .val (.int (2 : Int32)), .val (.ref b1), .val (.ref b7), .unset, .unset]) (st' := [(.int (2 : Int32)), (.ref b7)]) rfl ?_
    show Steps p.tables e below (T11.setTop (mkF m 146 #[.val (.int p1), .val (.int p2), .val (.int p3), .val (.int p4), .val (.int (2 : Int32)), .val (.ref b1), .val (.ref b7), .unset, .unset] [(.int (2 : Int32)), (.ref b7)])) _
    refine st12 _ ?_
    show Steps p.tables e below (T12.setTop (mkF m 149 #[.val (.int p1), .val (.int p2), .val (.int p3), .val (.int p4), .val (.int (2 : Int32)), .val (.ref b1), .val (.ref b7), .unset, .unset] [(.int (1 : Int32))])) _
    refine XS.ifNo X12.here hx rfl (hb hby at_149) rfl ((if0 _ _).trans (feq (by decide : ¬ ((1 : Int32) = (0 : Int32)))).1) ?_
    show Steps p.tables e below (T12.setTop (mkF m 152 #[.val (.int p1), .val (.int p2), .val (.int p3), .val (.int p4), .val (.int (2 : Int32)), .val (.ref b1), .val (.ref b7), .unset, .unset] [])) _
    refine own_blk X12 hx bl0_152_2 (own_hb hby bd0_152_2) (pc' := 155) (Ls' := #[.val (.int p1), .val (.int p2), .val (.int p3), .val (.int p4), .val (.int (2 : Int32)), .val (.ref b1), .val (.ref b7), .unset, .unset]) (st' := [(.int (3 : Int32)), (.ref b7)]) rfl ?_
    show Steps p.tables e below (T12.setTop (mkF m 155 #[.val (.int p1), .val (.int p2), .val (.int p3), .val (.int p4), .val (.int (2 : Int32)), .val (.ref b1), .val (.ref b7), .unset, .unset] [(.int (3 : Int32)), (.ref b7)])) _
    refine st13 _ ?_
    show Steps p.tables e below (T13.setTop (mkF m 158 #[.val (.int p1), .val (.int p2), .val (.int p3), .val (.int p4), .val (.int (2 : Int32)), .val (.ref b1), .val (.ref b7), .unset, .unset] [(.int (1 : Int32))])) _
    refine XS.ifNo X13.here hx rfl (hb hby at_158) rfl ((if0 _ _).trans (feq (by decide : ¬ ((1 : Int32) = (0 : Int32)))).1) ?_
    show Steps p.tables e below (T13.setTop (mkF m 161 #[.val (.int p1), .val (.int p2), .val (.int p3), .val (.int p4), .val (.int (2 : Int32)), .val (.ref b1), .val (.ref b7), .unset, .unset] [])) _
    refine own_blk X13 hx bl0_161_2 (own_hb hby bd0_161_2) (pc' := 164) (Ls' := #[.val (.int p1), .val (.int p2), .val (.int p3), .val (.int p4), .val (.int (2 : Int32)), .val (.ref b1), .val (.ref b7), .unset, .unset]) (st' := [(.int (4 : Int32)), (.ref b7)]) rfl ?_
    show Steps p.tables e below (T13.setTop (mkF m 164 #[.val (.int p1), .val (.int p2), .val (.int p3), .val (.int p4), .val (.int (2 : Int32)), .val (.ref b1), .val (.ref b7), .unset, .unset] [(.int (4 : Int32)), (.ref b7)])) _
    refine st14 _ ?_
    show Steps p.tables e below (T14.setTop (mkF m 167 #[.val (.int p1), .val (.int p2), .val (.int p3), .val (.int p4), .val (.int (2 : Int32)), .val (.ref b1), .val (.ref b7), .unset, .unset] [(.int (1 : Int32))])) _
    refine XS.ifNo X14.here hx rfl (hb hby at_167) rfl ((if0 _ _).trans (feq (by decide : ¬ ((1 : Int32) = (0 : Int32)))).1) ?_
    show Steps p.tables e below (T14.setTop (mkF m 170 #[.val (.int p1), .val (.int p2), .val (.int p3), .val (.int p4), .val (.int (2 : Int32)), .val (.ref b1), .val (.ref b7), .unset, .unset] [])) _
    refine own_blk X14 hx bl0_170_2 (own_hb hby bd0_170_2) (pc' := 173) (Ls' := #[.val (.int p1), .val (.int p2), .val (.int p3), .val (.int p4), .val (.int (2 : Int32)), .val (.ref b1), .val (.ref b7), .unset, .unset]) (st' := [(.int (5 : Int32)), (.ref b7)]) rfl ?_
    show Steps p.tables e below (T14.setTop (mkF m 173 #[.val (.int p1), .val (.int p2), .val (.int p3), .val (.int p4), .val (.int (2 : Int32)), .val (.ref b1), .val (.ref b7), .unset, .unset] [(.int (5 : Int32)), (.ref b7)])) _
    refine st15 _ ?_
    show Steps p.tables e below (T15.setTop (mkF m 176 #[.val (.int p1), .val (.int p2), .val (.int p3), .val (.int p4), .val (.int (2 : Int32)), .val (.ref b1), .val (.ref b7), .unset, .unset] [(.int (1 : Int32))])) _
    refine XS.ifNo X15.here hx rfl (hb hby at_176) rfl ((if0 _ _).trans (feq (by decide : ¬ ((1 : Int32) = (0 : Int32)))).1) ?_
    show Steps p.tables e below (T15.setTop (mkF m 179 #[.val (.int p1), .val (.int p2), .val (.int p3), .val (.int p4), .val (.int (2 : Int32)), .val (.ref b1), .val (.ref b7), .unset, .unset] [])) _
    refine own_blk X15 hx bl0_179_2 (own_hb hby bd0_179_2) (pc' := 183) (Ls' := #[.val (.int p1), .val (.int p2), .val (.int p3), .val (.int p4), .val (.int (2 : Int32)), .val (.ref b1), .val (.ref b7), .unset, .unset]) (st' := [(.int (6 : Int32)), (.ref b7)]) rfl ?_
    show Steps p.tables e below (T15.setTop (mkF m 183 #[.val (.int p1), .val (.int p2), .val (.int p3), .val (.int p4), .val (.int (2 : Int32)), .val (.ref b1), .val (.ref b7), .unset, .unset] [(.int (6 : Int32)), (.ref b7)])) _
    refine st16 _ ?_
    show Steps p.tables e below (T16.setTop (mkF m 186 #[.val (.int p1), .val (.int p2), .val (.int p3), .val (.int p4), .val (.int (2 : Int32)), .val (.ref b1), .val (.ref b7), .unset, .unset] [(.int (1 : Int32))])) _
    refine XS.ifNo X16.here hx rfl (hb hby at_186) rfl ((if0 _ _).trans (feq (by decide : ¬ ((1 : Int32) = (0 : Int32)))).1) ?_
    show Steps p.tables e below (T16.setTop (mkF m 189 #[.val (.int p1), .val (.int p2), .val (.int p3), .val (.int p4), .val (.int (2 : Int32)), .val (.ref b1), .val (.ref b7), .unset, .unset] [])) _
    refine own_blk X16 hx bl0_189_2 (own_hb hby bd0_189_2) (pc' := 193) (Ls' := #[.val (.int p1), .val (.int p2), .val (.int p3), .val (.int p4), .val (.int (2 : Int32)), .val (.ref b1), .val (.ref b7), .unset, .unset]) (st' := [(.int (7 : Int32)), (.ref b7)]) rfl ?_
    show Steps p.tables e below (T16.setTop (mkF m 193 #[.val (.int p1), .val (.int p2), .val (.int p3), .val (.int p4), .val (.int (2 : Int32)), .val (.ref b1), .val (.ref b7), .unset, .unset] [(.int (7 : Int32)), (.ref b7)])) _
    refine st17 _ ?_
    show Steps p.tables e below (T17.setTop (mkF m 196 #[.val (.int p1), .val (.int p2), .val (.int p3), .val (.int p4), .val (.int (2 : Int32)), .val (.ref b1), .val (.ref b7), .unset, .unset] [(.int (1 : Int32))])) _
    refine XS.ifNo X17.here hx rfl (hb hby at_196) rfl ((if0 _ _).trans (feq (by decide : ¬ ((1 : Int32) = (0 : Int32)))).1) ?_
    show Steps p.tables e below (T17.setTop (mkF m 199 #[.val (.int p1), .val (.int p2), .val (.int p3), .val (.int p4), .val (.int (2 : Int32)), .val (.ref b1), .val (.ref b7), .unset, .unset] [])) _
    refine own_blk X17 hx bl0_199_4 (own_hb hby bd0_199_4) (pc' := 208) (Ls' := #[.val (.int p1), .val (.int p2), .val (.int p3), .val (.int p4), .val (.int (2 : Int32)), .val (.ref b1), .val (.ref b7), .val (.int (1 : Int32)), .unset]) (st' := [(.ref b1)]) rfl ?_
    show Steps p.tables e below (T17.setTop (mkF m 208 #[.val (.int p1), .val (.int p2), .val (.int p3), .val (.int p4), .val (.int (2 : Int32)), .val (.ref b1), .val (.ref b7), .val (.int (1 : Int32)), .unset] [(.ref b1)])) _
    refine X17.arraylength hx (by rw [e17]; exact Ar19.1) (State.isArrayOf_alike hZ.alike Ar19.2.1) (g := (mkF m 208 #[.val (.int p1), .val (.int p2), .val (.int p3), .val (.int p4), .val (.int (2 : Int32)), .val (.ref b1), .val (.ref b7), .val (.int (1 : Int32)), .unset] [(.ref b1)])) rfl rfl (hb hby at_208) _ ?_
    rw [len_of S19 N19_]
    show Steps p.tables e below (T17.setTop (mkF m 209 #[.val (.int p1), .val (.int p2), .val (.int p3), .val (.int p4), .val (.int (2 : Int32)), .val (.ref b1), .val (.ref b7), .val (.int (1 : Int32)), .unset] [(.int (2 : Int32))])) _
    refine own_blk X17 hx bl0_209_1 (own_hb hby bd0_209_1) (pc' := 211) (Ls' := #[.val (.int p1), .val (.int p2), .val (.int p3), .val (.int p4), .val (.int (2 : Int32)), .val (.ref b1), .val (.ref b7), .val (.int (1 : Int32)), .unset]) (st' := [(.int (2 : Int32)), (.int (2 : Int32))]) rfl ?_
    show Steps p.tables e below (T17.setTop (mkF m 211 #[.val (.int p1), .val (.int p2), .val (.int p3), .val (.int p4), .val (.int (2 : Int32)), .val (.ref b1), .val (.ref b7), .val (.int (1 : Int32)), .unset] [(.int (2 : Int32)), (.int (2 : Int32))])) _
    refine XS.icmpNo X17.here hx rfl (hb hby at_211) rfl (teq (by decide : (2 : Int32) = (2 : Int32))).2 ?_
    show Steps p.tables e below (T17.setTop (mkF m 214 #[.val (.int p1), .val (.int p2), .val (.int p3), .val (.int p4), .val (.int (2 : Int32)), .val (.ref b1), .val (.ref b7), .val (.int (1 : Int32)), .unset] [])) _
    refine own_blk X17 hx bl0_214_3 (own_hb hby bd0_214_3) (pc' := 218) (Ls' := #[.val (.int p1), .val (.int p2), .val (.int p3), .val (.int p4), .val (.int (2 : Int32)), .val (.ref b1), .val (.ref b7), .val (.int (1 : Int32)), .unset]) (st' := [(.int p2), (.int (0 : Int32)), (.ref b1)]) rfl ?_
    show Steps p.tables e below (T17.setTop (mkF m 218 #[.val (.int p1), .val (.int p2), .val (.int p3), .val (.int p4), .val (.int (2 : Int32)), .val (.ref b1), .val (.ref b7), .val (.int (1 : Int32)), .unset] [(.int p2), (.int (0 : Int32)), (.ref b1)])) _
    refine st20 _ ?_
    show Steps p.tables e below (T20.setTop (mkF m 221 #[.val (.int p1), .val (.int p2), .val (.int p3), .val (.int p4), .val (.int (2 : Int32)), .val (.ref b1), .val (.ref b7), .val (.int (1 : Int32)), .unset] [(.int (1 : Int32))])) _
    refine XS.ifNo X20.here hx rfl (hb hby at_221) rfl ((if0 _ _).trans (feq (by decide : ¬ ((1 : Int32) = (0 : Int32)))).1) ?_
    show Steps p.tables e below (T20.setTop (mkF m 224 #[.val (.int p1), .val (.int p2), .val (.int p3), .val (.int p4), .val (.int (2 : Int32)), .val (.ref b1), .val (.ref b7), .val (.int (1 : Int32)), .unset] [])) _
    refine own_blk X20 hx bl0_224_3 (own_hb hby bd0_224_3) (pc' := 228) (Ls' := #[.val (.int p1), .val (.int p2), .val (.int p3), .val (.int p4), .val (.int (2 : Int32)), .val (.ref b1), .val (.ref b7), .val (.int (1 : Int32)), .unset]) (st' := [(.int p3), (.int (1 : Int32)), (.ref b1)]) rfl ?_
    show Steps p.tables e below (T20.setTop (mkF m 228 #[.val (.int p1), .val (.int p2), .val (.int p3), .val (.int p4), .val (.int (2 : Int32)), .val (.ref b1), .val (.ref b7), .val (.int (1 : Int32)), .unset] [(.int p3), (.int (1 : Int32)), (.ref b1)])) _
    refine st21 _ ?_
    show Steps p.tables e below (T21.setTop (mkF m 231 #[.val (.int p1), .val (.int p2), .val (.int p3), .val (.int p4), .val (.int (2 : Int32)), .val (.ref b1), .val (.ref b7), .val (.int (1 : Int32)), .unset] [(.int (1 : Int32))])) _
    refine XS.ifNo X21.here hx rfl (hb hby at_231) rfl ((if0 _ _).trans (feq (by decide : ¬ ((1 : Int32) = (0 : Int32)))).1) ?_
    show Steps p.tables e below (T21.setTop (mkF m 234 #[.val (.int p1), .val (.int p2), .val (.int p3), .val (.int p4), .val (.int (2 : Int32)), .val (.ref b1), .val (.ref b7), .val (.int (1 : Int32)), .unset] [])) _
    refine own_blk X21 hx bl0_234_3 (own_hb hby bd0_234_3) (pc' := 238) (Ls' := #[.val (.int p1), .val (.int p2), .val (.int p3), .val (.int p4), .val (.int (2 : Int32)), .val (.ref b1), .val (.ref b7), .val (.int (1 : Int32)), .unset]) (st' := [(.int p4), (.int (2 : Int32)), (.ref b1)]) rfl ?_
    show Steps p.tables e below (T21.setTop (mkF m 238 #[.val (.int p1), .val (.int p2), .val (.int p3), .val (.int p4), .val (.int (2 : Int32)), .val (.ref b1), .val (.ref b7), .val (.int (1 : Int32)), .unset] [(.int p4), (.int (2 : Int32)), (.ref b1)])) _
    refine st22 _ ?_
    show Steps p.tables e below (T22.setTop (mkF m 241 #[.val (.int p1), .val (.int p2), .val (.int p3), .val (.int p4), .val (.int (2 : Int32)), .val (.ref b1), .val (.ref b7), .val (.int (1 : Int32)), .unset] [(.int (1 : Int32))])) _
    refine XS.ifNo X22.here hx rfl (hb hby at_241) rfl ((if0 _ _).trans (feq (by decide : ¬ ((1 : Int32) = (0 : Int32)))).1) ?_
    show Steps p.tables e below (T22.setTop (mkF m 244 #[.val (.int p1), .val (.int p2), .val (.int p3), .val (.int p4), .val (.int (2 : Int32)), .val (.ref b1), .val (.ref b7), .val (.int (1 : Int32)), .unset] [])) _
    refine own_blk X22 hx bl0_244_5 (own_hb hby bd0_244_5) (pc' := 250) (Ls' := #[.val (.int p1), .val (.int p2), .val (.int p3), .val (.int p4), .val (.int (2 : Int32)), .val (.ref b1), .val (.ref b7), .val (.int (1 : Int32)), .unset]) (st' := [(.int (p2 ^^^ p3)), (.int (3 : Int32)), (.ref b1)]) rfl ?_
    show Steps p.tables e below (T22.setTop (mkF m 250 #[.val (.int p1), .val (.int p2), .val (.int p3), .val (.int p4), .val (.int (2 : Int32)), .val (.ref b1), .val (.ref b7), .val (.int (1 : Int32)), .unset] [(.int (p2 ^^^ p3)), (.int (3 : Int32)), (.ref b1)])) _
    refine st23 _ ?_
    show Steps p.tables e below (T23.setTop (mkF m 253 #[.val (.int p1), .val (.int p2), .val (.int p3), .val (.int p4), .val (.int (2 : Int32)), .val (.ref b1), .val (.ref b7), .val (.int (1 : Int32)), .unset] [(.int (1 : Int32))])) _
    refine XS.ifNo X23.here hx rfl (hb hby at_253) rfl ((if0 _ _).trans (feq (by decide : ¬ ((1 : Int32) = (0 : Int32)))).1) ?_
    show Steps p.tables e below (T23.setTop (mkF m 256 #[.val (.int p1), .val (.int p2), .val (.int p3), .val (.int p4), .val (.int (2 : Int32)), .val (.ref b1), .val (.ref b7), .val (.int (1 : Int32)), .unset] [])) _
    refine own_blk X23 hx bl0_256_5 (own_hb hby bd0_256_5) (pc' := 262) (Ls' := #[.val (.int p1), .val (.int p2), .val (.int p3), .val (.int p4), .val (.int (2 : Int32)), .val (.ref b1), .val (.ref b7), .val (.int (1 : Int32)), .unset]) (st' := [(.int (p3 - p4)), (.int (4 : Int32)), (.ref b1)]) rfl ?_
    show Steps p.tables e below (T23.setTop (mkF m 262 #[.val (.int p1), .val (.int p2), .val (.int p3), .val (.int p4), .val (.int (2 : Int32)), .val (.ref b1), .val (.ref b7), .val (.int (1 : Int32)), .unset] [(.int (p3 - p4)), (.int (4 : Int32)), (.ref b1)])) _
    refine st24 _ ?_
    show Steps p.tables e below (T24.setTop (mkF m 265 #[.val (.int p1), .val (.int p2), .val (.int p3), .val (.int p4), .val (.int (2 : Int32)), .val (.ref b1), .val (.ref b7), .val (.int (1 : Int32)), .unset] [(.int (1 : Int32))])) _
    refine XS.ifNo X24.here hx rfl (hb hby at_265) rfl ((if0 _ _).trans (feq (by decide : ¬ ((1 : Int32) = (0 : Int32)))).1) ?_
    show Steps p.tables e below (T24.setTop (mkF m 268 #[.val (.int p1), .val (.int p2), .val (.int p3), .val (.int p4), .val (.int (2 : Int32)), .val (.ref b1), .val (.ref b7), .val (.int (1 : Int32)), .unset] [])) _
    refine own_blk X24 hx bl0_268_5 (own_hb hby bd0_268_5) (pc' := 274) (Ls' := #[.val (.int p1), .val (.int p2), .val (.int p3), .val (.int p4), .val (.int (2 : Int32)), .val (.ref b1), .val (.ref b7), .val (.int (1 : Int32)), .unset]) (st' := [(.int (p2 ^^^ (-1 : Int32))), (.int (5 : Int32)), (.ref b1)]) rfl ?_
    show Steps p.tables e below (T24.setTop (mkF m 274 #[.val (.int p1), .val (.int p2), .val (.int p3), .val (.int p4), .val (.int (2 : Int32)), .val (.ref b1), .val (.ref b7), .val (.int (1 : Int32)), .unset] [(.int (p2 ^^^ (-1 : Int32))), (.int (5 : Int32)), (.ref b1)])) _
    refine st25 _ ?_
    show Steps p.tables e below (T25.setTop (mkF m 277 #[.val (.int p1), .val (.int p2), .val (.int p3), .val (.int p4), .val (.int (2 : Int32)), .val (.ref b1), .val (.ref b7), .val (.int (1 : Int32)), .unset] [(.int (1 : Int32))])) _
    refine XS.ifNo X25.here hx rfl (hb hby at_277) rfl ((if0 _ _).trans (feq (by decide : ¬ ((1 : Int32) = (0 : Int32)))).1) ?_
    show Steps p.tables e below (T25.setTop (mkF m 280 #[.val (.int p1), .val (.int p2), .val (.int p3), .val (.int p4), .val (.int (2 : Int32)), .val (.ref b1), .val (.ref b7), .val (.int (1 : Int32)), .unset] [])) _
    refine own_blk X25 hx bl0_280_5 (own_hb hby bd0_280_5) (pc' := 288) (Ls' := #[.val (.int p1), .val (.int p2), .val (.int p3), .val (.int p4), .val (.int (2 : Int32)), .val (.ref b1), .val (.ref b7), .val (.int (1 : Int32)), .unset]) (st' := [(.int (p4 * (31 : Int32))), (.int (6 : Int32)), (.ref b1)]) rfl ?_
    show Steps p.tables e below (T25.setTop (mkF m 288 #[.val (.int p1), .val (.int p2), .val (.int p3), .val (.int p4), .val (.int (2 : Int32)), .val (.ref b1), .val (.ref b7), .val (.int (1 : Int32)), .unset] [(.int (p4 * (31 : Int32))), (.int (6 : Int32)), (.ref b1)])) _
    refine st26 _ ?_
    show Steps p.tables e below (T26.setTop (mkF m 291 #[.val (.int p1), .val (.int p2), .val (.int p3), .val (.int p4), .val (.int (2 : Int32)), .val (.ref b1), .val (.ref b7), .val (.int (1 : Int32)), .unset] [(.int (1 : Int32))])) _
    refine XS.ifNo X26.here hx rfl (hb hby at_291) rfl ((if0 _ _).trans (feq (by decide : ¬ ((1 : Int32) = (0 : Int32)))).1) ?_
    show Steps p.tables e below (T26.setTop (mkF m 294 #[.val (.int p1), .val (.int p2), .val (.int p3), .val (.int p4), .val (.int (2 : Int32)), .val (.ref b1), .val (.ref b7), .val (.int (1 : Int32)), .unset] [])) _
    refine own_blk X26 hx bl0_294_4 (own_hb hby bd0_294_4) (pc' := 303) (Ls' := #[.val (.int p1), .val (.int p2), .val (.int p3), .val (.int p4), .val (.int (2 : Int32)), .val (.ref b1), .val (.ref b7), .val (.int (1 : Int32)), .val (.int (1 : Int32))]) (st' := [(.int (1 : Int32))]) rfl ?_
    show Steps p.tables e below (T26.setTop (mkF m 303 #[.val (.int p1), .val (.int p2), .val (.int p3), .val (.int p4), .val (.int (2 : Int32)), .val (.ref b1), .val (.ref b7), .val (.int (1 : Int32)), .val (.int (1 : Int32))] [(.int (1 : Int32))])) _
    refine XS.ifNo X26.here hx rfl (hb hby at_303) rfl ((if0 _ _).trans (feq (by decide : ¬ ((1 : Int32) = (0 : Int32)))).1) ?_
    show Steps p.tables e below (T26.setTop (mkF m 306 #[.val (.int p1), .val (.int p2), .val (.int p3), .val (.int p4), .val (.int (2 : Int32)), .val (.ref b1), .val (.ref b7), .val (.int (1 : Int32)), .val (.int (1 : Int32))] [])) _
    refine own_blk X26 hx bl0_306_1 (own_hb hby bd0_306_1) (pc' := 308) (Ls' := #[.val (.int p1), .val (.int p2), .val (.int p3), .val (.int p4), .val (.int (2 : Int32)), .val (.ref b1), .val (.ref b7), .val (.int (1 : Int32)), .val (.int (1 : Int32))]) (st' := [(.int (1 : Int32))]) rfl ?_
    show Steps p.tables e below (T26.setTop (mkF m 308 #[.val (.int p1), .val (.int p2), .val (.int p3), .val (.int p4), .val (.int (2 : Int32)), .val (.ref b1), .val (.ref b7), .val (.int (1 : Int32)), .val (.int (1 : Int32))] [(.int (1 : Int32))])) _
    refine XS.ifNo X26.here hx rfl (hb hby at_308) rfl ((if0 _ _).trans (feq (by decide : ¬ ((1 : Int32) = (0 : Int32)))).1) ?_
    show Steps p.tables e below (T26.setTop (mkF m 311 #[.val (.int p1), .val (.int p2), .val (.int p3), .val (.int p4), .val (.int (2 : Int32)), .val (.ref b1), .val (.ref b7), .val (.int (1 : Int32)), .val (.int (1 : Int32))] [])) _
    refine own_blk X26 hx bl0_311_2 (own_hb hby bd0_311_2) (pc' := 316) (Ls' := #[.val (.int p1), .val (.int p2), .val (.int p3), .val (.int p4), .val (.int (2 : Int32)), .val (.ref b1), .val (.ref b7), .val (.int (1 : Int32)), .val (.int (1 : Int32))]) (st' := [(.int (1 : Int32))]) rfl ?_
    show Steps p.tables e below (T26.setTop (mkF m 316 #[.val (.int p1), .val (.int p2), .val (.int p3), .val (.int p4), .val (.int (2 : Int32)), .val (.ref b1), .val (.ref b7), .val (.int (1 : Int32)), .val (.int (1 : Int32))] [(.int (1 : Int32))])) _
    exact retN X26 hx (t := .boolean) Bd.returns (by simp) (hb hby at_316) hr
  · show Q0_2 Z p1 p2 p3 p4 h0 n0 _ T26.heap _
    rw [e26]
    exact ⟨by rw [f0_2], N26⟩

def Q1_3 (Z : State) (a1 : Addr) (k_a1 : ClassId) (vs1 : List Value) (h0 : Heap) (n0 : Nat) (v : Option Value) (h : Heap) (L : List Loc) : Prop := ∃ (b : Addr) (k : ClassId), v = some (.ref b) ∧ Fr n0 L ∧ Keep h0 h [] ∧ n0 ≤ b ∧ h0.size ≤ b ∧ Arv Z h b k .int (4 : Int32) [(.int (0 : Int32)), (.int (1 : Int32)), (.int (2 : Int32)), (.int (3 : Int32))] (.int (0 : Int32))
set_option maxRecDepth 65536 in
set_option maxHeartbeats 40000000 in
theorem rm1_3 (l : Launch) (Z : State) (a0 : Array Value) (hw : ∀ d ∈ tables_1, d.before a0 Z = true) (ws : List Jvm.Cond) (a1 : Addr) (k_a1 : ClassId) (vs1 : List Value) (h0 : Heap) (n0 : Nat) (Z0 : n0 ≤ h0.size) (V_a1 : Arv Z h0 a1 k_a1 .int (3 : Int32) vs1 (.int (0 : Int32))) :
    MetFree l (⟨"com/example/varel/varel/text/EditDistance", "start", "([I)[I"⟩ : MethodName) (head1 (Jvm.Cond.code (⟨"com/example/varel/varel/text/EditDistance", "start", "([I)[I"⟩ : MethodName) prog_54_method_4_code 3 (some (.array .int)) :: ws) ({ frames := 0, cells := 1, slots := 4, locals := 0 } : Room)) (fun a U => a = #[(.ref a1)] ∧ Z.Warmed39 U.vm ∧ U.heap = h0) (fun _ _ _ _ _ => True) (fun _ U o U' => ∃ v L, o = .returned v ∧ Q1_3 Z a1 k_a1 vs1 h0 n0 v U'.heap L ∧ FrameEnd U o U' L ({ frames := 0, cells := 1, slots := 4, locals := 0 } : Room).cells ({ frames := 0, cells := 1, slots := 4, locals := 0 } : Room).slots) := by
  refine MetFree.of_bodySF (plainFor_of_name pn_1) hisR ?_
  intro p e s m args below meth c s₁ Bd hml0 hP hK
  obtain ⟨rfl, hZ, hh⟩ := hP
  have hx := Bd.exec
  have hby := Bd.bytes
  have hml : c.maxLocals = 3 := hml0
  have hown : s.vm.findClass "com/example/varel/varel/text/EditDistance" = some m.cls := findClass_of_methodNamed Bd.named
  have hnm := (name_of_methodNamed Bd.named Bd.method).1
  have X0 : Stand p l e ({ frames := 0, cells := 1, slots := 4, locals := 0 } : Room) s m #[(.ref a1)] below meth c s₁ [] 0 0 := Stand.of_body Bd
  have e0 : s₁.heap = h0 := by rw [← hh, Bd.state]; rfl
  have N0 := Fr.nil n0
  have pre0 : ∀ t, Steps p.tables e below (s₁.setTop (mkF m 0 #[.val (.ref a1), .unset, .unset] [])) t → Steps p.tables e below (s₁.setTop (entryFrame m #[(.ref a1)] 3)) t := fun t k => castTop (ef_1 m a1) k
  obtain ⟨cl1, Ar1, qq1, S1, N1_, H1, G1⟩ := id V_a1
  obtain ⟨T2, h2, k2, X2, e2, E2, A2, st2⟩ := newP X0 hx hZ (hw _ (List.mem_of_getElem? (i := 0) rfl)) e0 (g := (mkF m 4 #[.val (.ref a1), .unset, .unset] [(.int (4 : Int32))])) rfl (hb hby d1_4) rfl (by decide) (cap := 4) (by decide) (by decide) (by decide) (by decide)
  obtain ⟨b2, g2⟩ : ∃ z, z = h0.size := ⟨_, rfl⟩
  rw [← g2] at A2 st2
  have ne_a1_b2 : a1 ≠ b2 := Nat.ne_of_lt (Nat.lt_of_lt_of_le V_a1.lt (Nat.le_of_eq g2.symm))
  have g_b2 : n0 ≤ b2 := Nat.le_trans Z0 (Nat.le_of_eq g2.symm)
  have sz_b2 : h0.size ≤ b2 := Nat.le_trans (Keep.refl h0 []).1 (Nat.le_of_eq g2.symm)
  have zs3 : n0 ≤ h2.size := Nat.le_trans Z0 E2.1
  have kp4 : Keep h0 h2 [] := (Keep.refl h0 []).ext E2
  have V_b2 : Arv Z h2 b2 k2 .int (4 : Int32) [(.int (0 : Int32)), (.int (0 : Int32)), (.int (0 : Int32)), (.int (0 : Int32))] (.int (0 : Int32)) := (Arv.new A2 (by decide)).pad (pad_rep [] (.int (0 : Int32)) 4)
  have fa5 : Arv Z h2 a1 k_a1 .int (3 : Int32) vs1 (.int (0 : Int32)) := (V_a1.ext E2)
  obtain ⟨cl6, Ar6, qq6, S6, N6_, H6, G6⟩ := id fa5
  obtain ⟨cl7, Ar7, qq7, S7, N7_, H7, G7⟩ := id V_b2
  have hin7 : ¬ ((0 : Int32) < 0 ∨ cl7.slots.size ≤ ((0 : Int32)).toNatClampNeg) := inb_of S7 ⟨by decide, by decide⟩
  obtain ⟨T7, h7, X7, e7, W7, st7⟩ := stI X2 hx hZ e2 Ar7 (j := (0 : Int32)) hin7 (g := (mkF m 18 #[.val (.ref a1), .val (.ref b2), .val (.int (0 : Int32))] [(.int (0 : Int32)), (.int (0 : Int32)), (.ref b2)])) rfl rfl (hb hby d1_18)
  have V7 : Arv Z h7 b2 k2 .int (4 : Int32) [(.int (0 : Int32)), (.int (0 : Int32)), (.int (0 : Int32)), (.int (0 : Int32))] (.int (0 : Int32)) := Arv.set Ar7 qq7 S7 N7_ H7 G7 rfl W7 0 rfl (Nat.le_of_ble_eq_true rfl)
  have zs8 : n0 ≤ h7.size := Nat.le_trans zs3 (Keep.of_wr W7).1
  have kp9 : Keep h0 h7 [] := kp4.wr W7 (Or.inr sz_b2)
  have N7 := Fr.snoc X7 N0 g_b2
  have fa10 : Arv Z h7 a1 k_a1 .int (3 : Int32) vs1 (.int (0 : Int32)) := (fa5.other W7 ne_a1_b2)
  obtain ⟨cl11, Ar11, qq11, S11, N11_, H11, G11⟩ := id fa10
  obtain ⟨cl12, Ar12, qq12, S12, N12_, H12, G12⟩ := id V7
  have hin12 : ¬ ((1 : Int32) < 0 ∨ cl12.slots.size ≤ ((1 : Int32)).toNatClampNeg) := inb_of S12 ⟨by decide, by decide⟩
  obtain ⟨T12, h12, X12, e12, W12, st12⟩ := stI X7 hx hZ e7 Ar12 (j := (1 : Int32)) hin12 (g := (mkF m 18 #[.val (.ref a1), .val (.ref b2), .val (.int (1 : Int32))] [(.int (1 : Int32)), (.int (1 : Int32)), (.ref b2)])) rfl rfl (hb hby d1_18)
  have V12 : Arv Z h12 b2 k2 .int (4 : Int32) [(.int (0 : Int32)), (.int (1 : Int32)), (.int (0 : Int32)), (.int (0 : Int32))] (.int (0 : Int32)) := Arv.set Ar12 qq12 S12 N12_ H12 G12 rfl W12 1 rfl (Nat.le_of_ble_eq_true rfl)
  have zs13 : n0 ≤ h12.size := Nat.le_trans zs8 (Keep.of_wr W12).1
  have kp14 : Keep h0 h12 [] := kp9.wr W12 (Or.inr sz_b2)
  have N12 := Fr.snoc X12 N7 g_b2
  have fa15 : Arv Z h12 a1 k_a1 .int (3 : Int32) vs1 (.int (0 : Int32)) := (fa10.other W12 ne_a1_b2)
  obtain ⟨cl16, Ar16, qq16, S16, N16_, H16, G16⟩ := id fa15
  obtain ⟨cl17, Ar17, qq17, S17, N17_, H17, G17⟩ := id V12
  have hin17 : ¬ ((2 : Int32) < 0 ∨ cl17.slots.size ≤ ((2 : Int32)).toNatClampNeg) := inb_of S17 ⟨by decide, by decide⟩
  obtain ⟨T17, h17, X17, e17, W17, st17⟩ := stI X12 hx hZ e12 Ar17 (j := (2 : Int32)) hin17 (g := (mkF m 18 #[.val (.ref a1), .val (.ref b2), .val (.int (2 : Int32))] [(.int (2 : Int32)), (.int (2 : Int32)), (.ref b2)])) rfl rfl (hb hby d1_18)
  have V17 : Arv Z h17 b2 k2 .int (4 : Int32) [(.int (0 : Int32)), (.int (1 : Int32)), (.int (2 : Int32)), (.int (0 : Int32))] (.int (0 : Int32)) := Arv.set Ar17 qq17 S17 N17_ H17 G17 rfl W17 2 rfl (Nat.le_of_ble_eq_true rfl)
  have zs18 : n0 ≤ h17.size := Nat.le_trans zs13 (Keep.of_wr W17).1
  have kp19 : Keep h0 h17 [] := kp14.wr W17 (Or.inr sz_b2)
  have N17 := Fr.snoc X17 N12 g_b2
  have fa20 : Arv Z h17 a1 k_a1 .int (3 : Int32) vs1 (.int (0 : Int32)) := (fa15.other W17 ne_a1_b2)
  obtain ⟨cl21, Ar21, qq21, S21, N21_, H21, G21⟩ := id fa20
  obtain ⟨cl22, Ar22, qq22, S22, N22_, H22, G22⟩ := id V17
  have hin22 : ¬ ((3 : Int32) < 0 ∨ cl22.slots.size ≤ ((3 : Int32)).toNatClampNeg) := inb_of S22 ⟨by decide, by decide⟩
  obtain ⟨T22, h22, X22, e22, W22, st22⟩ := stI X17 hx hZ e17 Ar22 (j := (3 : Int32)) hin22 (g := (mkF m 18 #[.val (.ref a1), .val (.ref b2), .val (.int (3 : Int32))] [(.int (3 : Int32)), (.int (3 : Int32)), (.ref b2)])) rfl rfl (hb hby d1_18)
  have V22 : Arv Z h22 b2 k2 .int (4 : Int32) [(.int (0 : Int32)), (.int (1 : Int32)), (.int (2 : Int32)), (.int (3 : Int32))] (.int (0 : Int32)) := Arv.set Ar22 qq22 S22 N22_ H22 G22 rfl W22 3 rfl (Nat.le_of_ble_eq_true rfl)
  have zs23 : n0 ≤ h22.size := Nat.le_trans zs18 (Keep.of_wr W22).1
  have kp24 : Keep h0 h22 [] := kp19.wr W22 (Or.inr sz_b2)
  have N22 := Fr.snoc X22 N17 g_b2
  have fa25 : Arv Z h22 a1 k_a1 .int (3 : Int32) vs1 (.int (0 : Int32)) := (fa20.other W22 ne_a1_b2)
  obtain ⟨cl26, Ar26, qq26, S26, N26_, H26, G26⟩ := id fa25
  obtain ⟨fs, hr, hrun, hended, hW, hsame⟩ := X22.leave (v := some (.ref b2)) (fun h => by rw [Bd.returns] at h; cases h)
  refine ⟨_, _, pre0 _ ?_, hrun, hended, _, _, rfl, ?_, ⟨_, rfl⟩, hW, hsame.mono (by decide) (by decide)⟩
  · show Steps p.tables e below (s₁.setTop (mkF m 0 #[.val (.ref a1), .unset, .unset] [])) _
    refine own_blk X0 hx bl1_0_1 (own_hb hby bd1_0_1) (pc' := 1) (Ls' := #[.val (.ref a1), .unset, .unset]) (st' := [(.ref a1)]) rfl ?_
    show Steps p.tables e below (s₁.setTop (mkF m 1 #[.val (.ref a1), .unset, .unset] [(.ref a1)])) _
    refine X0.arraylength hx (by rw [e0]; exact Ar1.1) (State.isArrayOf_alike hZ.alike Ar1.2.1) (g := (mkF m 1 #[.val (.ref a1), .unset, .unset] [(.ref a1)])) rfl rfl (hb hby d1_1) _ ?_
    rw [len_of S1 N1_]
    show Steps p.tables e below (s₁.setTop (mkF m 2 #[.val (.ref a1), .unset, .unset] [(.int (3 : Int32))])) _
    refine own_blk X0 hx bl1_2_2 (own_hb hby bd1_2_2) (pc' := 4) (Ls' := #[.val (.ref a1), .unset, .unset]) (st' := [(.int (4 : Int32))]) rfl ?_
    show Steps p.tables e below (s₁.setTop (mkF m 4 #[.val (.ref a1), .unset, .unset] [(.int (4 : Int32))])) _
    refine st2 _ ?_
    show Steps p.tables e below (T2.setTop (mkF m 6 #[.val (.ref a1), .unset, .unset] [(.ref b2)])) _
    refine own_blk X2 hx bl1_6_5 (own_hb hby bd1_6_5) (pc' := 11) (Ls' := #[.val (.ref a1), .val (.ref b2), .val (.int (0 : Int32))]) (st' := [(.ref a1), (.int (0 : Int32))]) rfl ?_
    show Steps p.tables e below (T2.setTop (mkF m 11 #[.val (.ref a1), .val (.ref b2), .val (.int (0 : Int32))] [(.ref a1), (.int (0 : Int32))])) _
    refine X2.arraylength hx (by rw [e2]; exact Ar6.1) (State.isArrayOf_alike hZ.alike Ar6.2.1) (g := (mkF m 11 #[.val (.ref a1), .val (.ref b2), .val (.int (0 : Int32))] [(.ref a1), (.int (0 : Int32))])) rfl rfl (hb hby d1_11) _ ?_
    rw [len_of S6 N6_]
    show Steps p.tables e below (T2.setTop (mkF m 12 #[.val (.ref a1), .val (.ref b2), .val (.int (0 : Int32))] [(.int (3 : Int32)), (.int (0 : Int32))])) _
    refine XS.icmpNo X2.here hx rfl (hb hby d1_12) rfl (flt (by decide : ¬ ((3 : Int32) < (0 : Int32)))).2.2.1 ?_
    show Steps p.tables e below (T2.setTop (mkF m 15 #[.val (.ref a1), .val (.ref b2), .val (.int (0 : Int32))] [])) _
    refine own_blk X2 hx bl1_15_3 (own_hb hby bd1_15_3) (pc' := 18) (Ls' := #[.val (.ref a1), .val (.ref b2), .val (.int (0 : Int32))]) (st' := [(.int (0 : Int32)), (.int (0 : Int32)), (.ref b2)]) rfl ?_
    show Steps p.tables e below (T2.setTop (mkF m 18 #[.val (.ref a1), .val (.ref b2), .val (.int (0 : Int32))] [(.int (0 : Int32)), (.int (0 : Int32)), (.ref b2)])) _
    refine st7 _ ?_
    show Steps p.tables e below (T7.setTop (mkF m 19 #[.val (.ref a1), .val (.ref b2), .val (.int (0 : Int32))] [])) _
    refine own_blk X7 hx bl1_19_4 (own_hb hby bd1_19_4) (pc' := 11) (Ls' := #[.val (.ref a1), .val (.ref b2), .val (.int (1 : Int32))]) (st' := [(.ref a1), (.int (1 : Int32))]) rfl ?_
    show Steps p.tables e below (T7.setTop (mkF m 11 #[.val (.ref a1), .val (.ref b2), .val (.int (1 : Int32))] [(.ref a1), (.int (1 : Int32))])) _
    refine X7.arraylength hx (by rw [e7]; exact Ar11.1) (State.isArrayOf_alike hZ.alike Ar11.2.1) (g := (mkF m 11 #[.val (.ref a1), .val (.ref b2), .val (.int (1 : Int32))] [(.ref a1), (.int (1 : Int32))])) rfl rfl (hb hby d1_11) _ ?_
    rw [len_of S11 N11_]
    show Steps p.tables e below (T7.setTop (mkF m 12 #[.val (.ref a1), .val (.ref b2), .val (.int (1 : Int32))] [(.int (3 : Int32)), (.int (1 : Int32))])) _
    refine XS.icmpNo X7.here hx rfl (hb hby d1_12) rfl (flt (by decide : ¬ ((3 : Int32) < (1 : Int32)))).2.2.1 ?_
    show Steps p.tables e below (T7.setTop (mkF m 15 #[.val (.ref a1), .val (.ref b2), .val (.int (1 : Int32))] [])) _
    refine own_blk X7 hx bl1_15_3 (own_hb hby bd1_15_3) (pc' := 18) (Ls' := #[.val (.ref a1), .val (.ref b2), .val (.int (1 : Int32))]) (st' := [(.int (1 : Int32)), (.int (1 : Int32)), (.ref b2)]) rfl ?_
    show Steps p.tables e below (T7.setTop (mkF m 18 #[.val (.ref a1), .val (.ref b2), .val (.int (1 : Int32))] [(.int (1 : Int32)), (.int (1 : Int32)), (.ref b2)])) _
    refine st12 _ ?_
    show Steps p.tables e below (T12.setTop (mkF m 19 #[.val (.ref a1), .val (.ref b2), .val (.int (1 : Int32))] [])) _
    refine own_blk X12 hx bl1_19_4 (own_hb hby bd1_19_4) (pc' := 11) (Ls' := #[.val (.ref a1), .val (.ref b2), .val (.int (2 : Int32))]) (st' := [(.ref a1), (.int (2 : Int32))]) rfl ?_
    show Steps p.tables e below (T12.setTop (mkF m 11 #[.val (.ref a1), .val (.ref b2), .val (.int (2 : Int32))] [(.ref a1), (.int (2 : Int32))])) _
    refine X12.arraylength hx (by rw [e12]; exact Ar16.1) (State.isArrayOf_alike hZ.alike Ar16.2.1) (g := (mkF m 11 #[.val (.ref a1), .val (.ref b2), .val (.int (2 : Int32))] [(.ref a1), (.int (2 : Int32))])) rfl rfl (hb hby d1_11) _ ?_
    rw [len_of S16 N16_]
    show Steps p.tables e below (T12.setTop (mkF m 12 #[.val (.ref a1), .val (.ref b2), .val (.int (2 : Int32))] [(.int (3 : Int32)), (.int (2 : Int32))])) _
    refine XS.icmpNo X12.here hx rfl (hb hby d1_12) rfl (flt (by decide : ¬ ((3 : Int32) < (2 : Int32)))).2.2.1 ?_
    show Steps p.tables e below (T12.setTop (mkF m 15 #[.val (.ref a1), .val (.ref b2), .val (.int (2 : Int32))] [])) _
    refine own_blk X12 hx bl1_15_3 (own_hb hby bd1_15_3) (pc' := 18) (Ls' := #[.val (.ref a1), .val (.ref b2), .val (.int (2 : Int32))]) (st' := [(.int (2 : Int32)), (.int (2 : Int32)), (.ref b2)]) rfl ?_
    show Steps p.tables e below (T12.setTop (mkF m 18 #[.val (.ref a1), .val (.ref b2), .val (.int (2 : Int32))] [(.int (2 : Int32)), (.int (2 : Int32)), (.ref b2)])) _
    refine st17 _ ?_
    show Steps p.tables e below (T17.setTop (mkF m 19 #[.val (.ref a1), .val (.ref b2), .val (.int (2 : Int32))] [])) _
    refine own_blk X17 hx bl1_19_4 (own_hb hby bd1_19_4) (pc' := 11) (Ls' := #[.val (.ref a1), .val (.ref b2), .val (.int (3 : Int32))]) (st' := [(.ref a1), (.int (3 : Int32))]) rfl ?_
    show Steps p.tables e below (T17.setTop (mkF m 11 #[.val (.ref a1), .val (.ref b2), .val (.int (3 : Int32))] [(.ref a1), (.int (3 : Int32))])) _
    refine X17.arraylength hx (by rw [e17]; exact Ar21.1) (State.isArrayOf_alike hZ.alike Ar21.2.1) (g := (mkF m 11 #[.val (.ref a1), .val (.ref b2), .val (.int (3 : Int32))] [(.ref a1), (.int (3 : Int32))])) rfl rfl (hb hby d1_11) _ ?_
    rw [len_of S21 N21_]
    show Steps p.tables e below (T17.setTop (mkF m 12 #[.val (.ref a1), .val (.ref b2), .val (.int (3 : Int32))] [(.int (3 : Int32)), (.int (3 : Int32))])) _
    refine XS.icmpNo X17.here hx rfl (hb hby d1_12) rfl (flt (by decide : ¬ ((3 : Int32) < (3 : Int32)))).2.2.1 ?_
    show Steps p.tables e below (T17.setTop (mkF m 15 #[.val (.ref a1), .val (.ref b2), .val (.int (3 : Int32))] [])) _
    refine own_blk X17 hx bl1_15_3 (own_hb hby bd1_15_3) (pc' := 18) (Ls' := #[.val (.ref a1), .val (.ref b2), .val (.int (3 : Int32))]) (st' := [(.int (3 : Int32)), (.int (3 : Int32)), (.ref b2)]) rfl ?_
    show Steps p.tables e below (T17.setTop (mkF m 18 #[.val (.ref a1), .val (.ref b2), .val (.int (3 : Int32))] [(.int (3 : Int32)), (.int (3 : Int32)), (.ref b2)])) _
    refine st22 _ ?_
    show Steps p.tables e below (T22.setTop (mkF m 19 #[.val (.ref a1), .val (.ref b2), .val (.int (3 : Int32))] [])) _
    refine own_blk X22 hx bl1_19_4 (own_hb hby bd1_19_4) (pc' := 11) (Ls' := #[.val (.ref a1), .val (.ref b2), .val (.int (4 : Int32))]) (st' := [(.ref a1), (.int (4 : Int32))]) rfl ?_
    show Steps p.tables e below (T22.setTop (mkF m 11 #[.val (.ref a1), .val (.ref b2), .val (.int (4 : Int32))] [(.ref a1), (.int (4 : Int32))])) _
    refine X22.arraylength hx (by rw [e22]; exact Ar26.1) (State.isArrayOf_alike hZ.alike Ar26.2.1) (g := (mkF m 11 #[.val (.ref a1), .val (.ref b2), .val (.int (4 : Int32))] [(.ref a1), (.int (4 : Int32))])) rfl rfl (hb hby d1_11) _ ?_
    rw [len_of S26 N26_]
    show Steps p.tables e below (T22.setTop (mkF m 12 #[.val (.ref a1), .val (.ref b2), .val (.int (4 : Int32))] [(.int (3 : Int32)), (.int (4 : Int32))])) _
    refine XS.icmpYes X22.here hx rfl (pc0 := 12) (pc' := 25) rfl (hb hby d1_12) rfl (tlt (by decide : (3 : Int32) < (4 : Int32))).2.2.1 (by decide) (by decide) ?_
    show Steps p.tables e below (T22.setTop (mkF m 25 #[.val (.ref a1), .val (.ref b2), .val (.int (4 : Int32))] [])) _
    refine own_blk X22 hx bl1_25_1 (own_hb hby bd1_25_1) (pc' := 26) (Ls' := #[.val (.ref a1), .val (.ref b2), .val (.int (4 : Int32))]) (st' := [(.ref b2)]) rfl ?_
    show Steps p.tables e below (T22.setTop (mkF m 26 #[.val (.ref a1), .val (.ref b2), .val (.int (4 : Int32))] [(.ref b2)])) _
    jvm_step X22.here [X22.here.top, hx, (hb hby d1_26), X22.method', Bd.returns, Value.isRef, FieldType.isReference]
    first | (intro acts; rw [hr _ acts rfl rfl rfl]) | rw [hr _ _ rfl rfl rfl]
    exact Steps.refl _
  · show Q1_3 Z a1 k_a1 vs1 h0 n0 _ T22.heap _
    rw [e22]
    exact ⟨b2, k2, rfl, N22, kp24, g_b2, sz_b2, V22⟩
def bl0_39_3 : List (Nat × Instr × Nat) := [(39, .aload 5, 2), (41, .iconst 2, 1), (42, .iload_n 3, 1)]
theorem bd0_39_3 : own_dec code bl0_39_3 = true := by decide +kernel

def f0_3 (p1 : Int32) (p2 : Int32) (p3 : Int32) (p4 : Int32) : Int32 := (1 : Int32)
def Q0_3 (Z : State) (p1 : Int32) (p2 : Int32) (p3 : Int32) (p4 : Int32) (h0 : Heap) (n0 : Nat) (v : Option Value) (h : Heap) (L : List Loc) : Prop := v = some (.int (f0_3 p1 p2 p3 p4)) ∧ Fr n0 L
set_option maxRecDepth 65536 in
set_option maxHeartbeats 40000000 in
theorem rm0_3 (l : Launch) (Z : State) (a0 : Array Value) (hw : ∀ d ∈ tables_1, d.before a0 Z = true) (ws : List Jvm.Cond) (p1 : Int32) (p2 : Int32) (p3 : Int32) (p4 : Int32) (h0 : Heap) (n0 : Nat) (Z0 : n0 ≤ h0.size) (hn : (p1 &&& (7 : Int32)) = (3 : Int32)) :
    MetFree l x (head1 (Jvm.Cond.code x code maxLocals ret :: ws) room_1) (fun a U => a = #[(.int p1), (.int p2), (.int p3), (.int p4)] ∧ Z.Warmed39 U.vm ∧ U.heap = h0) (fun _ _ _ _ _ => True) (fun _ U o U' => ∃ v L, o = .returned v ∧ Q0_3 Z p1 p2 p3 p4 h0 n0 v U'.heap L ∧ FrameEnd U o U' L room_1.cells room_1.slots) := by
  refine MetFree.of_bodySF (plainFor_of_name pn_0) hisR ?_
  intro p e s m args below meth c s₁ Bd hml0 hP hK
  obtain ⟨rfl, hZ, hh⟩ := hP
  have hx := Bd.exec
  have hby := Bd.bytes
  have hml : c.maxLocals = 9 := hml0
  have hown : s.vm.findClass "com/example/varel/varel/text/EditDistanceStartPinLaw" = some m.cls := findClass_of_methodNamed Bd.named
  have hnm := (name_of_methodNamed Bd.named Bd.method).1
  have X0 : Stand p l e room_1 s m #[(.int p1), (.int p2), (.int p3), (.int p4)] below meth c s₁ [] 0 0 := Stand.of_body Bd
  have e0 : s₁.heap = h0 := by rw [← hh, Bd.state]; rfl
  have N0 := Fr.nil n0
  have pre0 : ∀ t, Steps p.tables e below (s₁.setTop (mkF m 0 #[.val (.int p1), .val (.int p2), .val (.int p3), .val (.int p4), .unset, .unset, .unset, .unset, .unset] [])) t → Steps p.tables e below (s₁.setTop (entryFrame m #[(.int p1), (.int p2), (.int p3), (.int p4)] maxLocals)) t := fun t k => castTop (ef_0 m p1 p2 p3 p4) k
  obtain ⟨T1, h1, k1, X1, e1, E1, A1, st1⟩ := newP X0 hx hZ (hw _ (List.mem_of_getElem? (i := 0) rfl)) e0 (g := (mkF m 8 #[.val (.int p1), .val (.int p2), .val (.int p3), .val (.int p4), .val (.int (3 : Int32)), .unset, .unset, .unset, .unset] [(.int (3 : Int32))])) rfl (hb hby at_8) rfl (by decide) (cap := 3) (by decide) (by decide) (by decide) (by decide)
  obtain ⟨b1, g1⟩ : ∃ z, z = h0.size := ⟨_, rfl⟩
  rw [← g1] at A1 st1
  have g_b1 : n0 ≤ b1 := Nat.le_trans Z0 (Nat.le_of_eq g1.symm)
  have zs2 : n0 ≤ h1.size := Nat.le_trans Z0 E1.1
  have V_b1 : Arv Z h1 b1 k1 .int (3 : Int32) [(.int (0 : Int32)), (.int (0 : Int32)), (.int (0 : Int32))] (.int (0 : Int32)) := (Arv.new A1 (by decide)).pad (pad_rep [] (.int (0 : Int32)) 3)
  obtain ⟨cl3, Ar3, qq3, S3, N3_, H3, G3⟩ := id V_b1
  have hin3 : ¬ ((0 : Int32) < 0 ∨ cl3.slots.size ≤ ((0 : Int32)).toNatClampNeg) := inb_of S3 ⟨by decide, by decide⟩
  obtain ⟨T3, h3, X3, e3, W3, st3⟩ := stI X1 hx hZ e1 Ar3 (j := (0 : Int32)) hin3 (g := (mkF m 21 #[.val (.int p1), .val (.int p2), .val (.int p3), .val (.int p4), .val (.int (3 : Int32)), .val (.ref b1), .unset, .unset, .unset] [(.int p2), (.int (0 : Int32)), (.ref b1)])) rfl rfl (hb hby at_21)
  have V3 : Arv Z h3 b1 k1 .int (3 : Int32) [(.int p2), (.int (0 : Int32)), (.int (0 : Int32))] (.int (0 : Int32)) := Arv.set Ar3 qq3 S3 N3_ H3 G3 rfl W3 0 rfl (Nat.le_of_ble_eq_true rfl)
  have zs4 : n0 ≤ h3.size := Nat.le_trans zs2 (Keep.of_wr W3).1
  have N3 := Fr.snoc X3 N0 g_b1
  obtain ⟨cl5, Ar5, qq5, S5, N5_, H5, G5⟩ := id V3
  have hin5 : ¬ ((1 : Int32) < 0 ∨ cl5.slots.size ≤ ((1 : Int32)).toNatClampNeg) := inb_of S5 ⟨by decide, by decide⟩
  obtain ⟨T5, h5, X5, e5, W5, st5⟩ := stI X3 hx hZ e3 Ar5 (j := (1 : Int32)) hin5 (g := (mkF m 32 #[.val (.int p1), .val (.int p2), .val (.int p3), .val (.int p4), .val (.int (3 : Int32)), .val (.ref b1), .unset, .unset, .unset] [(.int p3), (.int (1 : Int32)), (.ref b1)])) rfl rfl (hb hby at_32)
  have V5 : Arv Z h5 b1 k1 .int (3 : Int32) [(.int p2), (.int p3), (.int (0 : Int32))] (.int (0 : Int32)) := Arv.set Ar5 qq5 S5 N5_ H5 G5 rfl W5 1 rfl (Nat.le_of_ble_eq_true rfl)
  have zs6 : n0 ≤ h5.size := Nat.le_trans zs4 (Keep.of_wr W5).1
  have N5 := Fr.snoc X5 N3 g_b1
  obtain ⟨cl7, Ar7, qq7, S7, N7_, H7, G7⟩ := id V5
  have hin7 : ¬ ((2 : Int32) < 0 ∨ cl7.slots.size ≤ ((2 : Int32)).toNatClampNeg) := inb_of S7 ⟨by decide, by decide⟩
  obtain ⟨T7, h7, X7, e7, W7, st7⟩ := stI X5 hx hZ e5 Ar7 (j := (2 : Int32)) hin7 (g := (mkF m 43 #[.val (.int p1), .val (.int p2), .val (.int p3), .val (.int p4), .val (.int (3 : Int32)), .val (.ref b1), .unset, .unset, .unset] [(.int p4), (.int (2 : Int32)), (.ref b1)])) rfl rfl (hb hby at_43)
  have V7 : Arv Z h7 b1 k1 .int (3 : Int32) [(.int p2), (.int p3), (.int p4)] (.int (0 : Int32)) := Arv.set Ar7 qq7 S7 N7_ H7 G7 rfl W7 2 rfl (Nat.le_of_ble_eq_true rfl)
  have zs8 : n0 ≤ h7.size := Nat.le_trans zs6 (Keep.of_wr W7).1
  have N7 := Fr.snoc X7 N5 g_b1
  obtain ⟨_, T9, Lc9, X9, hQ9, st9⟩ := own_callS X7 hx hZ (y := (⟨"com/example/varel/varel/text/EditDistance", "start", "([I)[I"⟩ : MethodName)) hown (hw _ (List.mem_of_getElem? (i := 1) rfl)) (hw _ (List.mem_of_getElem? (i := 2) rfl)) (hw _ (List.mem_of_getElem? (i := 3) rfl)) (hw _ (List.mem_of_getElem? (i := 4) rfl)) (by decide) (W := 0) (argsL := [(.ref b1)]) (rest := []) (rm1_3 l Z a0 hw [] b1 k1 [(.int p2), (.int p3), (.int p4)] h7 n0 zs8 V7) (by decide) (by decide) (c' := 2) (s' := 7) rfl rfl (by decide) (by decide) e7 (g := (mkF m 101 #[.val (.int p1), .val (.int p2), .val (.int p3), .val (.int p4), .val (.int (3 : Int32)), .val (.ref b1), .unset, .unset, .unset] [(.ref b1)])) rfl (by rw [hml]; rfl) (lenOf pd_0_0 rfl) rfl (by show 2 * 0 + _ ≤ _; exact Nat.le_of_eq rfl) (hb hby at_101)
  obtain ⟨b9, kk9, rfl, N9q, K9, g_b9, szz9, V_b9⟩ := hQ9
  have N9 := Fr.app N7 N9q
  have ne_b1_b9 : b1 ≠ b9 := Nat.ne_of_lt (Nat.lt_of_lt_of_le V7.lt szz9)
  have zs10 : n0 ≤ T9.heap.size := Nat.le_trans zs8 K9.1
  obtain ⟨cl11, Ar11, qq11, S11, N11_, H11, G11⟩ := id V_b9
  obtain ⟨_, T12, Lc12, X12, hQ12, st12⟩ := own_callS X9 hx hZ (y := (⟨"com/example/varel/varel/text/EditDistanceStartPinLaw", "at", "([II)Z"⟩ : MethodName)) hown (hw _ (List.mem_of_getElem? (i := 5) rfl)) (hw _ (List.mem_of_getElem? (i := 6) rfl)) (hw _ (List.mem_of_getElem? (i := 7) rfl)) (hw _ (List.mem_of_getElem? (i := 8) rfl)) (by decide) (W := 0) (argsL := [(.ref b9), (.int (0 : Int32))]) (rest := []) (rm2 l Z a0 hw [] b9 (0 : Int32) (0 : Int32) kk9 [(.int (0 : Int32)), (.int (1 : Int32)), (.int (2 : Int32)), (.int (3 : Int32))] (4 : Int32) T9.heap n0 zs10 V_b9 (by decide) (fun _ => rfl)) (by decide) (by decide) (c' := 2) (s' := 7) rfl rfl (by decide) (by decide) rfl (g := (mkF m 128 #[.val (.int p1), .val (.int p2), .val (.int p3), .val (.int p4), .val (.int (3 : Int32)), .val (.ref b1), .val (.ref b9), .unset, .unset] [(.int (0 : Int32)), (.ref b9)])) rfl (by rw [hml]; rfl) (lenOf pd_0_1 rfl) rfl (by show 2 * 0 + _ ≤ _; exact Nat.le_of_eq rfl) (hb hby at_128)
  obtain ⟨hv12, N12q, e12⟩ := hQ12
  have N12 := Fr.app N9 N12q
  rw [f2, if_pos (by decide : (0 : Int32) < (4 : Int32)), if_pos (by decide : (0 : Int32) = (0 : Int32))] at hv12
  subst hv12
  obtain ⟨_, T13, Lc13, X13, hQ13, st13⟩ := own_callS X12 hx hZ (y := (⟨"com/example/varel/varel/text/EditDistanceStartPinLaw", "at", "([II)Z"⟩ : MethodName)) hown (hw _ (List.mem_of_getElem? (i := 5) rfl)) (hw _ (List.mem_of_getElem? (i := 6) rfl)) (hw _ (List.mem_of_getElem? (i := 7) rfl)) (hw _ (List.mem_of_getElem? (i := 8) rfl)) (by decide) (W := 0) (argsL := [(.ref b9), (.int (1 : Int32))]) (rest := []) (rm2 l Z a0 hw [] b9 (1 : Int32) (1 : Int32) kk9 [(.int (0 : Int32)), (.int (1 : Int32)), (.int (2 : Int32)), (.int (3 : Int32))] (4 : Int32) T9.heap n0 zs10 V_b9 (by decide) (fun _ => rfl)) (by decide) (by decide) (c' := 2) (s' := 7) rfl rfl (by decide) (by decide) e12 (g := (mkF m 137 #[.val (.int p1), .val (.int p2), .val (.int p3), .val (.int p4), .val (.int (3 : Int32)), .val (.ref b1), .val (.ref b9), .unset, .unset] [(.int (1 : Int32)), (.ref b9)])) rfl (by rw [hml]; rfl) (lenOf pd_0_1 rfl) rfl (by show 2 * 0 + _ ≤ _; exact Nat.le_of_eq rfl) (hb hby at_137)
  obtain ⟨hv13, N13q, e13⟩ := hQ13
  have N13 := Fr.app N12 N13q
  rw [f2, if_pos (by decide : (1 : Int32) < (4 : Int32)), if_pos (by decide : (1 : Int32) = (1 : Int32))] at hv13
  subst hv13
  obtain ⟨_, T14, Lc14, X14, hQ14, st14⟩ := own_callS X13 hx hZ (y := (⟨"com/example/varel/varel/text/EditDistanceStartPinLaw", "at", "([II)Z"⟩ : MethodName)) hown (hw _ (List.mem_of_getElem? (i := 5) rfl)) (hw _ (List.mem_of_getElem? (i := 6) rfl)) (hw _ (List.mem_of_getElem? (i := 7) rfl)) (hw _ (List.mem_of_getElem? (i := 8) rfl)) (by decide) (W := 0) (argsL := [(.ref b9), (.int (2 : Int32))]) (rest := []) (rm2 l Z a0 hw [] b9 (2 : Int32) (2 : Int32) kk9 [(.int (0 : Int32)), (.int (1 : Int32)), (.int (2 : Int32)), (.int (3 : Int32))] (4 : Int32) T9.heap n0 zs10 V_b9 (by decide) (fun _ => rfl)) (by decide) (by decide) (c' := 2) (s' := 7) rfl rfl (by decide) (by decide) e13 (g := (mkF m 146 #[.val (.int p1), .val (.int p2), .val (.int p3), .val (.int p4), .val (.int (3 : Int32)), .val (.ref b1), .val (.ref b9), .unset, .unset] [(.int (2 : Int32)), (.ref b9)])) rfl (by rw [hml]; rfl) (lenOf pd_0_1 rfl) rfl (by show 2 * 0 + _ ≤ _; exact Nat.le_of_eq rfl) (hb hby at_146)
  obtain ⟨hv14, N14q, e14⟩ := hQ14
  have N14 := Fr.app N13 N14q
  rw [f2, if_pos (by decide : (2 : Int32) < (4 : Int32)), if_pos (by decide : (2 : Int32) = (2 : Int32))] at hv14
  subst hv14
  obtain ⟨_, T15, Lc15, X15, hQ15, st15⟩ := own_callS X14 hx hZ (y := (⟨"com/example/varel/varel/text/EditDistanceStartPinLaw", "at", "([II)Z"⟩ : MethodName)) hown (hw _ (List.mem_of_getElem? (i := 5) rfl)) (hw _ (List.mem_of_getElem? (i := 6) rfl)) (hw _ (List.mem_of_getElem? (i := 7) rfl)) (hw _ (List.mem_of_getElem? (i := 8) rfl)) (by decide) (W := 0) (argsL := [(.ref b9), (.int (3 : Int32))]) (rest := []) (rm2 l Z a0 hw [] b9 (3 : Int32) (3 : Int32) kk9 [(.int (0 : Int32)), (.int (1 : Int32)), (.int (2 : Int32)), (.int (3 : Int32))] (4 : Int32) T9.heap n0 zs10 V_b9 (by decide) (fun _ => rfl)) (by decide) (by decide) (c' := 2) (s' := 7) rfl rfl (by decide) (by decide) e14 (g := (mkF m 155 #[.val (.int p1), .val (.int p2), .val (.int p3), .val (.int p4), .val (.int (3 : Int32)), .val (.ref b1), .val (.ref b9), .unset, .unset] [(.int (3 : Int32)), (.ref b9)])) rfl (by rw [hml]; rfl) (lenOf pd_0_1 rfl) rfl (by show 2 * 0 + _ ≤ _; exact Nat.le_of_eq rfl) (hb hby at_155)
  obtain ⟨hv15, N15q, e15⟩ := hQ15
  have N15 := Fr.app N14 N15q
  rw [f2, if_pos (by decide : (3 : Int32) < (4 : Int32)), if_pos (by decide : (3 : Int32) = (3 : Int32))] at hv15
  subst hv15
  obtain ⟨_, T16, Lc16, X16, hQ16, st16⟩ := own_callS X15 hx hZ (y := (⟨"com/example/varel/varel/text/EditDistanceStartPinLaw", "at", "([II)Z"⟩ : MethodName)) hown (hw _ (List.mem_of_getElem? (i := 5) rfl)) (hw _ (List.mem_of_getElem? (i := 6) rfl)) (hw _ (List.mem_of_getElem? (i := 7) rfl)) (hw _ (List.mem_of_getElem? (i := 8) rfl)) (by decide) (W := 0) (argsL := [(.ref b9), (.int (4 : Int32))]) (rest := []) (rm2 l Z a0 hw [] b9 (4 : Int32) (0 : Int32) kk9 [(.int (0 : Int32)), (.int (1 : Int32)), (.int (2 : Int32)), (.int (3 : Int32))] (4 : Int32) T9.heap n0 zs10 V_b9 (by decide) (fun h => absurd h (by decide))) (by decide) (by decide) (c' := 2) (s' := 7) rfl rfl (by decide) (by decide) e15 (g := (mkF m 164 #[.val (.int p1), .val (.int p2), .val (.int p3), .val (.int p4), .val (.int (3 : Int32)), .val (.ref b1), .val (.ref b9), .unset, .unset] [(.int (4 : Int32)), (.ref b9)])) rfl (by rw [hml]; rfl) (lenOf pd_0_1 rfl) rfl (by show 2 * 0 + _ ≤ _; exact Nat.le_of_eq rfl) (hb hby at_164)
  obtain ⟨hv16, N16q, e16⟩ := hQ16
  have N16 := Fr.app N15 N16q
  rw [f2, if_neg (by decide : ¬ ((4 : Int32) < (4 : Int32)))] at hv16
  subst hv16
  obtain ⟨_, T17, Lc17, X17, hQ17, st17⟩ := own_callS X16 hx hZ (y := (⟨"com/example/varel/varel/text/EditDistanceStartPinLaw", "at", "([II)Z"⟩ : MethodName)) hown (hw _ (List.mem_of_getElem? (i := 5) rfl)) (hw _ (List.mem_of_getElem? (i := 6) rfl)) (hw _ (List.mem_of_getElem? (i := 7) rfl)) (hw _ (List.mem_of_getElem? (i := 8) rfl)) (by decide) (W := 0) (argsL := [(.ref b9), (.int (5 : Int32))]) (rest := []) (rm2 l Z a0 hw [] b9 (5 : Int32) (0 : Int32) kk9 [(.int (0 : Int32)), (.int (1 : Int32)), (.int (2 : Int32)), (.int (3 : Int32))] (4 : Int32) T9.heap n0 zs10 V_b9 (by decide) (fun h => absurd h (by decide))) (by decide) (by decide) (c' := 2) (s' := 7) rfl rfl (by decide) (by decide) e16 (g := (mkF m 173 #[.val (.int p1), .val (.int p2), .val (.int p3), .val (.int p4), .val (.int (3 : Int32)), .val (.ref b1), .val (.ref b9), .unset, .unset] [(.int (5 : Int32)), (.ref b9)])) rfl (by rw [hml]; rfl) (lenOf pd_0_1 rfl) rfl (by show 2 * 0 + _ ≤ _; exact Nat.le_of_eq rfl) (hb hby at_173)
  obtain ⟨hv17, N17q, e17⟩ := hQ17
  have N17 := Fr.app N16 N17q
  rw [f2, if_neg (by decide : ¬ ((5 : Int32) < (4 : Int32)))] at hv17
  subst hv17
  obtain ⟨_, T18, Lc18, X18, hQ18, st18⟩ := own_callS X17 hx hZ (y := (⟨"com/example/varel/varel/text/EditDistanceStartPinLaw", "at", "([II)Z"⟩ : MethodName)) hown (hw _ (List.mem_of_getElem? (i := 5) rfl)) (hw _ (List.mem_of_getElem? (i := 6) rfl)) (hw _ (List.mem_of_getElem? (i := 7) rfl)) (hw _ (List.mem_of_getElem? (i := 8) rfl)) (by decide) (W := 0) (argsL := [(.ref b9), (.int (6 : Int32))]) (rest := []) (rm2 l Z a0 hw [] b9 (6 : Int32) (0 : Int32) kk9 [(.int (0 : Int32)), (.int (1 : Int32)), (.int (2 : Int32)), (.int (3 : Int32))] (4 : Int32) T9.heap n0 zs10 V_b9 (by decide) (fun h => absurd h (by decide))) (by decide) (by decide) (c' := 2) (s' := 7) rfl rfl (by decide) (by decide) e17 (g := (mkF m 183 #[.val (.int p1), .val (.int p2), .val (.int p3), .val (.int p4), .val (.int (3 : Int32)), .val (.ref b1), .val (.ref b9), .unset, .unset] [(.int (6 : Int32)), (.ref b9)])) rfl (by rw [hml]; rfl) (lenOf pd_0_1 rfl) rfl (by show 2 * 0 + _ ≤ _; exact Nat.le_of_eq rfl) (hb hby at_183)
  obtain ⟨hv18, N18q, e18⟩ := hQ18
  have N18 := Fr.app N17 N18q
  rw [f2, if_neg (by decide : ¬ ((6 : Int32) < (4 : Int32)))] at hv18
  subst hv18
  obtain ⟨_, T19, Lc19, X19, hQ19, st19⟩ := own_callS X18 hx hZ (y := (⟨"com/example/varel/varel/text/EditDistanceStartPinLaw", "at", "([II)Z"⟩ : MethodName)) hown (hw _ (List.mem_of_getElem? (i := 5) rfl)) (hw _ (List.mem_of_getElem? (i := 6) rfl)) (hw _ (List.mem_of_getElem? (i := 7) rfl)) (hw _ (List.mem_of_getElem? (i := 8) rfl)) (by decide) (W := 0) (argsL := [(.ref b9), (.int (7 : Int32))]) (rest := []) (rm2 l Z a0 hw [] b9 (7 : Int32) (0 : Int32) kk9 [(.int (0 : Int32)), (.int (1 : Int32)), (.int (2 : Int32)), (.int (3 : Int32))] (4 : Int32) T9.heap n0 zs10 V_b9 (by decide) (fun h => absurd h (by decide))) (by decide) (by decide) (c' := 2) (s' := 7) rfl rfl (by decide) (by decide) e18 (g := (mkF m 193 #[.val (.int p1), .val (.int p2), .val (.int p3), .val (.int p4), .val (.int (3 : Int32)), .val (.ref b1), .val (.ref b9), .unset, .unset] [(.int (7 : Int32)), (.ref b9)])) rfl (by rw [hml]; rfl) (lenOf pd_0_1 rfl) rfl (by show 2 * 0 + _ ≤ _; exact Nat.le_of_eq rfl) (hb hby at_193)
  obtain ⟨hv19, N19q, e19⟩ := hQ19
  have N19 := Fr.app N18 N19q
  rw [f2, if_neg (by decide : ¬ ((7 : Int32) < (4 : Int32)))] at hv19
  subst hv19
  have fa20 : Arv Z T9.heap b1 k1 .int (3 : Int32) [(.int p2), (.int p3), (.int p4)] (.int (0 : Int32)) := (V7.keep K9 nin0)
  obtain ⟨cl21, Ar21, qq21, S21, N21_, H21, G21⟩ := id fa20
  obtain ⟨_, T22, Lc22, X22, hQ22, st22⟩ := own_callS X19 hx hZ (y := (⟨"com/example/varel/varel/text/EditDistanceStartPinLaw", "kept", "([III)Z"⟩ : MethodName)) hown (hw _ (List.mem_of_getElem? (i := 9) rfl)) (hw _ (List.mem_of_getElem? (i := 10) rfl)) (hw _ (List.mem_of_getElem? (i := 7) rfl)) (hw _ (List.mem_of_getElem? (i := 11) rfl)) (by decide) (W := 0) (argsL := [(.ref b1), (.int (0 : Int32)), (.int p2)]) (rest := []) (rm3 l Z a0 hw [] b1 (0 : Int32) p2 p2 k1 [(.int p2), (.int p3), (.int p4)] (3 : Int32) T9.heap n0 zs10 fa20 (by decide) (fun _ => rfl)) (by decide) (by decide) (c' := 2) (s' := 7) rfl rfl (by decide) (by decide) e19 (g := (mkF m 218 #[.val (.int p1), .val (.int p2), .val (.int p3), .val (.int p4), .val (.int (3 : Int32)), .val (.ref b1), .val (.ref b9), .val (.int (1 : Int32)), .unset] [(.int p2), (.int (0 : Int32)), (.ref b1)])) rfl (by rw [hml]; rfl) (lenOf pd_0_2 rfl) rfl (by show 2 * 0 + _ ≤ _; exact Nat.le_of_eq rfl) (hb hby at_218)
  obtain ⟨hv22, N22q, e22⟩ := hQ22
  have N22 := Fr.app N19 N22q
  rw [f3, if_pos (by decide : (0 : Int32) < (3 : Int32)), if_pos (rfl : p2 = p2)] at hv22
  subst hv22
  obtain ⟨_, T23, Lc23, X23, hQ23, st23⟩ := own_callS X22 hx hZ (y := (⟨"com/example/varel/varel/text/EditDistanceStartPinLaw", "kept", "([III)Z"⟩ : MethodName)) hown (hw _ (List.mem_of_getElem? (i := 9) rfl)) (hw _ (List.mem_of_getElem? (i := 10) rfl)) (hw _ (List.mem_of_getElem? (i := 7) rfl)) (hw _ (List.mem_of_getElem? (i := 11) rfl)) (by decide) (W := 0) (argsL := [(.ref b1), (.int (1 : Int32)), (.int p3)]) (rest := []) (rm3 l Z a0 hw [] b1 (1 : Int32) p3 p3 k1 [(.int p2), (.int p3), (.int p4)] (3 : Int32) T9.heap n0 zs10 fa20 (by decide) (fun _ => rfl)) (by decide) (by decide) (c' := 2) (s' := 7) rfl rfl (by decide) (by decide) e22 (g := (mkF m 228 #[.val (.int p1), .val (.int p2), .val (.int p3), .val (.int p4), .val (.int (3 : Int32)), .val (.ref b1), .val (.ref b9), .val (.int (1 : Int32)), .unset] [(.int p3), (.int (1 : Int32)), (.ref b1)])) rfl (by rw [hml]; rfl) (lenOf pd_0_2 rfl) rfl (by show 2 * 0 + _ ≤ _; exact Nat.le_of_eq rfl) (hb hby at_228)
  obtain ⟨hv23, N23q, e23⟩ := hQ23
  have N23 := Fr.app N22 N23q
  rw [f3, if_pos (by decide : (1 : Int32) < (3 : Int32)), if_pos (rfl : p3 = p3)] at hv23
  subst hv23
  obtain ⟨_, T24, Lc24, X24, hQ24, st24⟩ := own_callS X23 hx hZ (y := (⟨"com/example/varel/varel/text/EditDistanceStartPinLaw", "kept", "([III)Z"⟩ : MethodName)) hown (hw _ (List.mem_of_getElem? (i := 9) rfl)) (hw _ (List.mem_of_getElem? (i := 10) rfl)) (hw _ (List.mem_of_getElem? (i := 7) rfl)) (hw _ (List.mem_of_getElem? (i := 11) rfl)) (by decide) (W := 0) (argsL := [(.ref b1), (.int (2 : Int32)), (.int p4)]) (rest := []) (rm3 l Z a0 hw [] b1 (2 : Int32) p4 p4 k1 [(.int p2), (.int p3), (.int p4)] (3 : Int32) T9.heap n0 zs10 fa20 (by decide) (fun _ => rfl)) (by decide) (by decide) (c' := 2) (s' := 7) rfl rfl (by decide) (by decide) e23 (g := (mkF m 238 #[.val (.int p1), .val (.int p2), .val (.int p3), .val (.int p4), .val (.int (3 : Int32)), .val (.ref b1), .val (.ref b9), .val (.int (1 : Int32)), .unset] [(.int p4), (.int (2 : Int32)), (.ref b1)])) rfl (by rw [hml]; rfl) (lenOf pd_0_2 rfl) rfl (by show 2 * 0 + _ ≤ _; exact Nat.le_of_eq rfl) (hb hby at_238)
  obtain ⟨hv24, N24q, e24⟩ := hQ24
  have N24 := Fr.app N23 N24q
  rw [f3, if_pos (by decide : (2 : Int32) < (3 : Int32)), if_pos (rfl : p4 = p4)] at hv24
  subst hv24
  obtain ⟨_, T25, Lc25, X25, hQ25, st25⟩ := own_callS X24 hx hZ (y := (⟨"com/example/varel/varel/text/EditDistanceStartPinLaw", "kept", "([III)Z"⟩ : MethodName)) hown (hw _ (List.mem_of_getElem? (i := 9) rfl)) (hw _ (List.mem_of_getElem? (i := 10) rfl)) (hw _ (List.mem_of_getElem? (i := 7) rfl)) (hw _ (List.mem_of_getElem? (i := 11) rfl)) (by decide) (W := 0) (argsL := [(.ref b1), (.int (3 : Int32)), (.int (p2 ^^^ p3))]) (rest := []) (rm3 l Z a0 hw [] b1 (3 : Int32) (p2 ^^^ p3) (0 : Int32) k1 [(.int p2), (.int p3), (.int p4)] (3 : Int32) T9.heap n0 zs10 fa20 (by decide) (fun h => absurd h (by decide))) (by decide) (by decide) (c' := 2) (s' := 7) rfl rfl (by decide) (by decide) e24 (g := (mkF m 250 #[.val (.int p1), .val (.int p2), .val (.int p3), .val (.int p4), .val (.int (3 : Int32)), .val (.ref b1), .val (.ref b9), .val (.int (1 : Int32)), .unset] [(.int (p2 ^^^ p3)), (.int (3 : Int32)), (.ref b1)])) rfl (by rw [hml]; rfl) (lenOf pd_0_2 rfl) rfl (by show 2 * 0 + _ ≤ _; exact Nat.le_of_eq rfl) (hb hby at_250)
  obtain ⟨hv25, N25q, e25⟩ := hQ25
  have N25 := Fr.app N24 N25q
  rw [f3, if_neg (by decide : ¬ ((3 : Int32) < (3 : Int32)))] at hv25
  subst hv25
  obtain ⟨_, T26, Lc26, X26, hQ26, st26⟩ := own_callS X25 hx hZ (y := (⟨"com/example/varel/varel/text/EditDistanceStartPinLaw", "kept", "([III)Z"⟩ : MethodName)) hown (hw _ (List.mem_of_getElem? (i := 9) rfl)) (hw _ (List.mem_of_getElem? (i := 10) rfl)) (hw _ (List.mem_of_getElem? (i := 7) rfl)) (hw _ (List.mem_of_getElem? (i := 11) rfl)) (by decide) (W := 0) (argsL := [(.ref b1), (.int (4 : Int32)), (.int (p3 - p4))]) (rest := []) (rm3 l Z a0 hw [] b1 (4 : Int32) (p3 - p4) (0 : Int32) k1 [(.int p2), (.int p3), (.int p4)] (3 : Int32) T9.heap n0 zs10 fa20 (by decide) (fun h => absurd h (by decide))) (by decide) (by decide) (c' := 2) (s' := 7) rfl rfl (by decide) (by decide) e25 (g := (mkF m 262 #[.val (.int p1), .val (.int p2), .val (.int p3), .val (.int p4), .val (.int (3 : Int32)), .val (.ref b1), .val (.ref b9), .val (.int (1 : Int32)), .unset] [(.int (p3 - p4)), (.int (4 : Int32)), (.ref b1)])) rfl (by rw [hml]; rfl) (lenOf pd_0_2 rfl) rfl (by show 2 * 0 + _ ≤ _; exact Nat.le_of_eq rfl) (hb hby at_262)
  obtain ⟨hv26, N26q, e26⟩ := hQ26
  have N26 := Fr.app N25 N26q
  rw [f3, if_neg (by decide : ¬ ((4 : Int32) < (3 : Int32)))] at hv26
  subst hv26
  obtain ⟨_, T27, Lc27, X27, hQ27, st27⟩ := own_callS X26 hx hZ (y := (⟨"com/example/varel/varel/text/EditDistanceStartPinLaw", "kept", "([III)Z"⟩ : MethodName)) hown (hw _ (List.mem_of_getElem? (i := 9) rfl)) (hw _ (List.mem_of_getElem? (i := 10) rfl)) (hw _ (List.mem_of_getElem? (i := 7) rfl)) (hw _ (List.mem_of_getElem? (i := 11) rfl)) (by decide) (W := 0) (argsL := [(.ref b1), (.int (5 : Int32)), (.int (p2 ^^^ (-1 : Int32)))]) (rest := []) (rm3 l Z a0 hw [] b1 (5 : Int32) (p2 ^^^ (-1 : Int32)) (0 : Int32) k1 [(.int p2), (.int p3), (.int p4)] (3 : Int32) T9.heap n0 zs10 fa20 (by decide) (fun h => absurd h (by decide))) (by decide) (by decide) (c' := 2) (s' := 7) rfl rfl (by decide) (by decide) e26 (g := (mkF m 274 #[.val (.int p1), .val (.int p2), .val (.int p3), .val (.int p4), .val (.int (3 : Int32)), .val (.ref b1), .val (.ref b9), .val (.int (1 : Int32)), .unset] [(.int (p2 ^^^ (-1 : Int32))), (.int (5 : Int32)), (.ref b1)])) rfl (by rw [hml]; rfl) (lenOf pd_0_2 rfl) rfl (by show 2 * 0 + _ ≤ _; exact Nat.le_of_eq rfl) (hb hby at_274)
  obtain ⟨hv27, N27q, e27⟩ := hQ27
  have N27 := Fr.app N26 N27q
  rw [f3, if_neg (by decide : ¬ ((5 : Int32) < (3 : Int32)))] at hv27
  subst hv27
  obtain ⟨_, T28, Lc28, X28, hQ28, st28⟩ := own_callS X27 hx hZ (y := (⟨"com/example/varel/varel/text/EditDistanceStartPinLaw", "kept", "([III)Z"⟩ : MethodName)) hown (hw _ (List.mem_of_getElem? (i := 9) rfl)) (hw _ (List.mem_of_getElem? (i := 10) rfl)) (hw _ (List.mem_of_getElem? (i := 7) rfl)) (hw _ (List.mem_of_getElem? (i := 11) rfl)) (by decide) (W := 0) (argsL := [(.ref b1), (.int (6 : Int32)), (.int (p4 * (31 : Int32)))]) (rest := []) (rm3 l Z a0 hw [] b1 (6 : Int32) (p4 * (31 : Int32)) (0 : Int32) k1 [(.int p2), (.int p3), (.int p4)] (3 : Int32) T9.heap n0 zs10 fa20 (by decide) (fun h => absurd h (by decide))) (by decide) (by decide) (c' := 2) (s' := 7) rfl rfl (by decide) (by decide) e27 (g := (mkF m 288 #[.val (.int p1), .val (.int p2), .val (.int p3), .val (.int p4), .val (.int (3 : Int32)), .val (.ref b1), .val (.ref b9), .val (.int (1 : Int32)), .unset] [(.int (p4 * (31 : Int32))), (.int (6 : Int32)), (.ref b1)])) rfl (by rw [hml]; rfl) (lenOf pd_0_2 rfl) rfl (by show 2 * 0 + _ ≤ _; exact Nat.le_of_eq rfl) (hb hby at_288)
  obtain ⟨hv28, N28q, e28⟩ := hQ28
  have N28 := Fr.app N27 N28q
  rw [f3, if_neg (by decide : ¬ ((6 : Int32) < (3 : Int32)))] at hv28
  subst hv28
  obtain ⟨fs, hr, hrun, hended, hW, hsame⟩ := X28.leave (v := some (.int (1 : Int32))) (fun h => by rw [Bd.returns] at h; cases h)
  refine ⟨_, _, pre0 _ ?_, hrun, hended, _, _, rfl, ?_, ⟨_, rfl⟩, hW, hsame.mono (by decide) (by decide)⟩
  · show Steps p.tables e below (s₁.setTop (mkF m 0 #[.val (.int p1), .val (.int p2), .val (.int p3), .val (.int p4), .unset, .unset, .unset, .unset, .unset] [])) _
    refine own_blk X0 hx bl0_0_3 (own_hb hby bd0_0_3) (pc' := 4) (Ls' := #[.val (.int p1), .val (.int p2), .val (.int p3), .val (.int p4), .unset, .unset, .unset, .unset, .unset]) (st' := [(.int (p1 &&& (7 : Int32)))]) rfl ?_
    show Steps p.tables e below (s₁.setTop (mkF m 4 #[.val (.int p1), .val (.int p2), .val (.int p3), .val (.int p4), .unset, .unset, .unset, .unset, .unset] [(.int (p1 &&& (7 : Int32)))])) _
    rw [hn]
    show Steps p.tables e below (s₁.setTop (mkF m 4 #[.val (.int p1), .val (.int p2), .val (.int p3), .val (.int p4), .unset, .unset, .unset, .unset, .unset] [(.int (3 : Int32))])) _
    refine own_blk X0 hx bl0_4_2 (own_hb hby bd0_4_2) (pc' := 8) (Ls' := #[.val (.int p1), .val (.int p2), .val (.int p3), .val (.int p4), .val (.int (3 : Int32)), .unset, .unset, .unset, .unset]) (st' := [(.int (3 : Int32))]) rfl ?_
    show Steps p.tables e below (s₁.setTop (mkF m 8 #[.val (.int p1), .val (.int p2), .val (.int p3), .val (.int p4), .val (.int (3 : Int32)), .unset, .unset, .unset, .unset] [(.int (3 : Int32))])) _
    refine st1 _ ?_
    show Steps p.tables e below (T1.setTop (mkF m 10 #[.val (.int p1), .val (.int p2), .val (.int p3), .val (.int p4), .val (.int (3 : Int32)), .unset, .unset, .unset, .unset] [(.ref b1)])) _
    refine own_blk X1 hx bl0_10_2 (own_hb hby bd0_10_2) (pc' := 14) (Ls' := #[.val (.int p1), .val (.int p2), .val (.int p3), .val (.int p4), .val (.int (3 : Int32)), .val (.ref b1), .unset, .unset, .unset]) (st' := [(.int (3 : Int32))]) rfl ?_
    show Steps p.tables e below (T1.setTop (mkF m 14 #[.val (.int p1), .val (.int p2), .val (.int p3), .val (.int p4), .val (.int (3 : Int32)), .val (.ref b1), .unset, .unset, .unset] [(.int (3 : Int32))])) _
    refine XS.ifNo X1.here hx rfl (hb hby at_14) rfl ((if0 _ _).trans (tlt (by decide : (0 : Int32) < (3 : Int32))).2.2.2) ?_
    show Steps p.tables e below (T1.setTop (mkF m 17 #[.val (.int p1), .val (.int p2), .val (.int p3), .val (.int p4), .val (.int (3 : Int32)), .val (.ref b1), .unset, .unset, .unset] [])) _
    refine own_blk X1 hx bl0_17_3 (own_hb hby bd0_17_3) (pc' := 21) (Ls' := #[.val (.int p1), .val (.int p2), .val (.int p3), .val (.int p4), .val (.int (3 : Int32)), .val (.ref b1), .unset, .unset, .unset]) (st' := [(.int p2), (.int (0 : Int32)), (.ref b1)]) rfl ?_
    show Steps p.tables e below (T1.setTop (mkF m 21 #[.val (.int p1), .val (.int p2), .val (.int p3), .val (.int p4), .val (.int (3 : Int32)), .val (.ref b1), .unset, .unset, .unset] [(.int p2), (.int (0 : Int32)), (.ref b1)])) _
    refine st3 _ ?_
    show Steps p.tables e below (T3.setTop (mkF m 22 #[.val (.int p1), .val (.int p2), .val (.int p3), .val (.int p4), .val (.int (3 : Int32)), .val (.ref b1), .unset, .unset, .unset] [])) _
    refine own_blk X3 hx bl0_22_2 (own_hb hby bd0_22_2) (pc' := 25) (Ls' := #[.val (.int p1), .val (.int p2), .val (.int p3), .val (.int p4), .val (.int (3 : Int32)), .val (.ref b1), .unset, .unset, .unset]) (st' := [(.int (1 : Int32)), (.int (3 : Int32))]) rfl ?_
    show Steps p.tables e below (T3.setTop (mkF m 25 #[.val (.int p1), .val (.int p2), .val (.int p3), .val (.int p4), .val (.int (3 : Int32)), .val (.ref b1), .unset, .unset, .unset] [(.int (1 : Int32)), (.int (3 : Int32))])) _
    refine XS.icmpNo X3.here hx rfl (hb hby at_25) rfl (tlt (by decide : (1 : Int32) < (3 : Int32))).2.2.2 ?_
    show Steps p.tables e below (T3.setTop (mkF m 28 #[.val (.int p1), .val (.int p2), .val (.int p3), .val (.int p4), .val (.int (3 : Int32)), .val (.ref b1), .unset, .unset, .unset] [])) _
    refine own_blk X3 hx bl0_28_3 (own_hb hby bd0_28_3) (pc' := 32) (Ls' := #[.val (.int p1), .val (.int p2), .val (.int p3), .val (.int p4), .val (.int (3 : Int32)), .val (.ref b1), .unset, .unset, .unset]) (st' := [(.int p3), (.int (1 : Int32)), (.ref b1)]) rfl ?_
    show Steps p.tables e below (T3.setTop (mkF m 32 #[.val (.int p1), .val (.int p2), .val (.int p3), .val (.int p4), .val (.int (3 : Int32)), .val (.ref b1), .unset, .unset, .unset] [(.int p3), (.int (1 : Int32)), (.ref b1)])) _
    refine st5 _ ?_
    show Steps p.tables e below (T5.setTop (mkF m 33 #[.val (.int p1), .val (.int p2), .val (.int p3), .val (.int p4), .val (.int (3 : Int32)), .val (.ref b1), .unset, .unset, .unset] [])) _
    refine own_blk X5 hx bl0_33_2 (own_hb hby bd0_33_2) (pc' := 36) (Ls' := #[.val (.int p1), .val (.int p2), .val (.int p3), .val (.int p4), .val (.int (3 : Int32)), .val (.ref b1), .unset, .unset, .unset]) (st' := [(.int (2 : Int32)), (.int (3 : Int32))]) rfl ?_
    show Steps p.tables e below (T5.setTop (mkF m 36 #[.val (.int p1), .val (.int p2), .val (.int p3), .val (.int p4), .val (.int (3 : Int32)), .val (.ref b1), .unset, .unset, .unset] [(.int (2 : Int32)), (.int (3 : Int32))])) _
    refine XS.icmpNo X5.here hx rfl (hb hby at_36) rfl (tlt (by decide : (2 : Int32) < (3 : Int32))).2.2.2 ?_
    show Steps p.tables e below (T5.setTop (mkF m 39 #[.val (.int p1), .val (.int p2), .val (.int p3), .val (.int p4), .val (.int (3 : Int32)), .val (.ref b1), .unset, .unset, .unset] [])) _
    refine own_blk X5 hx bl0_39_3 (own_hb hby bd0_39_3) (pc' := 43) (Ls' := #[.val (.int p1), .val (.int p2), .val (.int p3), .val (.int p4), .val (.int (3 : Int32)), .val (.ref b1), .unset, .unset, .unset]) (st' := [(.int p4), (.int (2 : Int32)), (.ref b1)]) rfl ?_
    show Steps p.tables e below (T5.setTop (mkF m 43 #[.val (.int p1), .val (.int p2), .val (.int p3), .val (.int p4), .val (.int (3 : Int32)), .val (.ref b1), .unset, .unset, .unset] [(.int p4), (.int (2 : Int32)), (.ref b1)])) _
    refine st7 _ ?_
    show Steps p.tables e below (T7.setTop (mkF m 44 #[.val (.int p1), .val (.int p2), .val (.int p3), .val (.int p4), .val (.int (3 : Int32)), .val (.ref b1), .unset, .unset, .unset] [])) _
    refine own_blk X7 hx bl0_44_2 (own_hb hby bd0_44_2) (pc' := 47) (Ls' := #[.val (.int p1), .val (.int p2), .val (.int p3), .val (.int p4), .val (.int (3 : Int32)), .val (.ref b1), .unset, .unset, .unset]) (st' := [(.int (3 : Int32)), (.int (3 : Int32))]) rfl ?_
    show Steps p.tables e below (T7.setTop (mkF m 47 #[.val (.int p1), .val (.int p2), .val (.int p3), .val (.int p4), .val (.int (3 : Int32)), .val (.ref b1), .unset, .unset, .unset] [(.int (3 : Int32)), (.int (3 : Int32))])) _
    refine XS.icmpYes X7.here hx rfl (pc0 := 47) (pc' := 57) rfl (hb hby at_47) rfl (flt (by decide : ¬ ((3 : Int32) < (3 : Int32)))).2.2.2 (by decide) (by decide) ?_
    show Steps p.tables e below (T7.setTop (mkF m 57 #[.val (.int p1), .val (.int p2), .val (.int p3), .val (.int p4), .val (.int (3 : Int32)), .val (.ref b1), .unset, .unset, .unset] [])) _
    refine own_blk X7 hx bl0_57_2 (own_hb hby bd0_57_2) (pc' := 60) (Ls' := #[.val (.int p1), .val (.int p2), .val (.int p3), .val (.int p4), .val (.int (3 : Int32)), .val (.ref b1), .unset, .unset, .unset]) (st' := [(.int (4 : Int32)), (.int (3 : Int32))]) rfl ?_
    show Steps p.tables e below (T7.setTop (mkF m 60 #[.val (.int p1), .val (.int p2), .val (.int p3), .val (.int p4), .val (.int (3 : Int32)), .val (.ref b1), .unset, .unset, .unset] [(.int (4 : Int32)), (.int (3 : Int32))])) _
    refine XS.icmpYes X7.here hx rfl (pc0 := 60) (pc' := 70) rfl (hb hby at_60) rfl (flt (by decide : ¬ ((4 : Int32) < (3 : Int32)))).2.2.2 (by decide) (by decide) ?_
    show Steps p.tables e below (T7.setTop (mkF m 70 #[.val (.int p1), .val (.int p2), .val (.int p3), .val (.int p4), .val (.int (3 : Int32)), .val (.ref b1), .unset, .unset, .unset] [])) _
    refine own_blk X7 hx bl0_70_2 (own_hb hby bd0_70_2) (pc' := 73) (Ls' := #[.val (.int p1), .val (.int p2), .val (.int p3), .val (.int p4), .val (.int (3 : Int32)), .val (.ref b1), .unset, .unset, .unset]) (st' := [(.int (5 : Int32)), (.int (3 : Int32))]) rfl ?_
    show Steps p.tables e below (T7.setTop (mkF m 73 #[.val (.int p1), .val (.int p2), .val (.int p3), .val (.int p4), .val (.int (3 : Int32)), .val (.ref b1), .unset, .unset, .unset] [(.int (5 : Int32)), (.int (3 : Int32))])) _
    refine XS.icmpYes X7.here hx rfl (pc0 := 73) (pc' := 83) rfl (hb hby at_73) rfl (flt (by decide : ¬ ((5 : Int32) < (3 : Int32)))).2.2.2 (by decide) (by decide) ?_
    show Steps p.tables e below (T7.setTop (mkF m 83 #[.val (.int p1), .val (.int p2), .val (.int p3), .val (.int p4), .val (.int (3 : Int32)), .val (.ref b1), .unset, .unset, .unset] [])) _
    refine own_blk X7 hx bl0_83_2 (own_hb hby bd0_83_2) (pc' := 87) (Ls' := #[.val (.int p1), .val (.int p2), .val (.int p3), .val (.int p4), .val (.int (3 : Int32)), .val (.ref b1), .unset, .unset, .unset]) (st' := [(.int (6 : Int32)), (.int (3 : Int32))]) rfl ?_
    show Steps p.tables e below (T7.setTop (mkF m 87 #[.val (.int p1), .val (.int p2), .val (.int p3), .val (.int p4), .val (.int (3 : Int32)), .val (.ref b1), .unset, .unset, .unset] [(.int (6 : Int32)), (.int (3 : Int32))])) _
    refine XS.icmpYes X7.here hx rfl (pc0 := 87) (pc' := 99) rfl (hb hby at_87) rfl (flt (by decide : ¬ ((6 : Int32) < (3 : Int32)))).2.2.2 (by decide) (by decide) ?_
    show Steps p.tables e below (T7.setTop (mkF m 99 #[.val (.int p1), .val (.int p2), .val (.int p3), .val (.int p4), .val (.int (3 : Int32)), .val (.ref b1), .unset, .unset, .unset] [])) _
    refine own_blk X7 hx bl0_99_1 (own_hb hby bd0_99_1) (pc' := 101) (Ls' := #[.val (.int p1), .val (.int p2), .val (.int p3), .val (.int p4), .val (.int (3 : Int32)), .val (.ref b1), .unset, .unset, .unset]) (st' := [(.ref b1)]) rfl ?_
    show Steps p.tables e below (T7.setTop (mkF m 101 #[.val (.int p1), .val (.int p2), .val (.int p3), .val (.int p4), .val (.int (3 : Int32)), .val (.ref b1), .unset, .unset, .unset] [(.ref b1)])) _
    refine st9 _ ?_
    show Steps p.tables e below (T9.setTop (mkF m 104 #[.val (.int p1), .val (.int p2), .val (.int p3), .val (.int p4), .val (.int (3 : Int32)), .val (.ref b1), .unset, .unset, .unset] [(.ref b9)])) _
    refine own_blk X9 hx bl0_104_2 (own_hb hby bd0_104_2) (pc' := 108) (Ls' := #[.val (.int p1), .val (.int p2), .val (.int p3), .val (.int p4), .val (.int (3 : Int32)), .val (.ref b1), .val (.ref b9), .unset, .unset]) (st' := [(.ref b9)]) rfl ?_
    show Steps p.tables e below (T9.setTop (mkF m 108 #[.val (.int p1), .val (.int p2), .val (.int p3), .val (.int p4), .val (.int (3 : Int32)), .val (.ref b1), .val (.ref b9), .unset, .unset] [(.ref b9)])) _
    refine XS.ifnonnullYes X9.here hx rfl (pc0 := 108) (pc' := 113) rfl (hb hby at_108) rfl (by decide) (by decide) ?_
    show Steps p.tables e below (T9.setTop (mkF m 113 #[.val (.int p1), .val (.int p2), .val (.int p3), .val (.int p4), .val (.int (3 : Int32)), .val (.ref b1), .val (.ref b9), .unset, .unset] [])) _
    refine own_blk X9 hx bl0_113_1 (own_hb hby bd0_113_1) (pc' := 115) (Ls' := #[.val (.int p1), .val (.int p2), .val (.int p3), .val (.int p4), .val (.int (3 : Int32)), .val (.ref b1), .val (.ref b9), .unset, .unset]) (st' := [(.ref b9)]) rfl ?_
    show Steps p.tables e below (T9.setTop (mkF m 115 #[.val (.int p1), .val (.int p2), .val (.int p3), .val (.int p4), .val (.int (3 : Int32)), .val (.ref b1), .val (.ref b9), .unset, .unset] [(.ref b9)])) _
    refine X9.arraylength hx Ar11.1 (State.isArrayOf_alike hZ.alike Ar11.2.1) (g := (mkF m 115 #[.val (.int p1), .val (.int p2), .val (.int p3), .val (.int p4), .val (.int (3 : Int32)), .val (.ref b1), .val (.ref b9), .unset, .unset] [(.ref b9)])) rfl rfl (hb hby at_115) _ ?_
    rw [len_of S11 N11_]
    show Steps p.tables e below (T9.setTop (mkF m 116 #[.val (.int p1), .val (.int p2), .val (.int p3), .val (.int p4), .val (.int (3 : Int32)), .val (.ref b1), .val (.ref b9), .unset, .unset] [(.int (4 : Int32))])) _
    refine own_blk X9 hx bl0_116_3 (own_hb hby bd0_116_3) (pc' := 120) (Ls' := #[.val (.int p1), .val (.int p2), .val (.int p3), .val (.int p4), .val (.int (3 : Int32)), .val (.ref b1), .val (.ref b9), .unset, .unset]) (st' := [(.int (4 : Int32)), (.int (4 : Int32))]) rfl ?_
    show Steps p.tables e below (T9.setTop (mkF m 120 #[.val (.int p1), .val (.int p2), .val (.int p3), .val (.int p4), .val (.int (3 : Int32)), .val (.ref b1), .val (.ref b9), .unset, .unset] [(.int (4 : Int32)), (.int (4 : Int32))])) _
    refine XS.icmpYes X9.here hx rfl (pc0 := 120) (pc' := 125) rfl (hb hby at_120) rfl (teq (by decide : (4 : Int32) = (4 : Int32))).1 (by decide) (by decide) ?_
    show Steps p.tables e below (T9.setTop (mkF m 125 #[.val (.int p1), .val (.int p2), .val (.int p3), .val (.int p4), .val (.int (3 : Int32)), .val (.ref b1), .val (.ref b9), .unset, .unset] [])) _
    refine own_blk X9 hx bl0_125_2 (own_hb hby bd0_125_2) (pc' := 128) (Ls' := #[.val (.int p1), .val (.int p2), .val (.int p3), .val (.int p4), .val (.int (3 : Int32)), .val (.ref b1), .val (.ref b9), .unset, .unset]) (st' := [(.int (0 : Int32)), (.ref b9)]) rfl ?_
    show Steps p.tables e below (T9.setTop (mkF m 128 #[.val (.int p1), .val (.int p2), .val (.int p3), .val (.int p4), .val (.int (3 : Int32)), .val (.ref b1), .val (.ref b9), .unset, .unset] [(.int (0 : Int32)), (.ref b9)])) _
    refine st12 _ ?_
    show Steps p.tables e below (T12.setTop (mkF m 131 #[.val (.int p1), .val (.int p2), .val (.int p3), .val (.int p4), .val (.int (3 : Int32)), .val (.ref b1), .val (.ref b9), .unset, .unset] [(.int (1 : Int32))])) _
    refine XS.ifNo X12.here hx rfl (hb hby at_131) rfl ((if0 _ _).trans (feq (by decide : ¬ ((1 : Int32) = (0 : Int32)))).1) ?_
    show Steps p.tables e below (T12.setTop (mkF m 134 #[.val (.int p1), .val (.int p2), .val (.int p3), .val (.int p4), .val (.int (3 : Int32)), .val (.ref b1), .val (.ref b9), .unset, .unset] [])) _
    refine own_blk X12 hx bl0_134_2 (own_hb hby bd0_134_2) (pc' := 137) (Ls' := #[.val (.int p1), .val (.int p2), .val (.int p3), .val (.int p4), .val (.int (3 : Int32)), .val (.ref b1), .val (.ref b9), .unset, .unset]) (st' := [(.int (1 : Int32)), (.ref b9)]) rfl ?_
    show Steps p.tables e below (T12.setTop (mkF m 137 #[.val (.int p1), .val (.int p2), .val (.int p3), .val (.int p4), .val (.int (3 : Int32)), .val (.ref b1), .val (.ref b9), .unset, .unset] [(.int (1 : Int32)), (.ref b9)])) _
    refine st13 _ ?_
    show Steps p.tables e below (T13.setTop (mkF m 140 #[.val (.int p1), .val (.int p2), .val (.int p3), .val (.int p4), .val (.int (3 : Int32)), .val (.ref b1), .val (.ref b9), .unset, .unset] [(.int (1 : Int32))])) _
    refine XS.ifNo X13.here hx rfl (hb hby at_140) rfl ((if0 _ _).trans (feq (by decide : ¬ ((1 : Int32) = (0 : Int32)))).1) ?_
    show Steps p.tables e below (T13.setTop (mkF m 143 #[.val (.int p1), .val (.int p2), .val (.int p3), .val (.int p4), .val (.int (3 : Int32)), .val (.ref b1), .val (.ref b9), .unset, .unset] [])) _
    refine own_blk X13 hx bl0_143_2 (own_hb hby bd0_143_2) (pc' := 146) (Ls' := #[.val (.int p1), .val (.int p2), .val (.int p3), .val (.int p4), .val (.int (3 : Int32)), .val (.ref b1), .val (.ref b9), .unset, .unset]) (st' := [(.int (2 : Int32)), (.ref b9)]) rfl ?_
    show Steps p.tables e below (T13.setTop (mkF m 146 #[.val (.int p1), .val (.int p2), .val (.int p3), .val (.int p4), .val (.int (3 : Int32)), .val (.ref b1), .val (.ref b9), .unset, .unset] [(.int (2 : Int32)), (.ref b9)])) _
    refine st14 _ ?_
    show Steps p.tables e below (T14.setTop (mkF m 149 #[.val (.int p1), .val (.int p2), .val (.int p3), .val (.int p4), .val (.int (3 : Int32)), .val (.ref b1), .val (.ref b9), .unset, .unset] [(.int (1 : Int32))])) _
    refine XS.ifNo X14.here hx rfl (hb hby at_149) rfl ((if0 _ _).trans (feq (by decide : ¬ ((1 : Int32) = (0 : Int32)))).1) ?_
    show Steps p.tables e below (T14.setTop (mkF m 152 #[.val (.int p1), .val (.int p2), .val (.int p3), .val (.int p4), .val (.int (3 : Int32)), .val (.ref b1), .val (.ref b9), .unset, .unset] [])) _
    refine own_blk X14 hx bl0_152_2 (own_hb hby bd0_152_2) (pc' := 155) (Ls' := #[.val (.int p1), .val (.int p2), .val (.int p3), .val (.int p4), .val (.int (3 : Int32)), .val (.ref b1), .val (.ref b9), .unset, .unset]) (st' := [(.int (3 : Int32)), (.ref b9)]) rfl ?_
    show Steps p.tables e below (T14.setTop (mkF m 155 #[.val (.int p1), .val (.int p2), .val (.int p3), .val (.int p4), .val (.int (3 : Int32)), .val (.ref b1), .val (.ref b9), .unset, .unset] [(.int (3 : Int32)), (.ref b9)])) _
    refine st15 _ ?_
    show Steps p.tables e below (T15.setTop (mkF m 158 #[.val (.int p1), .val (.int p2), .val (.int p3), .val (.int p4), .val (.int (3 : Int32)), .val (.ref b1), .val (.ref b9), .unset, .unset] [(.int (1 : Int32))])) _
    refine XS.ifNo X15.here hx rfl (hb hby at_158) rfl ((if0 _ _).trans (feq (by decide : ¬ ((1 : Int32) = (0 : Int32)))).1) ?_
    show Steps p.tables e below (T15.setTop (mkF m 161 #[.val (.int p1), .val (.int p2), .val (.int p3), .val (.int p4), .val (.int (3 : Int32)), .val (.ref b1), .val (.ref b9), .unset, .unset] [])) _
    refine own_blk X15 hx bl0_161_2 (own_hb hby bd0_161_2) (pc' := 164) (Ls' := #[.val (.int p1), .val (.int p2), .val (.int p3), .val (.int p4), .val (.int (3 : Int32)), .val (.ref b1), .val (.ref b9), .unset, .unset]) (st' := [(.int (4 : Int32)), (.ref b9)]) rfl ?_
    show Steps p.tables e below (T15.setTop (mkF m 164 #[.val (.int p1), .val (.int p2), .val (.int p3), .val (.int p4), .val (.int (3 : Int32)), .val (.ref b1), .val (.ref b9), .unset, .unset] [(.int (4 : Int32)), (.ref b9)])) _
    refine st16 _ ?_
    show Steps p.tables e below (T16.setTop (mkF m 167 #[.val (.int p1), .val (.int p2), .val (.int p3), .val (.int p4), .val (.int (3 : Int32)), .val (.ref b1), .val (.ref b9), .unset, .unset] [(.int (1 : Int32))])) _
    refine XS.ifNo X16.here hx rfl (hb hby at_167) rfl ((if0 _ _).trans (feq (by decide : ¬ ((1 : Int32) = (0 : Int32)))).1) ?_
    show Steps p.tables e below (T16.setTop (mkF m 170 #[.val (.int p1), .val (.int p2), .val (.int p3), .val (.int p4), .val (.int (3 : Int32)), .val (.ref b1), .val (.ref b9), .unset, .unset] [])) _
    refine own_blk X16 hx bl0_170_2 (own_hb hby bd0_170_2) (pc' := 173) (Ls' := #[.val (.int p1), .val (.int p2), .val (.int p3), .val (.int p4), .val (.int (3 : Int32)), .val (.ref b1), .val (.ref b9), .unset, .unset]) (st' := [(.int (5 : Int32)), (.ref b9)]) rfl ?_
    show Steps p.tables e below (T16.setTop (mkF m 173 #[.val (.int p1), .val (.int p2), .val (.int p3), .val (.int p4), .val (.int (3 : Int32)), .val (.ref b1), .val (.ref b9), .unset, .unset] [(.int (5 : Int32)), (.ref b9)])) _
    refine st17 _ ?_
    show Steps p.tables e below (T17.setTop (mkF m 176 #[.val (.int p1), .val (.int p2), .val (.int p3), .val (.int p4), .val (.int (3 : Int32)), .val (.ref b1), .val (.ref b9), .unset, .unset] [(.int (1 : Int32))])) _
    refine XS.ifNo X17.here hx rfl (hb hby at_176) rfl ((if0 _ _).trans (feq (by decide : ¬ ((1 : Int32) = (0 : Int32)))).1) ?_
    show Steps p.tables e below (T17.setTop (mkF m 179 #[.val (.int p1), .val (.int p2), .val (.int p3), .val (.int p4), .val (.int (3 : Int32)), .val (.ref b1), .val (.ref b9), .unset, .unset] [])) _
    refine own_blk X17 hx bl0_179_2 (own_hb hby bd0_179_2) (pc' := 183) (Ls' := #[.val (.int p1), .val (.int p2), .val (.int p3), .val (.int p4), .val (.int (3 : Int32)), .val (.ref b1), .val (.ref b9), .unset, .unset]) (st' := [(.int (6 : Int32)), (.ref b9)]) rfl ?_
    show Steps p.tables e below (T17.setTop (mkF m 183 #[.val (.int p1), .val (.int p2), .val (.int p3), .val (.int p4), .val (.int (3 : Int32)), .val (.ref b1), .val (.ref b9), .unset, .unset] [(.int (6 : Int32)), (.ref b9)])) _
    refine st18 _ ?_
    show Steps p.tables e below (T18.setTop (mkF m 186 #[.val (.int p1), .val (.int p2), .val (.int p3), .val (.int p4), .val (.int (3 : Int32)), .val (.ref b1), .val (.ref b9), .unset, .unset] [(.int (1 : Int32))])) _
    refine XS.ifNo X18.here hx rfl (hb hby at_186) rfl ((if0 _ _).trans (feq (by decide : ¬ ((1 : Int32) = (0 : Int32)))).1) ?_
    show Steps p.tables e below (T18.setTop (mkF m 189 #[.val (.int p1), .val (.int p2), .val (.int p3), .val (.int p4), .val (.int (3 : Int32)), .val (.ref b1), .val (.ref b9), .unset, .unset] [])) _
    refine own_blk X18 hx bl0_189_2 (own_hb hby bd0_189_2) (pc' := 193) (Ls' := #[.val (.int p1), .val (.int p2), .val (.int p3), .val (.int p4), .val (.int (3 : Int32)), .val (.ref b1), .val (.ref b9), .unset, .unset]) (st' := [(.int (7 : Int32)), (.ref b9)]) rfl ?_
    show Steps p.tables e below (T18.setTop (mkF m 193 #[.val (.int p1), .val (.int p2), .val (.int p3), .val (.int p4), .val (.int (3 : Int32)), .val (.ref b1), .val (.ref b9), .unset, .unset] [(.int (7 : Int32)), (.ref b9)])) _
    refine st19 _ ?_
    show Steps p.tables e below (T19.setTop (mkF m 196 #[.val (.int p1), .val (.int p2), .val (.int p3), .val (.int p4), .val (.int (3 : Int32)), .val (.ref b1), .val (.ref b9), .unset, .unset] [(.int (1 : Int32))])) _
    refine XS.ifNo X19.here hx rfl (hb hby at_196) rfl ((if0 _ _).trans (feq (by decide : ¬ ((1 : Int32) = (0 : Int32)))).1) ?_
    show Steps p.tables e below (T19.setTop (mkF m 199 #[.val (.int p1), .val (.int p2), .val (.int p3), .val (.int p4), .val (.int (3 : Int32)), .val (.ref b1), .val (.ref b9), .unset, .unset] [])) _
    refine own_blk X19 hx bl0_199_4 (own_hb hby bd0_199_4) (pc' := 208) (Ls' := #[.val (.int p1), .val (.int p2), .val (.int p3), .val (.int p4), .val (.int (3 : Int32)), .val (.ref b1), .val (.ref b9), .val (.int (1 : Int32)), .unset]) (st' := [(.ref b1)]) rfl ?_
    show Steps p.tables e below (T19.setTop (mkF m 208 #[.val (.int p1), .val (.int p2), .val (.int p3), .val (.int p4), .val (.int (3 : Int32)), .val (.ref b1), .val (.ref b9), .val (.int (1 : Int32)), .unset] [(.ref b1)])) _
    refine X19.arraylength hx (by rw [e19]; exact Ar21.1) (State.isArrayOf_alike hZ.alike Ar21.2.1) (g := (mkF m 208 #[.val (.int p1), .val (.int p2), .val (.int p3), .val (.int p4), .val (.int (3 : Int32)), .val (.ref b1), .val (.ref b9), .val (.int (1 : Int32)), .unset] [(.ref b1)])) rfl rfl (hb hby at_208) _ ?_
    rw [len_of S21 N21_]
    show Steps p.tables e below (T19.setTop (mkF m 209 #[.val (.int p1), .val (.int p2), .val (.int p3), .val (.int p4), .val (.int (3 : Int32)), .val (.ref b1), .val (.ref b9), .val (.int (1 : Int32)), .unset] [(.int (3 : Int32))])) _
    refine own_blk X19 hx bl0_209_1 (own_hb hby bd0_209_1) (pc' := 211) (Ls' := #[.val (.int p1), .val (.int p2), .val (.int p3), .val (.int p4), .val (.int (3 : Int32)), .val (.ref b1), .val (.ref b9), .val (.int (1 : Int32)), .unset]) (st' := [(.int (3 : Int32)), (.int (3 : Int32))]) rfl ?_
    show Steps p.tables e below (T19.setTop (mkF m 211 #[.val (.int p1), .val (.int p2), .val (.int p3), .val (.int p4), .val (.int (3 : Int32)), .val (.ref b1), .val (.ref b9), .val (.int (1 : Int32)), .unset] [(.int (3 : Int32)), (.int (3 : Int32))])) _
    refine XS.icmpNo X19.here hx rfl (hb hby at_211) rfl (teq (by decide : (3 : Int32) = (3 : Int32))).2 ?_
    show Steps p.tables e below (T19.setTop (mkF m 214 #[.val (.int p1), .val (.int p2), .val (.int p3), .val (.int p4), .val (.int (3 : Int32)), .val (.ref b1), .val (.ref b9), .val (.int (1 : Int32)), .unset] [])) _
    refine own_blk X19 hx bl0_214_3 (own_hb hby bd0_214_3) (pc' := 218) (Ls' := #[.val (.int p1), .val (.int p2), .val (.int p3), .val (.int p4), .val (.int (3 : Int32)), .val (.ref b1), .val (.ref b9), .val (.int (1 : Int32)), .unset]) (st' := [(.int p2), (.int (0 : Int32)), (.ref b1)]) rfl ?_
    show Steps p.tables e below (T19.setTop (mkF m 218 #[.val (.int p1), .val (.int p2), .val (.int p3), .val (.int p4), .val (.int (3 : Int32)), .val (.ref b1), .val (.ref b9), .val (.int (1 : Int32)), .unset] [(.int p2), (.int (0 : Int32)), (.ref b1)])) _
    refine st22 _ ?_
    show Steps p.tables e below (T22.setTop (mkF m 221 #[.val (.int p1), .val (.int p2), .val (.int p3), .val (.int p4), .val (.int (3 : Int32)), .val (.ref b1), .val (.ref b9), .val (.int (1 : Int32)), .unset] [(.int (1 : Int32))])) _
    refine XS.ifNo X22.here hx rfl (hb hby at_221) rfl ((if0 _ _).trans (feq (by decide : ¬ ((1 : Int32) = (0 : Int32)))).1) ?_
    show Steps p.tables e below (T22.setTop (mkF m 224 #[.val (.int p1), .val (.int p2), .val (.int p3), .val (.int p4), .val (.int (3 : Int32)), .val (.ref b1), .val (.ref b9), .val (.int (1 : Int32)), .unset] [])) _
    refine own_blk X22 hx bl0_224_3 (own_hb hby bd0_224_3) (pc' := 228) (Ls' := #[.val (.int p1), .val (.int p2), .val (.int p3), .val (.int p4), .val (.int (3 : Int32)), .val (.ref b1), .val (.ref b9), .val (.int (1 : Int32)), .unset]) (st' := [(.int p3), (.int (1 : Int32)), (.ref b1)]) rfl ?_
    show Steps p.tables e below (T22.setTop (mkF m 228 #[.val (.int p1), .val (.int p2), .val (.int p3), .val (.int p4), .val (.int (3 : Int32)), .val (.ref b1), .val (.ref b9), .val (.int (1 : Int32)), .unset] [(.int p3), (.int (1 : Int32)), (.ref b1)])) _
    refine st23 _ ?_
    show Steps p.tables e below (T23.setTop (mkF m 231 #[.val (.int p1), .val (.int p2), .val (.int p3), .val (.int p4), .val (.int (3 : Int32)), .val (.ref b1), .val (.ref b9), .val (.int (1 : Int32)), .unset] [(.int (1 : Int32))])) _
    refine XS.ifNo X23.here hx rfl (hb hby at_231) rfl ((if0 _ _).trans (feq (by decide : ¬ ((1 : Int32) = (0 : Int32)))).1) ?_
    show Steps p.tables e below (T23.setTop (mkF m 234 #[.val (.int p1), .val (.int p2), .val (.int p3), .val (.int p4), .val (.int (3 : Int32)), .val (.ref b1), .val (.ref b9), .val (.int (1 : Int32)), .unset] [])) _
    refine own_blk X23 hx bl0_234_3 (own_hb hby bd0_234_3) (pc' := 238) (Ls' := #[.val (.int p1), .val (.int p2), .val (.int p3), .val (.int p4), .val (.int (3 : Int32)), .val (.ref b1), .val (.ref b9), .val (.int (1 : Int32)), .unset]) (st' := [(.int p4), (.int (2 : Int32)), (.ref b1)]) rfl ?_
    show Steps p.tables e below (T23.setTop (mkF m 238 #[.val (.int p1), .val (.int p2), .val (.int p3), .val (.int p4), .val (.int (3 : Int32)), .val (.ref b1), .val (.ref b9), .val (.int (1 : Int32)), .unset] [(.int p4), (.int (2 : Int32)), (.ref b1)])) _
    refine st24 _ ?_
    show Steps p.tables e below (T24.setTop (mkF m 241 #[.val (.int p1), .val (.int p2), .val (.int p3), .val (.int p4), .val (.int (3 : Int32)), .val (.ref b1), .val (.ref b9), .val (.int (1 : Int32)), .unset] [(.int (1 : Int32))])) _
    refine XS.ifNo X24.here hx rfl (hb hby at_241) rfl ((if0 _ _).trans (feq (by decide : ¬ ((1 : Int32) = (0 : Int32)))).1) ?_
    show Steps p.tables e below (T24.setTop (mkF m 244 #[.val (.int p1), .val (.int p2), .val (.int p3), .val (.int p4), .val (.int (3 : Int32)), .val (.ref b1), .val (.ref b9), .val (.int (1 : Int32)), .unset] [])) _
    refine own_blk X24 hx bl0_244_5 (own_hb hby bd0_244_5) (pc' := 250) (Ls' := #[.val (.int p1), .val (.int p2), .val (.int p3), .val (.int p4), .val (.int (3 : Int32)), .val (.ref b1), .val (.ref b9), .val (.int (1 : Int32)), .unset]) (st' := [(.int (p2 ^^^ p3)), (.int (3 : Int32)), (.ref b1)]) rfl ?_
    show Steps p.tables e below (T24.setTop (mkF m 250 #[.val (.int p1), .val (.int p2), .val (.int p3), .val (.int p4), .val (.int (3 : Int32)), .val (.ref b1), .val (.ref b9), .val (.int (1 : Int32)), .unset] [(.int (p2 ^^^ p3)), (.int (3 : Int32)), (.ref b1)])) _
    refine st25 _ ?_
    show Steps p.tables e below (T25.setTop (mkF m 253 #[.val (.int p1), .val (.int p2), .val (.int p3), .val (.int p4), .val (.int (3 : Int32)), .val (.ref b1), .val (.ref b9), .val (.int (1 : Int32)), .unset] [(.int (1 : Int32))])) _
    refine XS.ifNo X25.here hx rfl (hb hby at_253) rfl ((if0 _ _).trans (feq (by decide : ¬ ((1 : Int32) = (0 : Int32)))).1) ?_
    show Steps p.tables e below (T25.setTop (mkF m 256 #[.val (.int p1), .val (.int p2), .val (.int p3), .val (.int p4), .val (.int (3 : Int32)), .val (.ref b1), .val (.ref b9), .val (.int (1 : Int32)), .unset] [])) _
    refine own_blk X25 hx bl0_256_5 (own_hb hby bd0_256_5) (pc' := 262) (Ls' := #[.val (.int p1), .val (.int p2), .val (.int p3), .val (.int p4), .val (.int (3 : Int32)), .val (.ref b1), .val (.ref b9), .val (.int (1 : Int32)), .unset]) (st' := [(.int (p3 - p4)), (.int (4 : Int32)), (.ref b1)]) rfl ?_
    show Steps p.tables e below (T25.setTop (mkF m 262 #[.val (.int p1), .val (.int p2), .val (.int p3), .val (.int p4), .val (.int (3 : Int32)), .val (.ref b1), .val (.ref b9), .val (.int (1 : Int32)), .unset] [(.int (p3 - p4)), (.int (4 : Int32)), (.ref b1)])) _
    refine st26 _ ?_
    show Steps p.tables e below (T26.setTop (mkF m 265 #[.val (.int p1), .val (.int p2), .val (.int p3), .val (.int p4), .val (.int (3 : Int32)), .val (.ref b1), .val (.ref b9), .val (.int (1 : Int32)), .unset] [(.int (1 : Int32))])) _
    refine XS.ifNo X26.here hx rfl (hb hby at_265) rfl ((if0 _ _).trans (feq (by decide : ¬ ((1 : Int32) = (0 : Int32)))).1) ?_
    show Steps p.tables e below (T26.setTop (mkF m 268 #[.val (.int p1), .val (.int p2), .val (.int p3), .val (.int p4), .val (.int (3 : Int32)), .val (.ref b1), .val (.ref b9), .val (.int (1 : Int32)), .unset] [])) _
    refine own_blk X26 hx bl0_268_5 (own_hb hby bd0_268_5) (pc' := 274) (Ls' := #[.val (.int p1), .val (.int p2), .val (.int p3), .val (.int p4), .val (.int (3 : Int32)), .val (.ref b1), .val (.ref b9), .val (.int (1 : Int32)), .unset]) (st' := [(.int (p2 ^^^ (-1 : Int32))), (.int (5 : Int32)), (.ref b1)]) rfl ?_
    show Steps p.tables e below (T26.setTop (mkF m 274 #[.val (.int p1), .val (.int p2), .val (.int p3), .val (.int p4), .val (.int (3 : Int32)), .val (.ref b1), .val (.ref b9), .val (.int (1 : Int32)), .unset] [(.int (p2 ^^^ (-1 : Int32))), (.int (5 : Int32)), (.ref b1)])) _
    refine st27 _ ?_
    show Steps p.tables e below (T27.setTop (mkF m 277 #[.val (.int p1), .val (.int p2), .val (.int p3), .val (.int p4), .val (.int (3 : Int32)), .val (.ref b1), .val (.ref b9), .val (.int (1 : Int32)), .unset] [(.int (1 : Int32))])) _
    refine XS.ifNo X27.here hx rfl (hb hby at_277) rfl ((if0 _ _).trans (feq (by decide : ¬ ((1 : Int32) = (0 : Int32)))).1) ?_
    show Steps p.tables e below (T27.setTop (mkF m 280 #[.val (.int p1), .val (.int p2), .val (.int p3), .val (.int p4), .val (.int (3 : Int32)), .val (.ref b1), .val (.ref b9), .val (.int (1 : Int32)), .unset] [])) _
    refine own_blk X27 hx bl0_280_5 (own_hb hby bd0_280_5) (pc' := 288) (Ls' := #[.val (.int p1), .val (.int p2), .val (.int p3), .val (.int p4), .val (.int (3 : Int32)), .val (.ref b1), .val (.ref b9), .val (.int (1 : Int32)), .unset]) (st' := [(.int (p4 * (31 : Int32))), (.int (6 : Int32)), (.ref b1)]) rfl ?_
    show Steps p.tables e below (T27.setTop (mkF m 288 #[.val (.int p1), .val (.int p2), .val (.int p3), .val (.int p4), .val (.int (3 : Int32)), .val (.ref b1), .val (.ref b9), .val (.int (1 : Int32)), .unset] [(.int (p4 * (31 : Int32))), (.int (6 : Int32)), (.ref b1)])) _
    refine st28 _ ?_
    show Steps p.tables e below (T28.setTop (mkF m 291 #[.val (.int p1), .val (.int p2), .val (.int p3), .val (.int p4), .val (.int (3 : Int32)), .val (.ref b1), .val (.ref b9), .val (.int (1 : Int32)), .unset] [(.int (1 : Int32))])) _
    refine XS.ifNo X28.here hx rfl (hb hby at_291) rfl ((if0 _ _).trans (feq (by decide : ¬ ((1 : Int32) = (0 : Int32)))).1) ?_
    show Steps p.tables e below (T28.setTop (mkF m 294 #[.val (.int p1), .val (.int p2), .val (.int p3), .val (.int p4), .val (.int (3 : Int32)), .val (.ref b1), .val (.ref b9), .val (.int (1 : Int32)), .unset] [])) _
    refine own_blk X28 hx bl0_294_4 (own_hb hby bd0_294_4) (pc' := 303) (Ls' := #[.val (.int p1), .val (.int p2), .val (.int p3), .val (.int p4), .val (.int (3 : Int32)), .val (.ref b1), .val (.ref b9), .val (.int (1 : Int32)), .val (.int (1 : Int32))]) (st' := [(.int (1 : Int32))]) rfl ?_
    show Steps p.tables e below (T28.setTop (mkF m 303 #[.val (.int p1), .val (.int p2), .val (.int p3), .val (.int p4), .val (.int (3 : Int32)), .val (.ref b1), .val (.ref b9), .val (.int (1 : Int32)), .val (.int (1 : Int32))] [(.int (1 : Int32))])) _
    refine XS.ifNo X28.here hx rfl (hb hby at_303) rfl ((if0 _ _).trans (feq (by decide : ¬ ((1 : Int32) = (0 : Int32)))).1) ?_
    show Steps p.tables e below (T28.setTop (mkF m 306 #[.val (.int p1), .val (.int p2), .val (.int p3), .val (.int p4), .val (.int (3 : Int32)), .val (.ref b1), .val (.ref b9), .val (.int (1 : Int32)), .val (.int (1 : Int32))] [])) _
    refine own_blk X28 hx bl0_306_1 (own_hb hby bd0_306_1) (pc' := 308) (Ls' := #[.val (.int p1), .val (.int p2), .val (.int p3), .val (.int p4), .val (.int (3 : Int32)), .val (.ref b1), .val (.ref b9), .val (.int (1 : Int32)), .val (.int (1 : Int32))]) (st' := [(.int (1 : Int32))]) rfl ?_
    show Steps p.tables e below (T28.setTop (mkF m 308 #[.val (.int p1), .val (.int p2), .val (.int p3), .val (.int p4), .val (.int (3 : Int32)), .val (.ref b1), .val (.ref b9), .val (.int (1 : Int32)), .val (.int (1 : Int32))] [(.int (1 : Int32))])) _
    refine XS.ifNo X28.here hx rfl (hb hby at_308) rfl ((if0 _ _).trans (feq (by decide : ¬ ((1 : Int32) = (0 : Int32)))).1) ?_
    show Steps p.tables e below (T28.setTop (mkF m 311 #[.val (.int p1), .val (.int p2), .val (.int p3), .val (.int p4), .val (.int (3 : Int32)), .val (.ref b1), .val (.ref b9), .val (.int (1 : Int32)), .val (.int (1 : Int32))] [])) _
    refine own_blk X28 hx bl0_311_2 (own_hb hby bd0_311_2) (pc' := 316) (Ls' := #[.val (.int p1), .val (.int p2), .val (.int p3), .val (.int p4), .val (.int (3 : Int32)), .val (.ref b1), .val (.ref b9), .val (.int (1 : Int32)), .val (.int (1 : Int32))]) (st' := [(.int (1 : Int32))]) rfl ?_
    show Steps p.tables e below (T28.setTop (mkF m 316 #[.val (.int p1), .val (.int p2), .val (.int p3), .val (.int p4), .val (.int (3 : Int32)), .val (.ref b1), .val (.ref b9), .val (.int (1 : Int32)), .val (.int (1 : Int32))] [(.int (1 : Int32))])) _
    exact retN X28 hx (t := .boolean) Bd.returns (by simp) (hb hby at_316) hr
  · show Q0_3 Z p1 p2 p3 p4 h0 n0 _ T28.heap _
    rw [e28]
    exact ⟨by rw [f0_3], N28⟩

def Q1_4 (Z : State) (a1 : Addr) (k_a1 : ClassId) (vs1 : List Value) (h0 : Heap) (n0 : Nat) (v : Option Value) (h : Heap) (L : List Loc) : Prop := ∃ (b : Addr) (k : ClassId), v = some (.ref b) ∧ Fr n0 L ∧ Keep h0 h [] ∧ n0 ≤ b ∧ h0.size ≤ b ∧ Arv Z h b k .int (5 : Int32) [(.int (0 : Int32)), (.int (1 : Int32)), (.int (2 : Int32)), (.int (3 : Int32)), (.int (4 : Int32))] (.int (0 : Int32))
set_option maxRecDepth 65536 in
set_option maxHeartbeats 40000000 in
theorem rm1_4 (l : Launch) (Z : State) (a0 : Array Value) (hw : ∀ d ∈ tables_1, d.before a0 Z = true) (ws : List Jvm.Cond) (a1 : Addr) (k_a1 : ClassId) (vs1 : List Value) (h0 : Heap) (n0 : Nat) (Z0 : n0 ≤ h0.size) (V_a1 : Arv Z h0 a1 k_a1 .int (4 : Int32) vs1 (.int (0 : Int32))) :
    MetFree l (⟨"com/example/varel/varel/text/EditDistance", "start", "([I)[I"⟩ : MethodName) (head1 (Jvm.Cond.code (⟨"com/example/varel/varel/text/EditDistance", "start", "([I)[I"⟩ : MethodName) prog_54_method_4_code 3 (some (.array .int)) :: ws) ({ frames := 0, cells := 1, slots := 5, locals := 0 } : Room)) (fun a U => a = #[(.ref a1)] ∧ Z.Warmed39 U.vm ∧ U.heap = h0) (fun _ _ _ _ _ => True) (fun _ U o U' => ∃ v L, o = .returned v ∧ Q1_4 Z a1 k_a1 vs1 h0 n0 v U'.heap L ∧ FrameEnd U o U' L ({ frames := 0, cells := 1, slots := 5, locals := 0 } : Room).cells ({ frames := 0, cells := 1, slots := 5, locals := 0 } : Room).slots) := by
  refine MetFree.of_bodySF (plainFor_of_name pn_1) hisR ?_
  intro p e s m args below meth c s₁ Bd hml0 hP hK
  obtain ⟨rfl, hZ, hh⟩ := hP
  have hx := Bd.exec
  have hby := Bd.bytes
  have hml : c.maxLocals = 3 := hml0
  have hown : s.vm.findClass "com/example/varel/varel/text/EditDistance" = some m.cls := findClass_of_methodNamed Bd.named
  have hnm := (name_of_methodNamed Bd.named Bd.method).1
  have X0 : Stand p l e ({ frames := 0, cells := 1, slots := 5, locals := 0 } : Room) s m #[(.ref a1)] below meth c s₁ [] 0 0 := Stand.of_body Bd
  have e0 : s₁.heap = h0 := by rw [← hh, Bd.state]; rfl
  have N0 := Fr.nil n0
  have pre0 : ∀ t, Steps p.tables e below (s₁.setTop (mkF m 0 #[.val (.ref a1), .unset, .unset] [])) t → Steps p.tables e below (s₁.setTop (entryFrame m #[(.ref a1)] 3)) t := fun t k => castTop (ef_1 m a1) k
  obtain ⟨cl1, Ar1, qq1, S1, N1_, H1, G1⟩ := id V_a1
  obtain ⟨T2, h2, k2, X2, e2, E2, A2, st2⟩ := newP X0 hx hZ (hw _ (List.mem_of_getElem? (i := 0) rfl)) e0 (g := (mkF m 4 #[.val (.ref a1), .unset, .unset] [(.int (5 : Int32))])) rfl (hb hby d1_4) rfl (by decide) (cap := 5) (by decide) (by decide) (by decide) (by decide)
  obtain ⟨b2, g2⟩ : ∃ z, z = h0.size := ⟨_, rfl⟩
  rw [← g2] at A2 st2
  have ne_a1_b2 : a1 ≠ b2 := Nat.ne_of_lt (Nat.lt_of_lt_of_le V_a1.lt (Nat.le_of_eq g2.symm))
  have g_b2 : n0 ≤ b2 := Nat.le_trans Z0 (Nat.le_of_eq g2.symm)
  have sz_b2 : h0.size ≤ b2 := Nat.le_trans (Keep.refl h0 []).1 (Nat.le_of_eq g2.symm)
  have zs3 : n0 ≤ h2.size := Nat.le_trans Z0 E2.1
  have kp4 : Keep h0 h2 [] := (Keep.refl h0 []).ext E2
  have V_b2 : Arv Z h2 b2 k2 .int (5 : Int32) [(.int (0 : Int32)), (.int (0 : Int32)), (.int (0 : Int32)), (.int (0 : Int32)), (.int (0 : Int32))] (.int (0 : Int32)) := (Arv.new A2 (by decide)).pad (pad_rep [] (.int (0 : Int32)) 5)
  have fa5 : Arv Z h2 a1 k_a1 .int (4 : Int32) vs1 (.int (0 : Int32)) := (V_a1.ext E2)
  obtain ⟨cl6, Ar6, qq6, S6, N6_, H6, G6⟩ := id fa5
  obtain ⟨cl7, Ar7, qq7, S7, N7_, H7, G7⟩ := id V_b2
  have hin7 : ¬ ((0 : Int32) < 0 ∨ cl7.slots.size ≤ ((0 : Int32)).toNatClampNeg) := inb_of S7 ⟨by decide, by decide⟩
  obtain ⟨T7, h7, X7, e7, W7, st7⟩ := stI X2 hx hZ e2 Ar7 (j := (0 : Int32)) hin7 (g := (mkF m 18 #[.val (.ref a1), .val (.ref b2), .val (.int (0 : Int32))] [(.int (0 : Int32)), (.int (0 : Int32)), (.ref b2)])) rfl rfl (hb hby d1_18)
  have V7 : Arv Z h7 b2 k2 .int (5 : Int32) [(.int (0 : Int32)), (.int (0 : Int32)), (.int (0 : Int32)), (.int (0 : Int32)), (.int (0 : Int32))] (.int (0 : Int32)) := Arv.set Ar7 qq7 S7 N7_ H7 G7 rfl W7 0 rfl (Nat.le_of_ble_eq_true rfl)
  have zs8 : n0 ≤ h7.size := Nat.le_trans zs3 (Keep.of_wr W7).1
  have kp9 : Keep h0 h7 [] := kp4.wr W7 (Or.inr sz_b2)
  have N7 := Fr.snoc X7 N0 g_b2
  have fa10 : Arv Z h7 a1 k_a1 .int (4 : Int32) vs1 (.int (0 : Int32)) := (fa5.other W7 ne_a1_b2)
  obtain ⟨cl11, Ar11, qq11, S11, N11_, H11, G11⟩ := id fa10
  obtain ⟨cl12, Ar12, qq12, S12, N12_, H12, G12⟩ := id V7
  have hin12 : ¬ ((1 : Int32) < 0 ∨ cl12.slots.size ≤ ((1 : Int32)).toNatClampNeg) := inb_of S12 ⟨by decide, by decide⟩
  obtain ⟨T12, h12, X12, e12, W12, st12⟩ := stI X7 hx hZ e7 Ar12 (j := (1 : Int32)) hin12 (g := (mkF m 18 #[.val (.ref a1), .val (.ref b2), .val (.int (1 : Int32))] [(.int (1 : Int32)), (.int (1 : Int32)), (.ref b2)])) rfl rfl (hb hby d1_18)
  have V12 : Arv Z h12 b2 k2 .int (5 : Int32) [(.int (0 : Int32)), (.int (1 : Int32)), (.int (0 : Int32)), (.int (0 : Int32)), (.int (0 : Int32))] (.int (0 : Int32)) := Arv.set Ar12 qq12 S12 N12_ H12 G12 rfl W12 1 rfl (Nat.le_of_ble_eq_true rfl)
  have zs13 : n0 ≤ h12.size := Nat.le_trans zs8 (Keep.of_wr W12).1
  have kp14 : Keep h0 h12 [] := kp9.wr W12 (Or.inr sz_b2)
  have N12 := Fr.snoc X12 N7 g_b2
  have fa15 : Arv Z h12 a1 k_a1 .int (4 : Int32) vs1 (.int (0 : Int32)) := (fa10.other W12 ne_a1_b2)
  obtain ⟨cl16, Ar16, qq16, S16, N16_, H16, G16⟩ := id fa15
  obtain ⟨cl17, Ar17, qq17, S17, N17_, H17, G17⟩ := id V12
  have hin17 : ¬ ((2 : Int32) < 0 ∨ cl17.slots.size ≤ ((2 : Int32)).toNatClampNeg) := inb_of S17 ⟨by decide, by decide⟩
  obtain ⟨T17, h17, X17, e17, W17, st17⟩ := stI X12 hx hZ e12 Ar17 (j := (2 : Int32)) hin17 (g := (mkF m 18 #[.val (.ref a1), .val (.ref b2), .val (.int (2 : Int32))] [(.int (2 : Int32)), (.int (2 : Int32)), (.ref b2)])) rfl rfl (hb hby d1_18)
  have V17 : Arv Z h17 b2 k2 .int (5 : Int32) [(.int (0 : Int32)), (.int (1 : Int32)), (.int (2 : Int32)), (.int (0 : Int32)), (.int (0 : Int32))] (.int (0 : Int32)) := Arv.set Ar17 qq17 S17 N17_ H17 G17 rfl W17 2 rfl (Nat.le_of_ble_eq_true rfl)
  have zs18 : n0 ≤ h17.size := Nat.le_trans zs13 (Keep.of_wr W17).1
  have kp19 : Keep h0 h17 [] := kp14.wr W17 (Or.inr sz_b2)
  have N17 := Fr.snoc X17 N12 g_b2
  have fa20 : Arv Z h17 a1 k_a1 .int (4 : Int32) vs1 (.int (0 : Int32)) := (fa15.other W17 ne_a1_b2)
  obtain ⟨cl21, Ar21, qq21, S21, N21_, H21, G21⟩ := id fa20
  obtain ⟨cl22, Ar22, qq22, S22, N22_, H22, G22⟩ := id V17
  have hin22 : ¬ ((3 : Int32) < 0 ∨ cl22.slots.size ≤ ((3 : Int32)).toNatClampNeg) := inb_of S22 ⟨by decide, by decide⟩
  obtain ⟨T22, h22, X22, e22, W22, st22⟩ := stI X17 hx hZ e17 Ar22 (j := (3 : Int32)) hin22 (g := (mkF m 18 #[.val (.ref a1), .val (.ref b2), .val (.int (3 : Int32))] [(.int (3 : Int32)), (.int (3 : Int32)), (.ref b2)])) rfl rfl (hb hby d1_18)
  have V22 : Arv Z h22 b2 k2 .int (5 : Int32) [(.int (0 : Int32)), (.int (1 : Int32)), (.int (2 : Int32)), (.int (3 : Int32)), (.int (0 : Int32))] (.int (0 : Int32)) := Arv.set Ar22 qq22 S22 N22_ H22 G22 rfl W22 3 rfl (Nat.le_of_ble_eq_true rfl)
  have zs23 : n0 ≤ h22.size := Nat.le_trans zs18 (Keep.of_wr W22).1
  have kp24 : Keep h0 h22 [] := kp19.wr W22 (Or.inr sz_b2)
  have N22 := Fr.snoc X22 N17 g_b2
  have fa25 : Arv Z h22 a1 k_a1 .int (4 : Int32) vs1 (.int (0 : Int32)) := (fa20.other W22 ne_a1_b2)
  obtain ⟨cl26, Ar26, qq26, S26, N26_, H26, G26⟩ := id fa25
  obtain ⟨cl27, Ar27, qq27, S27, N27_, H27, G27⟩ := id V22
  have hin27 : ¬ ((4 : Int32) < 0 ∨ cl27.slots.size ≤ ((4 : Int32)).toNatClampNeg) := inb_of S27 ⟨by decide, by decide⟩
  obtain ⟨T27, h27, X27, e27, W27, st27⟩ := stI X22 hx hZ e22 Ar27 (j := (4 : Int32)) hin27 (g := (mkF m 18 #[.val (.ref a1), .val (.ref b2), .val (.int (4 : Int32))] [(.int (4 : Int32)), (.int (4 : Int32)), (.ref b2)])) rfl rfl (hb hby d1_18)
  have V27 : Arv Z h27 b2 k2 .int (5 : Int32) [(.int (0 : Int32)), (.int (1 : Int32)), (.int (2 : Int32)), (.int (3 : Int32)), (.int (4 : Int32))] (.int (0 : Int32)) := Arv.set Ar27 qq27 S27 N27_ H27 G27 rfl W27 4 rfl (Nat.le_of_ble_eq_true rfl)
  have zs28 : n0 ≤ h27.size := Nat.le_trans zs23 (Keep.of_wr W27).1
  have kp29 : Keep h0 h27 [] := kp24.wr W27 (Or.inr sz_b2)
  have N27 := Fr.snoc X27 N22 g_b2
  have fa30 : Arv Z h27 a1 k_a1 .int (4 : Int32) vs1 (.int (0 : Int32)) := (fa25.other W27 ne_a1_b2)
  obtain ⟨cl31, Ar31, qq31, S31, N31_, H31, G31⟩ := id fa30
  obtain ⟨fs, hr, hrun, hended, hW, hsame⟩ := X27.leave (v := some (.ref b2)) (fun h => by rw [Bd.returns] at h; cases h)
  refine ⟨_, _, pre0 _ ?_, hrun, hended, _, _, rfl, ?_, ⟨_, rfl⟩, hW, hsame.mono (by decide) (by decide)⟩
  · show Steps p.tables e below (s₁.setTop (mkF m 0 #[.val (.ref a1), .unset, .unset] [])) _
    refine own_blk X0 hx bl1_0_1 (own_hb hby bd1_0_1) (pc' := 1) (Ls' := #[.val (.ref a1), .unset, .unset]) (st' := [(.ref a1)]) rfl ?_
    show Steps p.tables e below (s₁.setTop (mkF m 1 #[.val (.ref a1), .unset, .unset] [(.ref a1)])) _
    refine X0.arraylength hx (by rw [e0]; exact Ar1.1) (State.isArrayOf_alike hZ.alike Ar1.2.1) (g := (mkF m 1 #[.val (.ref a1), .unset, .unset] [(.ref a1)])) rfl rfl (hb hby d1_1) _ ?_
    rw [len_of S1 N1_]
    show Steps p.tables e below (s₁.setTop (mkF m 2 #[.val (.ref a1), .unset, .unset] [(.int (4 : Int32))])) _
    refine own_blk X0 hx bl1_2_2 (own_hb hby bd1_2_2) (pc' := 4) (Ls' := #[.val (.ref a1), .unset, .unset]) (st' := [(.int (5 : Int32))]) rfl ?_
    show Steps p.tables e below (s₁.setTop (mkF m 4 #[.val (.ref a1), .unset, .unset] [(.int (5 : Int32))])) _
    refine st2 _ ?_
    show Steps p.tables e below (T2.setTop (mkF m 6 #[.val (.ref a1), .unset, .unset] [(.ref b2)])) _
    refine own_blk X2 hx bl1_6_5 (own_hb hby bd1_6_5) (pc' := 11) (Ls' := #[.val (.ref a1), .val (.ref b2), .val (.int (0 : Int32))]) (st' := [(.ref a1), (.int (0 : Int32))]) rfl ?_
    show Steps p.tables e below (T2.setTop (mkF m 11 #[.val (.ref a1), .val (.ref b2), .val (.int (0 : Int32))] [(.ref a1), (.int (0 : Int32))])) _
    refine X2.arraylength hx (by rw [e2]; exact Ar6.1) (State.isArrayOf_alike hZ.alike Ar6.2.1) (g := (mkF m 11 #[.val (.ref a1), .val (.ref b2), .val (.int (0 : Int32))] [(.ref a1), (.int (0 : Int32))])) rfl rfl (hb hby d1_11) _ ?_
    rw [len_of S6 N6_]
    show Steps p.tables e below (T2.setTop (mkF m 12 #[.val (.ref a1), .val (.ref b2), .val (.int (0 : Int32))] [(.int (4 : Int32)), (.int (0 : Int32))])) _
    refine XS.icmpNo X2.here hx rfl (hb hby d1_12) rfl (flt (by decide : ¬ ((4 : Int32) < (0 : Int32)))).2.2.1 ?_
    show Steps p.tables e below (T2.setTop (mkF m 15 #[.val (.ref a1), .val (.ref b2), .val (.int (0 : Int32))] [])) _
    refine own_blk X2 hx bl1_15_3 (own_hb hby bd1_15_3) (pc' := 18) (Ls' := #[.val (.ref a1), .val (.ref b2), .val (.int (0 : Int32))]) (st' := [(.int (0 : Int32)), (.int (0 : Int32)), (.ref b2)]) rfl ?_
    show Steps p.tables e below (T2.setTop (mkF m 18 #[.val (.ref a1), .val (.ref b2), .val (.int (0 : Int32))] [(.int (0 : Int32)), (.int (0 : Int32)), (.ref b2)])) _
    refine st7 _ ?_
    show Steps p.tables e below (T7.setTop (mkF m 19 #[.val (.ref a1), .val (.ref b2), .val (.int (0 : Int32))] [])) _
    refine own_blk X7 hx bl1_19_4 (own_hb hby bd1_19_4) (pc' := 11) (Ls' := #[.val (.ref a1), .val (.ref b2), .val (.int (1 : Int32))]) (st' := [(.ref a1), (.int (1 : Int32))]) rfl ?_
    show Steps p.tables e below (T7.setTop (mkF m 11 #[.val (.ref a1), .val (.ref b2), .val (.int (1 : Int32))] [(.ref a1), (.int (1 : Int32))])) _
    refine X7.arraylength hx (by rw [e7]; exact Ar11.1) (State.isArrayOf_alike hZ.alike Ar11.2.1) (g := (mkF m 11 #[.val (.ref a1), .val (.ref b2), .val (.int (1 : Int32))] [(.ref a1), (.int (1 : Int32))])) rfl rfl (hb hby d1_11) _ ?_
    rw [len_of S11 N11_]
    show Steps p.tables e below (T7.setTop (mkF m 12 #[.val (.ref a1), .val (.ref b2), .val (.int (1 : Int32))] [(.int (4 : Int32)), (.int (1 : Int32))])) _
    refine XS.icmpNo X7.here hx rfl (hb hby d1_12) rfl (flt (by decide : ¬ ((4 : Int32) < (1 : Int32)))).2.2.1 ?_
    show Steps p.tables e below (T7.setTop (mkF m 15 #[.val (.ref a1), .val (.ref b2), .val (.int (1 : Int32))] [])) _
    refine own_blk X7 hx bl1_15_3 (own_hb hby bd1_15_3) (pc' := 18) (Ls' := #[.val (.ref a1), .val (.ref b2), .val (.int (1 : Int32))]) (st' := [(.int (1 : Int32)), (.int (1 : Int32)), (.ref b2)]) rfl ?_
    show Steps p.tables e below (T7.setTop (mkF m 18 #[.val (.ref a1), .val (.ref b2), .val (.int (1 : Int32))] [(.int (1 : Int32)), (.int (1 : Int32)), (.ref b2)])) _
    refine st12 _ ?_
    show Steps p.tables e below (T12.setTop (mkF m 19 #[.val (.ref a1), .val (.ref b2), .val (.int (1 : Int32))] [])) _
    refine own_blk X12 hx bl1_19_4 (own_hb hby bd1_19_4) (pc' := 11) (Ls' := #[.val (.ref a1), .val (.ref b2), .val (.int (2 : Int32))]) (st' := [(.ref a1), (.int (2 : Int32))]) rfl ?_
    show Steps p.tables e below (T12.setTop (mkF m 11 #[.val (.ref a1), .val (.ref b2), .val (.int (2 : Int32))] [(.ref a1), (.int (2 : Int32))])) _
    refine X12.arraylength hx (by rw [e12]; exact Ar16.1) (State.isArrayOf_alike hZ.alike Ar16.2.1) (g := (mkF m 11 #[.val (.ref a1), .val (.ref b2), .val (.int (2 : Int32))] [(.ref a1), (.int (2 : Int32))])) rfl rfl (hb hby d1_11) _ ?_
    rw [len_of S16 N16_]
    show Steps p.tables e below (T12.setTop (mkF m 12 #[.val (.ref a1), .val (.ref b2), .val (.int (2 : Int32))] [(.int (4 : Int32)), (.int (2 : Int32))])) _
    refine XS.icmpNo X12.here hx rfl (hb hby d1_12) rfl (flt (by decide : ¬ ((4 : Int32) < (2 : Int32)))).2.2.1 ?_
    show Steps p.tables e below (T12.setTop (mkF m 15 #[.val (.ref a1), .val (.ref b2), .val (.int (2 : Int32))] [])) _
    refine own_blk X12 hx bl1_15_3 (own_hb hby bd1_15_3) (pc' := 18) (Ls' := #[.val (.ref a1), .val (.ref b2), .val (.int (2 : Int32))]) (st' := [(.int (2 : Int32)), (.int (2 : Int32)), (.ref b2)]) rfl ?_
    show Steps p.tables e below (T12.setTop (mkF m 18 #[.val (.ref a1), .val (.ref b2), .val (.int (2 : Int32))] [(.int (2 : Int32)), (.int (2 : Int32)), (.ref b2)])) _
    refine st17 _ ?_
    show Steps p.tables e below (T17.setTop (mkF m 19 #[.val (.ref a1), .val (.ref b2), .val (.int (2 : Int32))] [])) _
    refine own_blk X17 hx bl1_19_4 (own_hb hby bd1_19_4) (pc' := 11) (Ls' := #[.val (.ref a1), .val (.ref b2), .val (.int (3 : Int32))]) (st' := [(.ref a1), (.int (3 : Int32))]) rfl ?_
    show Steps p.tables e below (T17.setTop (mkF m 11 #[.val (.ref a1), .val (.ref b2), .val (.int (3 : Int32))] [(.ref a1), (.int (3 : Int32))])) _
    refine X17.arraylength hx (by rw [e17]; exact Ar21.1) (State.isArrayOf_alike hZ.alike Ar21.2.1) (g := (mkF m 11 #[.val (.ref a1), .val (.ref b2), .val (.int (3 : Int32))] [(.ref a1), (.int (3 : Int32))])) rfl rfl (hb hby d1_11) _ ?_
    rw [len_of S21 N21_]
    show Steps p.tables e below (T17.setTop (mkF m 12 #[.val (.ref a1), .val (.ref b2), .val (.int (3 : Int32))] [(.int (4 : Int32)), (.int (3 : Int32))])) _
    refine XS.icmpNo X17.here hx rfl (hb hby d1_12) rfl (flt (by decide : ¬ ((4 : Int32) < (3 : Int32)))).2.2.1 ?_
    show Steps p.tables e below (T17.setTop (mkF m 15 #[.val (.ref a1), .val (.ref b2), .val (.int (3 : Int32))] [])) _
    refine own_blk X17 hx bl1_15_3 (own_hb hby bd1_15_3) (pc' := 18) (Ls' := #[.val (.ref a1), .val (.ref b2), .val (.int (3 : Int32))]) (st' := [(.int (3 : Int32)), (.int (3 : Int32)), (.ref b2)]) rfl ?_
    show Steps p.tables e below (T17.setTop (mkF m 18 #[.val (.ref a1), .val (.ref b2), .val (.int (3 : Int32))] [(.int (3 : Int32)), (.int (3 : Int32)), (.ref b2)])) _
    refine st22 _ ?_
    show Steps p.tables e below (T22.setTop (mkF m 19 #[.val (.ref a1), .val (.ref b2), .val (.int (3 : Int32))] [])) _
    refine own_blk X22 hx bl1_19_4 (own_hb hby bd1_19_4) (pc' := 11) (Ls' := #[.val (.ref a1), .val (.ref b2), .val (.int (4 : Int32))]) (st' := [(.ref a1), (.int (4 : Int32))]) rfl ?_
    show Steps p.tables e below (T22.setTop (mkF m 11 #[.val (.ref a1), .val (.ref b2), .val (.int (4 : Int32))] [(.ref a1), (.int (4 : Int32))])) _
    refine X22.arraylength hx (by rw [e22]; exact Ar26.1) (State.isArrayOf_alike hZ.alike Ar26.2.1) (g := (mkF m 11 #[.val (.ref a1), .val (.ref b2), .val (.int (4 : Int32))] [(.ref a1), (.int (4 : Int32))])) rfl rfl (hb hby d1_11) _ ?_
    rw [len_of S26 N26_]
    show Steps p.tables e below (T22.setTop (mkF m 12 #[.val (.ref a1), .val (.ref b2), .val (.int (4 : Int32))] [(.int (4 : Int32)), (.int (4 : Int32))])) _
    refine XS.icmpNo X22.here hx rfl (hb hby d1_12) rfl (flt (by decide : ¬ ((4 : Int32) < (4 : Int32)))).2.2.1 ?_
    show Steps p.tables e below (T22.setTop (mkF m 15 #[.val (.ref a1), .val (.ref b2), .val (.int (4 : Int32))] [])) _
    refine own_blk X22 hx bl1_15_3 (own_hb hby bd1_15_3) (pc' := 18) (Ls' := #[.val (.ref a1), .val (.ref b2), .val (.int (4 : Int32))]) (st' := [(.int (4 : Int32)), (.int (4 : Int32)), (.ref b2)]) rfl ?_
    show Steps p.tables e below (T22.setTop (mkF m 18 #[.val (.ref a1), .val (.ref b2), .val (.int (4 : Int32))] [(.int (4 : Int32)), (.int (4 : Int32)), (.ref b2)])) _
    refine st27 _ ?_
    show Steps p.tables e below (T27.setTop (mkF m 19 #[.val (.ref a1), .val (.ref b2), .val (.int (4 : Int32))] [])) _
    refine own_blk X27 hx bl1_19_4 (own_hb hby bd1_19_4) (pc' := 11) (Ls' := #[.val (.ref a1), .val (.ref b2), .val (.int (5 : Int32))]) (st' := [(.ref a1), (.int (5 : Int32))]) rfl ?_
    show Steps p.tables e below (T27.setTop (mkF m 11 #[.val (.ref a1), .val (.ref b2), .val (.int (5 : Int32))] [(.ref a1), (.int (5 : Int32))])) _
    refine X27.arraylength hx (by rw [e27]; exact Ar31.1) (State.isArrayOf_alike hZ.alike Ar31.2.1) (g := (mkF m 11 #[.val (.ref a1), .val (.ref b2), .val (.int (5 : Int32))] [(.ref a1), (.int (5 : Int32))])) rfl rfl (hb hby d1_11) _ ?_
    rw [len_of S31 N31_]
    show Steps p.tables e below (T27.setTop (mkF m 12 #[.val (.ref a1), .val (.ref b2), .val (.int (5 : Int32))] [(.int (4 : Int32)), (.int (5 : Int32))])) _
    refine XS.icmpYes X27.here hx rfl (pc0 := 12) (pc' := 25) rfl (hb hby d1_12) rfl (tlt (by decide : (4 : Int32) < (5 : Int32))).2.2.1 (by decide) (by decide) ?_
    show Steps p.tables e below (T27.setTop (mkF m 25 #[.val (.ref a1), .val (.ref b2), .val (.int (5 : Int32))] [])) _
    refine own_blk X27 hx bl1_25_1 (own_hb hby bd1_25_1) (pc' := 26) (Ls' := #[.val (.ref a1), .val (.ref b2), .val (.int (5 : Int32))]) (st' := [(.ref b2)]) rfl ?_
    show Steps p.tables e below (T27.setTop (mkF m 26 #[.val (.ref a1), .val (.ref b2), .val (.int (5 : Int32))] [(.ref b2)])) _
    jvm_step X27.here [X27.here.top, hx, (hb hby d1_26), X27.method', Bd.returns, Value.isRef, FieldType.isReference]
    first | (intro acts; rw [hr _ acts rfl rfl rfl]) | rw [hr _ _ rfl rfl rfl]
    exact Steps.refl _
  · show Q1_4 Z a1 k_a1 vs1 h0 n0 _ T27.heap _
    rw [e27]
    exact ⟨b2, k2, rfl, N27, kp29, g_b2, sz_b2, V27⟩
def bl0_50_5 : List (Nat × Instr × Nat) := [(50, .aload 5, 2), (52, .iconst 3, 1), (53, .iload_n 1, 1), (54, .iload_n 2, 1), (55, .ixor, 1)]
theorem bd0_50_5 : own_dec code bl0_50_5 = true := by decide +kernel

def f0_4 (p1 : Int32) (p2 : Int32) (p3 : Int32) (p4 : Int32) : Int32 := (1 : Int32)
def Q0_4 (Z : State) (p1 : Int32) (p2 : Int32) (p3 : Int32) (p4 : Int32) (h0 : Heap) (n0 : Nat) (v : Option Value) (h : Heap) (L : List Loc) : Prop := v = some (.int (f0_4 p1 p2 p3 p4)) ∧ Fr n0 L
set_option maxRecDepth 65536 in
set_option maxHeartbeats 40000000 in
theorem rm0_4 (l : Launch) (Z : State) (a0 : Array Value) (hw : ∀ d ∈ tables_1, d.before a0 Z = true) (ws : List Jvm.Cond) (p1 : Int32) (p2 : Int32) (p3 : Int32) (p4 : Int32) (h0 : Heap) (n0 : Nat) (Z0 : n0 ≤ h0.size) (hn : (p1 &&& (7 : Int32)) = (4 : Int32)) :
    MetFree l x (head1 (Jvm.Cond.code x code maxLocals ret :: ws) room_1) (fun a U => a = #[(.int p1), (.int p2), (.int p3), (.int p4)] ∧ Z.Warmed39 U.vm ∧ U.heap = h0) (fun _ _ _ _ _ => True) (fun _ U o U' => ∃ v L, o = .returned v ∧ Q0_4 Z p1 p2 p3 p4 h0 n0 v U'.heap L ∧ FrameEnd U o U' L room_1.cells room_1.slots) := by
  refine MetFree.of_bodySF (plainFor_of_name pn_0) hisR ?_
  intro p e s m args below meth c s₁ Bd hml0 hP hK
  obtain ⟨rfl, hZ, hh⟩ := hP
  have hx := Bd.exec
  have hby := Bd.bytes
  have hml : c.maxLocals = 9 := hml0
  have hown : s.vm.findClass "com/example/varel/varel/text/EditDistanceStartPinLaw" = some m.cls := findClass_of_methodNamed Bd.named
  have hnm := (name_of_methodNamed Bd.named Bd.method).1
  have X0 : Stand p l e room_1 s m #[(.int p1), (.int p2), (.int p3), (.int p4)] below meth c s₁ [] 0 0 := Stand.of_body Bd
  have e0 : s₁.heap = h0 := by rw [← hh, Bd.state]; rfl
  have N0 := Fr.nil n0
  have pre0 : ∀ t, Steps p.tables e below (s₁.setTop (mkF m 0 #[.val (.int p1), .val (.int p2), .val (.int p3), .val (.int p4), .unset, .unset, .unset, .unset, .unset] [])) t → Steps p.tables e below (s₁.setTop (entryFrame m #[(.int p1), (.int p2), (.int p3), (.int p4)] maxLocals)) t := fun t k => castTop (ef_0 m p1 p2 p3 p4) k
  obtain ⟨T1, h1, k1, X1, e1, E1, A1, st1⟩ := newP X0 hx hZ (hw _ (List.mem_of_getElem? (i := 0) rfl)) e0 (g := (mkF m 8 #[.val (.int p1), .val (.int p2), .val (.int p3), .val (.int p4), .val (.int (4 : Int32)), .unset, .unset, .unset, .unset] [(.int (4 : Int32))])) rfl (hb hby at_8) rfl (by decide) (cap := 4) (by decide) (by decide) (by decide) (by decide)
  obtain ⟨b1, g1⟩ : ∃ z, z = h0.size := ⟨_, rfl⟩
  rw [← g1] at A1 st1
  have g_b1 : n0 ≤ b1 := Nat.le_trans Z0 (Nat.le_of_eq g1.symm)
  have zs2 : n0 ≤ h1.size := Nat.le_trans Z0 E1.1
  have V_b1 : Arv Z h1 b1 k1 .int (4 : Int32) [(.int (0 : Int32)), (.int (0 : Int32)), (.int (0 : Int32)), (.int (0 : Int32))] (.int (0 : Int32)) := (Arv.new A1 (by decide)).pad (pad_rep [] (.int (0 : Int32)) 4)
  obtain ⟨cl3, Ar3, qq3, S3, N3_, H3, G3⟩ := id V_b1
  have hin3 : ¬ ((0 : Int32) < 0 ∨ cl3.slots.size ≤ ((0 : Int32)).toNatClampNeg) := inb_of S3 ⟨by decide, by decide⟩
  obtain ⟨T3, h3, X3, e3, W3, st3⟩ := stI X1 hx hZ e1 Ar3 (j := (0 : Int32)) hin3 (g := (mkF m 21 #[.val (.int p1), .val (.int p2), .val (.int p3), .val (.int p4), .val (.int (4 : Int32)), .val (.ref b1), .unset, .unset, .unset] [(.int p2), (.int (0 : Int32)), (.ref b1)])) rfl rfl (hb hby at_21)
  have V3 : Arv Z h3 b1 k1 .int (4 : Int32) [(.int p2), (.int (0 : Int32)), (.int (0 : Int32)), (.int (0 : Int32))] (.int (0 : Int32)) := Arv.set Ar3 qq3 S3 N3_ H3 G3 rfl W3 0 rfl (Nat.le_of_ble_eq_true rfl)
  have zs4 : n0 ≤ h3.size := Nat.le_trans zs2 (Keep.of_wr W3).1
  have N3 := Fr.snoc X3 N0 g_b1
  obtain ⟨cl5, Ar5, qq5, S5, N5_, H5, G5⟩ := id V3
  have hin5 : ¬ ((1 : Int32) < 0 ∨ cl5.slots.size ≤ ((1 : Int32)).toNatClampNeg) := inb_of S5 ⟨by decide, by decide⟩
  obtain ⟨T5, h5, X5, e5, W5, st5⟩ := stI X3 hx hZ e3 Ar5 (j := (1 : Int32)) hin5 (g := (mkF m 32 #[.val (.int p1), .val (.int p2), .val (.int p3), .val (.int p4), .val (.int (4 : Int32)), .val (.ref b1), .unset, .unset, .unset] [(.int p3), (.int (1 : Int32)), (.ref b1)])) rfl rfl (hb hby at_32)
  have V5 : Arv Z h5 b1 k1 .int (4 : Int32) [(.int p2), (.int p3), (.int (0 : Int32)), (.int (0 : Int32))] (.int (0 : Int32)) := Arv.set Ar5 qq5 S5 N5_ H5 G5 rfl W5 1 rfl (Nat.le_of_ble_eq_true rfl)
  have zs6 : n0 ≤ h5.size := Nat.le_trans zs4 (Keep.of_wr W5).1
  have N5 := Fr.snoc X5 N3 g_b1
  obtain ⟨cl7, Ar7, qq7, S7, N7_, H7, G7⟩ := id V5
  have hin7 : ¬ ((2 : Int32) < 0 ∨ cl7.slots.size ≤ ((2 : Int32)).toNatClampNeg) := inb_of S7 ⟨by decide, by decide⟩
  obtain ⟨T7, h7, X7, e7, W7, st7⟩ := stI X5 hx hZ e5 Ar7 (j := (2 : Int32)) hin7 (g := (mkF m 43 #[.val (.int p1), .val (.int p2), .val (.int p3), .val (.int p4), .val (.int (4 : Int32)), .val (.ref b1), .unset, .unset, .unset] [(.int p4), (.int (2 : Int32)), (.ref b1)])) rfl rfl (hb hby at_43)
  have V7 : Arv Z h7 b1 k1 .int (4 : Int32) [(.int p2), (.int p3), (.int p4), (.int (0 : Int32))] (.int (0 : Int32)) := Arv.set Ar7 qq7 S7 N7_ H7 G7 rfl W7 2 rfl (Nat.le_of_ble_eq_true rfl)
  have zs8 : n0 ≤ h7.size := Nat.le_trans zs6 (Keep.of_wr W7).1
  have N7 := Fr.snoc X7 N5 g_b1
  obtain ⟨cl9, Ar9, qq9, S9, N9_, H9, G9⟩ := id V7
  have hin9 : ¬ ((3 : Int32) < 0 ∨ cl9.slots.size ≤ ((3 : Int32)).toNatClampNeg) := inb_of S9 ⟨by decide, by decide⟩
  obtain ⟨T9, h9, X9, e9, W9, st9⟩ := stI X7 hx hZ e7 Ar9 (j := (3 : Int32)) hin9 (g := (mkF m 56 #[.val (.int p1), .val (.int p2), .val (.int p3), .val (.int p4), .val (.int (4 : Int32)), .val (.ref b1), .unset, .unset, .unset] [(.int (p2 ^^^ p3)), (.int (3 : Int32)), (.ref b1)])) rfl rfl (hb hby at_56)
  have V9 : Arv Z h9 b1 k1 .int (4 : Int32) [(.int p2), (.int p3), (.int p4), (.int (p2 ^^^ p3))] (.int (0 : Int32)) := Arv.set Ar9 qq9 S9 N9_ H9 G9 rfl W9 3 rfl (Nat.le_of_ble_eq_true rfl)
  have zs10 : n0 ≤ h9.size := Nat.le_trans zs8 (Keep.of_wr W9).1
  have N9 := Fr.snoc X9 N7 g_b1
  obtain ⟨_, T11, Lc11, X11, hQ11, st11⟩ := own_callS X9 hx hZ (y := (⟨"com/example/varel/varel/text/EditDistance", "start", "([I)[I"⟩ : MethodName)) hown (hw _ (List.mem_of_getElem? (i := 1) rfl)) (hw _ (List.mem_of_getElem? (i := 2) rfl)) (hw _ (List.mem_of_getElem? (i := 3) rfl)) (hw _ (List.mem_of_getElem? (i := 4) rfl)) (by decide) (W := 0) (argsL := [(.ref b1)]) (rest := []) (rm1_4 l Z a0 hw [] b1 k1 [(.int p2), (.int p3), (.int p4), (.int (p2 ^^^ p3))] h9 n0 zs10 V9) (by decide) (by decide) (c' := 2) (s' := 9) rfl rfl (by decide) (by decide) e9 (g := (mkF m 101 #[.val (.int p1), .val (.int p2), .val (.int p3), .val (.int p4), .val (.int (4 : Int32)), .val (.ref b1), .unset, .unset, .unset] [(.ref b1)])) rfl (by rw [hml]; rfl) (lenOf pd_0_0 rfl) rfl (by show 2 * 0 + _ ≤ _; exact Nat.le_of_eq rfl) (hb hby at_101)
  obtain ⟨b11, kk11, rfl, N11q, K11, g_b11, szz11, V_b11⟩ := hQ11
  have N11 := Fr.app N9 N11q
  have ne_b1_b11 : b1 ≠ b11 := Nat.ne_of_lt (Nat.lt_of_lt_of_le V9.lt szz11)
  have zs12 : n0 ≤ T11.heap.size := Nat.le_trans zs10 K11.1
  obtain ⟨cl13, Ar13, qq13, S13, N13_, H13, G13⟩ := id V_b11
  obtain ⟨_, T14, Lc14, X14, hQ14, st14⟩ := own_callS X11 hx hZ (y := (⟨"com/example/varel/varel/text/EditDistanceStartPinLaw", "at", "([II)Z"⟩ : MethodName)) hown (hw _ (List.mem_of_getElem? (i := 5) rfl)) (hw _ (List.mem_of_getElem? (i := 6) rfl)) (hw _ (List.mem_of_getElem? (i := 7) rfl)) (hw _ (List.mem_of_getElem? (i := 8) rfl)) (by decide) (W := 0) (argsL := [(.ref b11), (.int (0 : Int32))]) (rest := []) (rm2 l Z a0 hw [] b11 (0 : Int32) (0 : Int32) kk11 [(.int (0 : Int32)), (.int (1 : Int32)), (.int (2 : Int32)), (.int (3 : Int32)), (.int (4 : Int32))] (5 : Int32) T11.heap n0 zs12 V_b11 (by decide) (fun _ => rfl)) (by decide) (by decide) (c' := 2) (s' := 9) rfl rfl (by decide) (by decide) rfl (g := (mkF m 128 #[.val (.int p1), .val (.int p2), .val (.int p3), .val (.int p4), .val (.int (4 : Int32)), .val (.ref b1), .val (.ref b11), .unset, .unset] [(.int (0 : Int32)), (.ref b11)])) rfl (by rw [hml]; rfl) (lenOf pd_0_1 rfl) rfl (by show 2 * 0 + _ ≤ _; exact Nat.le_of_eq rfl) (hb hby at_128)
  obtain ⟨hv14, N14q, e14⟩ := hQ14
  have N14 := Fr.app N11 N14q
  rw [f2, if_pos (by decide : (0 : Int32) < (5 : Int32)), if_pos (by decide : (0 : Int32) = (0 : Int32))] at hv14
  subst hv14
  obtain ⟨_, T15, Lc15, X15, hQ15, st15⟩ := own_callS X14 hx hZ (y := (⟨"com/example/varel/varel/text/EditDistanceStartPinLaw", "at", "([II)Z"⟩ : MethodName)) hown (hw _ (List.mem_of_getElem? (i := 5) rfl)) (hw _ (List.mem_of_getElem? (i := 6) rfl)) (hw _ (List.mem_of_getElem? (i := 7) rfl)) (hw _ (List.mem_of_getElem? (i := 8) rfl)) (by decide) (W := 0) (argsL := [(.ref b11), (.int (1 : Int32))]) (rest := []) (rm2 l Z a0 hw [] b11 (1 : Int32) (1 : Int32) kk11 [(.int (0 : Int32)), (.int (1 : Int32)), (.int (2 : Int32)), (.int (3 : Int32)), (.int (4 : Int32))] (5 : Int32) T11.heap n0 zs12 V_b11 (by decide) (fun _ => rfl)) (by decide) (by decide) (c' := 2) (s' := 9) rfl rfl (by decide) (by decide) e14 (g := (mkF m 137 #[.val (.int p1), .val (.int p2), .val (.int p3), .val (.int p4), .val (.int (4 : Int32)), .val (.ref b1), .val (.ref b11), .unset, .unset] [(.int (1 : Int32)), (.ref b11)])) rfl (by rw [hml]; rfl) (lenOf pd_0_1 rfl) rfl (by show 2 * 0 + _ ≤ _; exact Nat.le_of_eq rfl) (hb hby at_137)
  obtain ⟨hv15, N15q, e15⟩ := hQ15
  have N15 := Fr.app N14 N15q
  rw [f2, if_pos (by decide : (1 : Int32) < (5 : Int32)), if_pos (by decide : (1 : Int32) = (1 : Int32))] at hv15
  subst hv15
  obtain ⟨_, T16, Lc16, X16, hQ16, st16⟩ := own_callS X15 hx hZ (y := (⟨"com/example/varel/varel/text/EditDistanceStartPinLaw", "at", "([II)Z"⟩ : MethodName)) hown (hw _ (List.mem_of_getElem? (i := 5) rfl)) (hw _ (List.mem_of_getElem? (i := 6) rfl)) (hw _ (List.mem_of_getElem? (i := 7) rfl)) (hw _ (List.mem_of_getElem? (i := 8) rfl)) (by decide) (W := 0) (argsL := [(.ref b11), (.int (2 : Int32))]) (rest := []) (rm2 l Z a0 hw [] b11 (2 : Int32) (2 : Int32) kk11 [(.int (0 : Int32)), (.int (1 : Int32)), (.int (2 : Int32)), (.int (3 : Int32)), (.int (4 : Int32))] (5 : Int32) T11.heap n0 zs12 V_b11 (by decide) (fun _ => rfl)) (by decide) (by decide) (c' := 2) (s' := 9) rfl rfl (by decide) (by decide) e15 (g := (mkF m 146 #[.val (.int p1), .val (.int p2), .val (.int p3), .val (.int p4), .val (.int (4 : Int32)), .val (.ref b1), .val (.ref b11), .unset, .unset] [(.int (2 : Int32)), (.ref b11)])) rfl (by rw [hml]; rfl) (lenOf pd_0_1 rfl) rfl (by show 2 * 0 + _ ≤ _; exact Nat.le_of_eq rfl) (hb hby at_146)
  obtain ⟨hv16, N16q, e16⟩ := hQ16
  have N16 := Fr.app N15 N16q
  rw [f2, if_pos (by decide : (2 : Int32) < (5 : Int32)), if_pos (by decide : (2 : Int32) = (2 : Int32))] at hv16
  subst hv16
  obtain ⟨_, T17, Lc17, X17, hQ17, st17⟩ := own_callS X16 hx hZ (y := (⟨"com/example/varel/varel/text/EditDistanceStartPinLaw", "at", "([II)Z"⟩ : MethodName)) hown (hw _ (List.mem_of_getElem? (i := 5) rfl)) (hw _ (List.mem_of_getElem? (i := 6) rfl)) (hw _ (List.mem_of_getElem? (i := 7) rfl)) (hw _ (List.mem_of_getElem? (i := 8) rfl)) (by decide) (W := 0) (argsL := [(.ref b11), (.int (3 : Int32))]) (rest := []) (rm2 l Z a0 hw [] b11 (3 : Int32) (3 : Int32) kk11 [(.int (0 : Int32)), (.int (1 : Int32)), (.int (2 : Int32)), (.int (3 : Int32)), (.int (4 : Int32))] (5 : Int32) T11.heap n0 zs12 V_b11 (by decide) (fun _ => rfl)) (by decide) (by decide) (c' := 2) (s' := 9) rfl rfl (by decide) (by decide) e16 (g := (mkF m 155 #[.val (.int p1), .val (.int p2), .val (.int p3), .val (.int p4), .val (.int (4 : Int32)), .val (.ref b1), .val (.ref b11), .unset, .unset] [(.int (3 : Int32)), (.ref b11)])) rfl (by rw [hml]; rfl) (lenOf pd_0_1 rfl) rfl (by show 2 * 0 + _ ≤ _; exact Nat.le_of_eq rfl) (hb hby at_155)
  obtain ⟨hv17, N17q, e17⟩ := hQ17
  have N17 := Fr.app N16 N17q
  rw [f2, if_pos (by decide : (3 : Int32) < (5 : Int32)), if_pos (by decide : (3 : Int32) = (3 : Int32))] at hv17
  subst hv17
  obtain ⟨_, T18, Lc18, X18, hQ18, st18⟩ := own_callS X17 hx hZ (y := (⟨"com/example/varel/varel/text/EditDistanceStartPinLaw", "at", "([II)Z"⟩ : MethodName)) hown (hw _ (List.mem_of_getElem? (i := 5) rfl)) (hw _ (List.mem_of_getElem? (i := 6) rfl)) (hw _ (List.mem_of_getElem? (i := 7) rfl)) (hw _ (List.mem_of_getElem? (i := 8) rfl)) (by decide) (W := 0) (argsL := [(.ref b11), (.int (4 : Int32))]) (rest := []) (rm2 l Z a0 hw [] b11 (4 : Int32) (4 : Int32) kk11 [(.int (0 : Int32)), (.int (1 : Int32)), (.int (2 : Int32)), (.int (3 : Int32)), (.int (4 : Int32))] (5 : Int32) T11.heap n0 zs12 V_b11 (by decide) (fun _ => rfl)) (by decide) (by decide) (c' := 2) (s' := 9) rfl rfl (by decide) (by decide) e17 (g := (mkF m 164 #[.val (.int p1), .val (.int p2), .val (.int p3), .val (.int p4), .val (.int (4 : Int32)), .val (.ref b1), .val (.ref b11), .unset, .unset] [(.int (4 : Int32)), (.ref b11)])) rfl (by rw [hml]; rfl) (lenOf pd_0_1 rfl) rfl (by show 2 * 0 + _ ≤ _; exact Nat.le_of_eq rfl) (hb hby at_164)
  obtain ⟨hv18, N18q, e18⟩ := hQ18
  have N18 := Fr.app N17 N18q
  rw [f2, if_pos (by decide : (4 : Int32) < (5 : Int32)), if_pos (by decide : (4 : Int32) = (4 : Int32))] at hv18
  subst hv18
  obtain ⟨_, T19, Lc19, X19, hQ19, st19⟩ := own_callS X18 hx hZ (y := (⟨"com/example/varel/varel/text/EditDistanceStartPinLaw", "at", "([II)Z"⟩ : MethodName)) hown (hw _ (List.mem_of_getElem? (i := 5) rfl)) (hw _ (List.mem_of_getElem? (i := 6) rfl)) (hw _ (List.mem_of_getElem? (i := 7) rfl)) (hw _ (List.mem_of_getElem? (i := 8) rfl)) (by decide) (W := 0) (argsL := [(.ref b11), (.int (5 : Int32))]) (rest := []) (rm2 l Z a0 hw [] b11 (5 : Int32) (0 : Int32) kk11 [(.int (0 : Int32)), (.int (1 : Int32)), (.int (2 : Int32)), (.int (3 : Int32)), (.int (4 : Int32))] (5 : Int32) T11.heap n0 zs12 V_b11 (by decide) (fun h => absurd h (by decide))) (by decide) (by decide) (c' := 2) (s' := 9) rfl rfl (by decide) (by decide) e18 (g := (mkF m 173 #[.val (.int p1), .val (.int p2), .val (.int p3), .val (.int p4), .val (.int (4 : Int32)), .val (.ref b1), .val (.ref b11), .unset, .unset] [(.int (5 : Int32)), (.ref b11)])) rfl (by rw [hml]; rfl) (lenOf pd_0_1 rfl) rfl (by show 2 * 0 + _ ≤ _; exact Nat.le_of_eq rfl) (hb hby at_173)
  obtain ⟨hv19, N19q, e19⟩ := hQ19
  have N19 := Fr.app N18 N19q
  rw [f2, if_neg (by decide : ¬ ((5 : Int32) < (5 : Int32)))] at hv19
  subst hv19
  obtain ⟨_, T20, Lc20, X20, hQ20, st20⟩ := own_callS X19 hx hZ (y := (⟨"com/example/varel/varel/text/EditDistanceStartPinLaw", "at", "([II)Z"⟩ : MethodName)) hown (hw _ (List.mem_of_getElem? (i := 5) rfl)) (hw _ (List.mem_of_getElem? (i := 6) rfl)) (hw _ (List.mem_of_getElem? (i := 7) rfl)) (hw _ (List.mem_of_getElem? (i := 8) rfl)) (by decide) (W := 0) (argsL := [(.ref b11), (.int (6 : Int32))]) (rest := []) (rm2 l Z a0 hw [] b11 (6 : Int32) (0 : Int32) kk11 [(.int (0 : Int32)), (.int (1 : Int32)), (.int (2 : Int32)), (.int (3 : Int32)), (.int (4 : Int32))] (5 : Int32) T11.heap n0 zs12 V_b11 (by decide) (fun h => absurd h (by decide))) (by decide) (by decide) (c' := 2) (s' := 9) rfl rfl (by decide) (by decide) e19 (g := (mkF m 183 #[.val (.int p1), .val (.int p2), .val (.int p3), .val (.int p4), .val (.int (4 : Int32)), .val (.ref b1), .val (.ref b11), .unset, .unset] [(.int (6 : Int32)), (.ref b11)])) rfl (by rw [hml]; rfl) (lenOf pd_0_1 rfl) rfl (by show 2 * 0 + _ ≤ _; exact Nat.le_of_eq rfl) (hb hby at_183)
  obtain ⟨hv20, N20q, e20⟩ := hQ20
  have N20 := Fr.app N19 N20q
  rw [f2, if_neg (by decide : ¬ ((6 : Int32) < (5 : Int32)))] at hv20
  subst hv20
  obtain ⟨_, T21, Lc21, X21, hQ21, st21⟩ := own_callS X20 hx hZ (y := (⟨"com/example/varel/varel/text/EditDistanceStartPinLaw", "at", "([II)Z"⟩ : MethodName)) hown (hw _ (List.mem_of_getElem? (i := 5) rfl)) (hw _ (List.mem_of_getElem? (i := 6) rfl)) (hw _ (List.mem_of_getElem? (i := 7) rfl)) (hw _ (List.mem_of_getElem? (i := 8) rfl)) (by decide) (W := 0) (argsL := [(.ref b11), (.int (7 : Int32))]) (rest := []) (rm2 l Z a0 hw [] b11 (7 : Int32) (0 : Int32) kk11 [(.int (0 : Int32)), (.int (1 : Int32)), (.int (2 : Int32)), (.int (3 : Int32)), (.int (4 : Int32))] (5 : Int32) T11.heap n0 zs12 V_b11 (by decide) (fun h => absurd h (by decide))) (by decide) (by decide) (c' := 2) (s' := 9) rfl rfl (by decide) (by decide) e20 (g := (mkF m 193 #[.val (.int p1), .val (.int p2), .val (.int p3), .val (.int p4), .val (.int (4 : Int32)), .val (.ref b1), .val (.ref b11), .unset, .unset] [(.int (7 : Int32)), (.ref b11)])) rfl (by rw [hml]; rfl) (lenOf pd_0_1 rfl) rfl (by show 2 * 0 + _ ≤ _; exact Nat.le_of_eq rfl) (hb hby at_193)
  obtain ⟨hv21, N21q, e21⟩ := hQ21
  have N21 := Fr.app N20 N21q
  rw [f2, if_neg (by decide : ¬ ((7 : Int32) < (5 : Int32)))] at hv21
  subst hv21
  have fa22 : Arv Z T11.heap b1 k1 .int (4 : Int32) [(.int p2), (.int p3), (.int p4), (.int (p2 ^^^ p3))] (.int (0 : Int32)) := (V9.keep K11 nin0)
  obtain ⟨cl23, Ar23, qq23, S23, N23_, H23, G23⟩ := id fa22
  obtain ⟨_, T24, Lc24, X24, hQ24, st24⟩ := own_callS X21 hx hZ (y := (⟨"com/example/varel/varel/text/EditDistanceStartPinLaw", "kept", "([III)Z"⟩ : MethodName)) hown (hw _ (List.mem_of_getElem? (i := 9) rfl)) (hw _ (List.mem_of_getElem? (i := 10) rfl)) (hw _ (List.mem_of_getElem? (i := 7) rfl)) (hw _ (List.mem_of_getElem? (i := 11) rfl)) (by decide) (W := 0) (argsL := [(.ref b1), (.int (0 : Int32)), (.int p2)]) (rest := []) (rm3 l Z a0 hw [] b1 (0 : Int32) p2 p2 k1 [(.int p2), (.int p3), (.int p4), (.int (p2 ^^^ p3))] (4 : Int32) T11.heap n0 zs12 fa22 (by decide) (fun _ => rfl)) (by decide) (by decide) (c' := 2) (s' := 9) rfl rfl (by decide) (by decide) e21 (g := (mkF m 218 #[.val (.int p1), .val (.int p2), .val (.int p3), .val (.int p4), .val (.int (4 : Int32)), .val (.ref b1), .val (.ref b11), .val (.int (1 : Int32)), .unset] [(.int p2), (.int (0 : Int32)), (.ref b1)])) rfl (by rw [hml]; rfl) (lenOf pd_0_2 rfl) rfl (by show 2 * 0 + _ ≤ _; exact Nat.le_of_eq rfl) (hb hby at_218)
  obtain ⟨hv24, N24q, e24⟩ := hQ24
  have N24 := Fr.app N21 N24q
  rw [f3, if_pos (by decide : (0 : Int32) < (4 : Int32)), if_pos (rfl : p2 = p2)] at hv24
  subst hv24
  obtain ⟨_, T25, Lc25, X25, hQ25, st25⟩ := own_callS X24 hx hZ (y := (⟨"com/example/varel/varel/text/EditDistanceStartPinLaw", "kept", "([III)Z"⟩ : MethodName)) hown (hw _ (List.mem_of_getElem? (i := 9) rfl)) (hw _ (List.mem_of_getElem? (i := 10) rfl)) (hw _ (List.mem_of_getElem? (i := 7) rfl)) (hw _ (List.mem_of_getElem? (i := 11) rfl)) (by decide) (W := 0) (argsL := [(.ref b1), (.int (1 : Int32)), (.int p3)]) (rest := []) (rm3 l Z a0 hw [] b1 (1 : Int32) p3 p3 k1 [(.int p2), (.int p3), (.int p4), (.int (p2 ^^^ p3))] (4 : Int32) T11.heap n0 zs12 fa22 (by decide) (fun _ => rfl)) (by decide) (by decide) (c' := 2) (s' := 9) rfl rfl (by decide) (by decide) e24 (g := (mkF m 228 #[.val (.int p1), .val (.int p2), .val (.int p3), .val (.int p4), .val (.int (4 : Int32)), .val (.ref b1), .val (.ref b11), .val (.int (1 : Int32)), .unset] [(.int p3), (.int (1 : Int32)), (.ref b1)])) rfl (by rw [hml]; rfl) (lenOf pd_0_2 rfl) rfl (by show 2 * 0 + _ ≤ _; exact Nat.le_of_eq rfl) (hb hby at_228)
  obtain ⟨hv25, N25q, e25⟩ := hQ25
  have N25 := Fr.app N24 N25q
  rw [f3, if_pos (by decide : (1 : Int32) < (4 : Int32)), if_pos (rfl : p3 = p3)] at hv25
  subst hv25
  obtain ⟨_, T26, Lc26, X26, hQ26, st26⟩ := own_callS X25 hx hZ (y := (⟨"com/example/varel/varel/text/EditDistanceStartPinLaw", "kept", "([III)Z"⟩ : MethodName)) hown (hw _ (List.mem_of_getElem? (i := 9) rfl)) (hw _ (List.mem_of_getElem? (i := 10) rfl)) (hw _ (List.mem_of_getElem? (i := 7) rfl)) (hw _ (List.mem_of_getElem? (i := 11) rfl)) (by decide) (W := 0) (argsL := [(.ref b1), (.int (2 : Int32)), (.int p4)]) (rest := []) (rm3 l Z a0 hw [] b1 (2 : Int32) p4 p4 k1 [(.int p2), (.int p3), (.int p4), (.int (p2 ^^^ p3))] (4 : Int32) T11.heap n0 zs12 fa22 (by decide) (fun _ => rfl)) (by decide) (by decide) (c' := 2) (s' := 9) rfl rfl (by decide) (by decide) e25 (g := (mkF m 238 #[.val (.int p1), .val (.int p2), .val (.int p3), .val (.int p4), .val (.int (4 : Int32)), .val (.ref b1), .val (.ref b11), .val (.int (1 : Int32)), .unset] [(.int p4), (.int (2 : Int32)), (.ref b1)])) rfl (by rw [hml]; rfl) (lenOf pd_0_2 rfl) rfl (by show 2 * 0 + _ ≤ _; exact Nat.le_of_eq rfl) (hb hby at_238)
  obtain ⟨hv26, N26q, e26⟩ := hQ26
  have N26 := Fr.app N25 N26q
  rw [f3, if_pos (by decide : (2 : Int32) < (4 : Int32)), if_pos (rfl : p4 = p4)] at hv26
  subst hv26
  obtain ⟨_, T27, Lc27, X27, hQ27, st27⟩ := own_callS X26 hx hZ (y := (⟨"com/example/varel/varel/text/EditDistanceStartPinLaw", "kept", "([III)Z"⟩ : MethodName)) hown (hw _ (List.mem_of_getElem? (i := 9) rfl)) (hw _ (List.mem_of_getElem? (i := 10) rfl)) (hw _ (List.mem_of_getElem? (i := 7) rfl)) (hw _ (List.mem_of_getElem? (i := 11) rfl)) (by decide) (W := 0) (argsL := [(.ref b1), (.int (3 : Int32)), (.int (p2 ^^^ p3))]) (rest := []) (rm3 l Z a0 hw [] b1 (3 : Int32) (p2 ^^^ p3) (p2 ^^^ p3) k1 [(.int p2), (.int p3), (.int p4), (.int (p2 ^^^ p3))] (4 : Int32) T11.heap n0 zs12 fa22 (by decide) (fun _ => rfl)) (by decide) (by decide) (c' := 2) (s' := 9) rfl rfl (by decide) (by decide) e26 (g := (mkF m 250 #[.val (.int p1), .val (.int p2), .val (.int p3), .val (.int p4), .val (.int (4 : Int32)), .val (.ref b1), .val (.ref b11), .val (.int (1 : Int32)), .unset] [(.int (p2 ^^^ p3)), (.int (3 : Int32)), (.ref b1)])) rfl (by rw [hml]; rfl) (lenOf pd_0_2 rfl) rfl (by show 2 * 0 + _ ≤ _; exact Nat.le_of_eq rfl) (hb hby at_250)
  obtain ⟨hv27, N27q, e27⟩ := hQ27
  have N27 := Fr.app N26 N27q
  rw [f3, if_pos (by decide : (3 : Int32) < (4 : Int32)), if_pos (rfl : (p2 ^^^ p3) = (p2 ^^^ p3))] at hv27
  subst hv27
  obtain ⟨_, T28, Lc28, X28, hQ28, st28⟩ := own_callS X27 hx hZ (y := (⟨"com/example/varel/varel/text/EditDistanceStartPinLaw", "kept", "([III)Z"⟩ : MethodName)) hown (hw _ (List.mem_of_getElem? (i := 9) rfl)) (hw _ (List.mem_of_getElem? (i := 10) rfl)) (hw _ (List.mem_of_getElem? (i := 7) rfl)) (hw _ (List.mem_of_getElem? (i := 11) rfl)) (by decide) (W := 0) (argsL := [(.ref b1), (.int (4 : Int32)), (.int (p3 - p4))]) (rest := []) (rm3 l Z a0 hw [] b1 (4 : Int32) (p3 - p4) (0 : Int32) k1 [(.int p2), (.int p3), (.int p4), (.int (p2 ^^^ p3))] (4 : Int32) T11.heap n0 zs12 fa22 (by decide) (fun h => absurd h (by decide))) (by decide) (by decide) (c' := 2) (s' := 9) rfl rfl (by decide) (by decide) e27 (g := (mkF m 262 #[.val (.int p1), .val (.int p2), .val (.int p3), .val (.int p4), .val (.int (4 : Int32)), .val (.ref b1), .val (.ref b11), .val (.int (1 : Int32)), .unset] [(.int (p3 - p4)), (.int (4 : Int32)), (.ref b1)])) rfl (by rw [hml]; rfl) (lenOf pd_0_2 rfl) rfl (by show 2 * 0 + _ ≤ _; exact Nat.le_of_eq rfl) (hb hby at_262)
  obtain ⟨hv28, N28q, e28⟩ := hQ28
  have N28 := Fr.app N27 N28q
  rw [f3, if_neg (by decide : ¬ ((4 : Int32) < (4 : Int32)))] at hv28
  subst hv28
  obtain ⟨_, T29, Lc29, X29, hQ29, st29⟩ := own_callS X28 hx hZ (y := (⟨"com/example/varel/varel/text/EditDistanceStartPinLaw", "kept", "([III)Z"⟩ : MethodName)) hown (hw _ (List.mem_of_getElem? (i := 9) rfl)) (hw _ (List.mem_of_getElem? (i := 10) rfl)) (hw _ (List.mem_of_getElem? (i := 7) rfl)) (hw _ (List.mem_of_getElem? (i := 11) rfl)) (by decide) (W := 0) (argsL := [(.ref b1), (.int (5 : Int32)), (.int (p2 ^^^ (-1 : Int32)))]) (rest := []) (rm3 l Z a0 hw [] b1 (5 : Int32) (p2 ^^^ (-1 : Int32)) (0 : Int32) k1 [(.int p2), (.int p3), (.int p4), (.int (p2 ^^^ p3))] (4 : Int32) T11.heap n0 zs12 fa22 (by decide) (fun h => absurd h (by decide))) (by decide) (by decide) (c' := 2) (s' := 9) rfl rfl (by decide) (by decide) e28 (g := (mkF m 274 #[.val (.int p1), .val (.int p2), .val (.int p3), .val (.int p4), .val (.int (4 : Int32)), .val (.ref b1), .val (.ref b11), .val (.int (1 : Int32)), .unset] [(.int (p2 ^^^ (-1 : Int32))), (.int (5 : Int32)), (.ref b1)])) rfl (by rw [hml]; rfl) (lenOf pd_0_2 rfl) rfl (by show 2 * 0 + _ ≤ _; exact Nat.le_of_eq rfl) (hb hby at_274)
  obtain ⟨hv29, N29q, e29⟩ := hQ29
  have N29 := Fr.app N28 N29q
  rw [f3, if_neg (by decide : ¬ ((5 : Int32) < (4 : Int32)))] at hv29
  subst hv29
  obtain ⟨_, T30, Lc30, X30, hQ30, st30⟩ := own_callS X29 hx hZ (y := (⟨"com/example/varel/varel/text/EditDistanceStartPinLaw", "kept", "([III)Z"⟩ : MethodName)) hown (hw _ (List.mem_of_getElem? (i := 9) rfl)) (hw _ (List.mem_of_getElem? (i := 10) rfl)) (hw _ (List.mem_of_getElem? (i := 7) rfl)) (hw _ (List.mem_of_getElem? (i := 11) rfl)) (by decide) (W := 0) (argsL := [(.ref b1), (.int (6 : Int32)), (.int (p4 * (31 : Int32)))]) (rest := []) (rm3 l Z a0 hw [] b1 (6 : Int32) (p4 * (31 : Int32)) (0 : Int32) k1 [(.int p2), (.int p3), (.int p4), (.int (p2 ^^^ p3))] (4 : Int32) T11.heap n0 zs12 fa22 (by decide) (fun h => absurd h (by decide))) (by decide) (by decide) (c' := 2) (s' := 9) rfl rfl (by decide) (by decide) e29 (g := (mkF m 288 #[.val (.int p1), .val (.int p2), .val (.int p3), .val (.int p4), .val (.int (4 : Int32)), .val (.ref b1), .val (.ref b11), .val (.int (1 : Int32)), .unset] [(.int (p4 * (31 : Int32))), (.int (6 : Int32)), (.ref b1)])) rfl (by rw [hml]; rfl) (lenOf pd_0_2 rfl) rfl (by show 2 * 0 + _ ≤ _; exact Nat.le_of_eq rfl) (hb hby at_288)
  obtain ⟨hv30, N30q, e30⟩ := hQ30
  have N30 := Fr.app N29 N30q
  rw [f3, if_neg (by decide : ¬ ((6 : Int32) < (4 : Int32)))] at hv30
  subst hv30
  obtain ⟨fs, hr, hrun, hended, hW, hsame⟩ := X30.leave (v := some (.int (1 : Int32))) (fun h => by rw [Bd.returns] at h; cases h)
  refine ⟨_, _, pre0 _ ?_, hrun, hended, _, _, rfl, ?_, ⟨_, rfl⟩, hW, hsame.mono (by decide) (by decide)⟩
  · show Steps p.tables e below (s₁.setTop (mkF m 0 #[.val (.int p1), .val (.int p2), .val (.int p3), .val (.int p4), .unset, .unset, .unset, .unset, .unset] [])) _
    refine own_blk X0 hx bl0_0_3 (own_hb hby bd0_0_3) (pc' := 4) (Ls' := #[.val (.int p1), .val (.int p2), .val (.int p3), .val (.int p4), .unset, .unset, .unset, .unset, .unset]) (st' := [(.int (p1 &&& (7 : Int32)))]) rfl ?_
    show Steps p.tables e below (s₁.setTop (mkF m 4 #[.val (.int p1), .val (.int p2), .val (.int p3), .val (.int p4), .unset, .unset, .unset, .unset, .unset] [(.int (p1 &&& (7 : Int32)))])) _
    rw [hn]
    show Steps p.tables e below (s₁.setTop (mkF m 4 #[.val (.int p1), .val (.int p2), .val (.int p3), .val (.int p4), .unset, .unset, .unset, .unset, .unset] [(.int (4 : Int32))])) _
    refine own_blk X0 hx bl0_4_2 (own_hb hby bd0_4_2) (pc' := 8) (Ls' := #[.val (.int p1), .val (.int p2), .val (.int p3), .val (.int p4), .val (.int (4 : Int32)), .unset, .unset, .unset, .unset]) (st' := [(.int (4 : Int32))]) rfl ?_
    show Steps p.tables e below (s₁.setTop (mkF m 8 #[.val (.int p1), .val (.int p2), .val (.int p3), .val (.int p4), .val (.int (4 : Int32)), .unset, .unset, .unset, .unset] [(.int (4 : Int32))])) _
    refine st1 _ ?_
    show Steps p.tables e below (T1.setTop (mkF m 10 #[.val (.int p1), .val (.int p2), .val (.int p3), .val (.int p4), .val (.int (4 : Int32)), .unset, .unset, .unset, .unset] [(.ref b1)])) _
    refine own_blk X1 hx bl0_10_2 (own_hb hby bd0_10_2) (pc' := 14) (Ls' := #[.val (.int p1), .val (.int p2), .val (.int p3), .val (.int p4), .val (.int (4 : Int32)), .val (.ref b1), .unset, .unset, .unset]) (st' := [(.int (4 : Int32))]) rfl ?_
    show Steps p.tables e below (T1.setTop (mkF m 14 #[.val (.int p1), .val (.int p2), .val (.int p3), .val (.int p4), .val (.int (4 : Int32)), .val (.ref b1), .unset, .unset, .unset] [(.int (4 : Int32))])) _
    refine XS.ifNo X1.here hx rfl (hb hby at_14) rfl ((if0 _ _).trans (tlt (by decide : (0 : Int32) < (4 : Int32))).2.2.2) ?_
    show Steps p.tables e below (T1.setTop (mkF m 17 #[.val (.int p1), .val (.int p2), .val (.int p3), .val (.int p4), .val (.int (4 : Int32)), .val (.ref b1), .unset, .unset, .unset] [])) _
    refine own_blk X1 hx bl0_17_3 (own_hb hby bd0_17_3) (pc' := 21) (Ls' := #[.val (.int p1), .val (.int p2), .val (.int p3), .val (.int p4), .val (.int (4 : Int32)), .val (.ref b1), .unset, .unset, .unset]) (st' := [(.int p2), (.int (0 : Int32)), (.ref b1)]) rfl ?_
    show Steps p.tables e below (T1.setTop (mkF m 21 #[.val (.int p1), .val (.int p2), .val (.int p3), .val (.int p4), .val (.int (4 : Int32)), .val (.ref b1), .unset, .unset, .unset] [(.int p2), (.int (0 : Int32)), (.ref b1)])) _
    refine st3 _ ?_
    show Steps p.tables e below (T3.setTop (mkF m 22 #[.val (.int p1), .val (.int p2), .val (.int p3), .val (.int p4), .val (.int (4 : Int32)), .val (.ref b1), .unset, .unset, .unset] [])) _
    refine own_blk X3 hx bl0_22_2 (own_hb hby bd0_22_2) (pc' := 25) (Ls' := #[.val (.int p1), .val (.int p2), .val (.int p3), .val (.int p4), .val (.int (4 : Int32)), .val (.ref b1), .unset, .unset, .unset]) (st' := [(.int (1 : Int32)), (.int (4 : Int32))]) rfl ?_
    show Steps p.tables e below (T3.setTop (mkF m 25 #[.val (.int p1), .val (.int p2), .val (.int p3), .val (.int p4), .val (.int (4 : Int32)), .val (.ref b1), .unset, .unset, .unset] [(.int (1 : Int32)), (.int (4 : Int32))])) _
    refine XS.icmpNo X3.here hx rfl (hb hby at_25) rfl (tlt (by decide : (1 : Int32) < (4 : Int32))).2.2.2 ?_
    show Steps p.tables e below (T3.setTop (mkF m 28 #[.val (.int p1), .val (.int p2), .val (.int p3), .val (.int p4), .val (.int (4 : Int32)), .val (.ref b1), .unset, .unset, .unset] [])) _
    refine own_blk X3 hx bl0_28_3 (own_hb hby bd0_28_3) (pc' := 32) (Ls' := #[.val (.int p1), .val (.int p2), .val (.int p3), .val (.int p4), .val (.int (4 : Int32)), .val (.ref b1), .unset, .unset, .unset]) (st' := [(.int p3), (.int (1 : Int32)), (.ref b1)]) rfl ?_
    show Steps p.tables e below (T3.setTop (mkF m 32 #[.val (.int p1), .val (.int p2), .val (.int p3), .val (.int p4), .val (.int (4 : Int32)), .val (.ref b1), .unset, .unset, .unset] [(.int p3), (.int (1 : Int32)), (.ref b1)])) _
    refine st5 _ ?_
    show Steps p.tables e below (T5.setTop (mkF m 33 #[.val (.int p1), .val (.int p2), .val (.int p3), .val (.int p4), .val (.int (4 : Int32)), .val (.ref b1), .unset, .unset, .unset] [])) _
    refine own_blk X5 hx bl0_33_2 (own_hb hby bd0_33_2) (pc' := 36) (Ls' := #[.val (.int p1), .val (.int p2), .val (.int p3), .val (.int p4), .val (.int (4 : Int32)), .val (.ref b1), .unset, .unset, .unset]) (st' := [(.int (2 : Int32)), (.int (4 : Int32))]) rfl ?_
    show Steps p.tables e below (T5.setTop (mkF m 36 #[.val (.int p1), .val (.int p2), .val (.int p3), .val (.int p4), .val (.int (4 : Int32)), .val (.ref b1), .unset, .unset, .unset] [(.int (2 : Int32)), (.int (4 : Int32))])) _
    refine XS.icmpNo X5.here hx rfl (hb hby at_36) rfl (tlt (by decide : (2 : Int32) < (4 : Int32))).2.2.2 ?_
    show Steps p.tables e below (T5.setTop (mkF m 39 #[.val (.int p1), .val (.int p2), .val (.int p3), .val (.int p4), .val (.int (4 : Int32)), .val (.ref b1), .unset, .unset, .unset] [])) _
    refine own_blk X5 hx bl0_39_3 (own_hb hby bd0_39_3) (pc' := 43) (Ls' := #[.val (.int p1), .val (.int p2), .val (.int p3), .val (.int p4), .val (.int (4 : Int32)), .val (.ref b1), .unset, .unset, .unset]) (st' := [(.int p4), (.int (2 : Int32)), (.ref b1)]) rfl ?_
    show Steps p.tables e below (T5.setTop (mkF m 43 #[.val (.int p1), .val (.int p2), .val (.int p3), .val (.int p4), .val (.int (4 : Int32)), .val (.ref b1), .unset, .unset, .unset] [(.int p4), (.int (2 : Int32)), (.ref b1)])) _
    refine st7 _ ?_
    show Steps p.tables e below (T7.setTop (mkF m 44 #[.val (.int p1), .val (.int p2), .val (.int p3), .val (.int p4), .val (.int (4 : Int32)), .val (.ref b1), .unset, .unset, .unset] [])) _
    refine own_blk X7 hx bl0_44_2 (own_hb hby bd0_44_2) (pc' := 47) (Ls' := #[.val (.int p1), .val (.int p2), .val (.int p3), .val (.int p4), .val (.int (4 : Int32)), .val (.ref b1), .unset, .unset, .unset]) (st' := [(.int (3 : Int32)), (.int (4 : Int32))]) rfl ?_
    show Steps p.tables e below (T7.setTop (mkF m 47 #[.val (.int p1), .val (.int p2), .val (.int p3), .val (.int p4), .val (.int (4 : Int32)), .val (.ref b1), .unset, .unset, .unset] [(.int (3 : Int32)), (.int (4 : Int32))])) _
    refine XS.icmpNo X7.here hx rfl (hb hby at_47) rfl (tlt (by decide : (3 : Int32) < (4 : Int32))).2.2.2 ?_
    show Steps p.tables e below (T7.setTop (mkF m 50 #[.val (.int p1), .val (.int p2), .val (.int p3), .val (.int p4), .val (.int (4 : Int32)), .val (.ref b1), .unset, .unset, .unset] [])) _
    refine own_blk X7 hx bl0_50_5 (own_hb hby bd0_50_5) (pc' := 56) (Ls' := #[.val (.int p1), .val (.int p2), .val (.int p3), .val (.int p4), .val (.int (4 : Int32)), .val (.ref b1), .unset, .unset, .unset]) (st' := [(.int (p2 ^^^ p3)), (.int (3 : Int32)), (.ref b1)]) rfl ?_
    show Steps p.tables e below (T7.setTop (mkF m 56 #[.val (.int p1), .val (.int p2), .val (.int p3), .val (.int p4), .val (.int (4 : Int32)), .val (.ref b1), .unset, .unset, .unset] [(.int (p2 ^^^ p3)), (.int (3 : Int32)), (.ref b1)])) _
    refine st9 _ ?_
    show Steps p.tables e below (T9.setTop (mkF m 57 #[.val (.int p1), .val (.int p2), .val (.int p3), .val (.int p4), .val (.int (4 : Int32)), .val (.ref b1), .unset, .unset, .unset] [])) _
    refine own_blk X9 hx bl0_57_2 (own_hb hby bd0_57_2) (pc' := 60) (Ls' := #[.val (.int p1), .val (.int p2), .val (.int p3), .val (.int p4), .val (.int (4 : Int32)), .val (.ref b1), .unset, .unset, .unset]) (st' := [(.int (4 : Int32)), (.int (4 : Int32))]) rfl ?_
    show Steps p.tables e below (T9.setTop (mkF m 60 #[.val (.int p1), .val (.int p2), .val (.int p3), .val (.int p4), .val (.int (4 : Int32)), .val (.ref b1), .unset, .unset, .unset] [(.int (4 : Int32)), (.int (4 : Int32))])) _
    refine XS.icmpYes X9.here hx rfl (pc0 := 60) (pc' := 70) rfl (hb hby at_60) rfl (flt (by decide : ¬ ((4 : Int32) < (4 : Int32)))).2.2.2 (by decide) (by decide) ?_
    show Steps p.tables e below (T9.setTop (mkF m 70 #[.val (.int p1), .val (.int p2), .val (.int p3), .val (.int p4), .val (.int (4 : Int32)), .val (.ref b1), .unset, .unset, .unset] [])) _
    refine own_blk X9 hx bl0_70_2 (own_hb hby bd0_70_2) (pc' := 73) (Ls' := #[.val (.int p1), .val (.int p2), .val (.int p3), .val (.int p4), .val (.int (4 : Int32)), .val (.ref b1), .unset, .unset, .unset]) (st' := [(.int (5 : Int32)), (.int (4 : Int32))]) rfl ?_
    show Steps p.tables e below (T9.setTop (mkF m 73 #[.val (.int p1), .val (.int p2), .val (.int p3), .val (.int p4), .val (.int (4 : Int32)), .val (.ref b1), .unset, .unset, .unset] [(.int (5 : Int32)), (.int (4 : Int32))])) _
    refine XS.icmpYes X9.here hx rfl (pc0 := 73) (pc' := 83) rfl (hb hby at_73) rfl (flt (by decide : ¬ ((5 : Int32) < (4 : Int32)))).2.2.2 (by decide) (by decide) ?_
    show Steps p.tables e below (T9.setTop (mkF m 83 #[.val (.int p1), .val (.int p2), .val (.int p3), .val (.int p4), .val (.int (4 : Int32)), .val (.ref b1), .unset, .unset, .unset] [])) _
    refine own_blk X9 hx bl0_83_2 (own_hb hby bd0_83_2) (pc' := 87) (Ls' := #[.val (.int p1), .val (.int p2), .val (.int p3), .val (.int p4), .val (.int (4 : Int32)), .val (.ref b1), .unset, .unset, .unset]) (st' := [(.int (6 : Int32)), (.int (4 : Int32))]) rfl ?_
    show Steps p.tables e below (T9.setTop (mkF m 87 #[.val (.int p1), .val (.int p2), .val (.int p3), .val (.int p4), .val (.int (4 : Int32)), .val (.ref b1), .unset, .unset, .unset] [(.int (6 : Int32)), (.int (4 : Int32))])) _
    refine XS.icmpYes X9.here hx rfl (pc0 := 87) (pc' := 99) rfl (hb hby at_87) rfl (flt (by decide : ¬ ((6 : Int32) < (4 : Int32)))).2.2.2 (by decide) (by decide) ?_
    show Steps p.tables e below (T9.setTop (mkF m 99 #[.val (.int p1), .val (.int p2), .val (.int p3), .val (.int p4), .val (.int (4 : Int32)), .val (.ref b1), .unset, .unset, .unset] [])) _
    refine own_blk X9 hx bl0_99_1 (own_hb hby bd0_99_1) (pc' := 101) (Ls' := #[.val (.int p1), .val (.int p2), .val (.int p3), .val (.int p4), .val (.int (4 : Int32)), .val (.ref b1), .unset, .unset, .unset]) (st' := [(.ref b1)]) rfl ?_
    show Steps p.tables e below (T9.setTop (mkF m 101 #[.val (.int p1), .val (.int p2), .val (.int p3), .val (.int p4), .val (.int (4 : Int32)), .val (.ref b1), .unset, .unset, .unset] [(.ref b1)])) _
    refine st11 _ ?_
    show Steps p.tables e below (T11.setTop (mkF m 104 #[.val (.int p1), .val (.int p2), .val (.int p3), .val (.int p4), .val (.int (4 : Int32)), .val (.ref b1), .unset, .unset, .unset] [(.ref b11)])) _
    refine own_blk X11 hx bl0_104_2 (own_hb hby bd0_104_2) (pc' := 108) (Ls' := #[.val (.int p1), .val (.int p2), .val (.int p3), .val (.int p4), .val (.int (4 : Int32)), .val (.ref b1), .val (.ref b11), .unset, .unset]) (st' := [(.ref b11)]) rfl ?_
    show Steps p.tables e below (T11.setTop (mkF m 108 #[.val (.int p1), .val (.int p2), .val (.int p3), .val (.int p4), .val (.int (4 : Int32)), .val (.ref b1), .val (.ref b11), .unset, .unset] [(.ref b11)])) _
    refine XS.ifnonnullYes X11.here hx rfl (pc0 := 108) (pc' := 113) rfl (hb hby at_108) rfl (by decide) (by decide) ?_
    show Steps p.tables e below (T11.setTop (mkF m 113 #[.val (.int p1), .val (.int p2), .val (.int p3), .val (.int p4), .val (.int (4 : Int32)), .val (.ref b1), .val (.ref b11), .unset, .unset] [])) _
    refine own_blk X11 hx bl0_113_1 (own_hb hby bd0_113_1) (pc' := 115) (Ls' := #[.val (.int p1), .val (.int p2), .val (.int p3), .val (.int p4), .val (.int (4 : Int32)), .val (.ref b1), .val (.ref b11), .unset, .unset]) (st' := [(.ref b11)]) rfl ?_
    show Steps p.tables e below (T11.setTop (mkF m 115 #[.val (.int p1), .val (.int p2), .val (.int p3), .val (.int p4), .val (.int (4 : Int32)), .val (.ref b1), .val (.ref b11), .unset, .unset] [(.ref b11)])) _
    refine X11.arraylength hx Ar13.1 (State.isArrayOf_alike hZ.alike Ar13.2.1) (g := (mkF m 115 #[.val (.int p1), .val (.int p2), .val (.int p3), .val (.int p4), .val (.int (4 : Int32)), .val (.ref b1), .val (.ref b11), .unset, .unset] [(.ref b11)])) rfl rfl (hb hby at_115) _ ?_
    rw [len_of S13 N13_]
    show Steps p.tables e below (T11.setTop (mkF m 116 #[.val (.int p1), .val (.int p2), .val (.int p3), .val (.int p4), .val (.int (4 : Int32)), .val (.ref b1), .val (.ref b11), .unset, .unset] [(.int (5 : Int32))])) _
    refine own_blk X11 hx bl0_116_3 (own_hb hby bd0_116_3) (pc' := 120) (Ls' := #[.val (.int p1), .val (.int p2), .val (.int p3), .val (.int p4), .val (.int (4 : Int32)), .val (.ref b1), .val (.ref b11), .unset, .unset]) (st' := [(.int (5 : Int32)), (.int (5 : Int32))]) rfl ?_
    show Steps p.tables e below (T11.setTop (mkF m 120 #[.val (.int p1), .val (.int p2), .val (.int p3), .val (.int p4), .val (.int (4 : Int32)), .val (.ref b1), .val (.ref b11), .unset, .unset] [(.int (5 : Int32)), (.int (5 : Int32))])) _
    refine XS.icmpYes X11.here hx rfl (pc0 := 120) (pc' := 125) rfl (hb hby at_120) rfl (teq (by decide : (5 : Int32) = (5 : Int32))).1 (by decide) (by decide) ?_
    show Steps p.tables e below (T11.setTop (mkF m 125 #[.val (.int p1), .val (.int p2), .val (.int p3), .val (.int p4), .val (.int (4 : Int32)), .val (.ref b1), .val (.ref b11), .unset, .unset] [])) _
    refine own_blk X11 hx bl0_125_2 (own_hb hby bd0_125_2) (pc' := 128) (Ls' := #[.val (.int p1), .val (.int p2), .val (.int p3), .val (.int p4), .val (.int (4 : Int32)), .val (.ref b1), .val (.ref b11), .unset, .unset]) (st' := [(.int (0 : Int32)), (.ref b11)]) rfl ?_
    show Steps p.tables e below (T11.setTop (mkF m 128 #[.val (.int p1), .val (.int p2), .val (.int p3), .val (.int p4), .val (.int (4 : Int32)), .val (.ref b1), .val (.ref b11), .unset, .unset] [(.int (0 : Int32)), (.ref b11)])) _
    refine st14 _ ?_
    show Steps p.tables e below (T14.setTop (mkF m 131 #[.val (.int p1), .val (.int p2), .val (.int p3), .val (.int p4), .val (.int (4 : Int32)), .val (.ref b1), .val (.ref b11), .unset, .unset] [(.int (1 : Int32))])) _
    refine XS.ifNo X14.here hx rfl (hb hby at_131) rfl ((if0 _ _).trans (feq (by decide : ¬ ((1 : Int32) = (0 : Int32)))).1) ?_
    show Steps p.tables e below (T14.setTop (mkF m 134 #[.val (.int p1), .val (.int p2), .val (.int p3), .val (.int p4), .val (.int (4 : Int32)), .val (.ref b1), .val (.ref b11), .unset, .unset] [])) _
    refine own_blk X14 hx bl0_134_2 (own_hb hby bd0_134_2) (pc' := 137) (Ls' := #[.val (.int p1), .val (.int p2), .val (.int p3), .val (.int p4), .val (.int (4 : Int32)), .val (.ref b1), .val (.ref b11), .unset, .unset]) (st' := [(.int (1 : Int32)), (.ref b11)]) rfl ?_
    show Steps p.tables e below (T14.setTop (mkF m 137 #[.val (.int p1), .val (.int p2), .val (.int p3), .val (.int p4), .val (.int (4 : Int32)), .val (.ref b1), .val (.ref b11), .unset, .unset] [(.int (1 : Int32)), (.ref b11)])) _
    refine st15 _ ?_
    show Steps p.tables e below (T15.setTop (mkF m 140 #[.val (.int p1), .val (.int p2), .val (.int p3), .val (.int p4), .val (.int (4 : Int32)), .val (.ref b1), .val (.ref b11), .unset, .unset] [(.int (1 : Int32))])) _
    refine XS.ifNo X15.here hx rfl (hb hby at_140) rfl ((if0 _ _).trans (feq (by decide : ¬ ((1 : Int32) = (0 : Int32)))).1) ?_
    show Steps p.tables e below (T15.setTop (mkF m 143 #[.val (.int p1), .val (.int p2), .val (.int p3), .val (.int p4), .val (.int (4 : Int32)), .val (.ref b1), .val (.ref b11), .unset, .unset] [])) _
    refine own_blk X15 hx bl0_143_2 (own_hb hby bd0_143_2) (pc' := 146) (Ls' := #[.val (.int p1), .val (.int p2), .val (.int p3), .val (.int p4), .val (.int (4 : Int32)), .val (.ref b1), .val (.ref b11), .unset, .unset]) (st' := [(.int (2 : Int32)), (.ref b11)]) rfl ?_
    show Steps p.tables e below (T15.setTop (mkF m 146 #[.val (.int p1), .val (.int p2), .val (.int p3), .val (.int p4), .val (.int (4 : Int32)), .val (.ref b1), .val (.ref b11), .unset, .unset] [(.int (2 : Int32)), (.ref b11)])) _
    refine st16 _ ?_
    show Steps p.tables e below (T16.setTop (mkF m 149 #[.val (.int p1), .val (.int p2), .val (.int p3), .val (.int p4), .val (.int (4 : Int32)), .val (.ref b1), .val (.ref b11), .unset, .unset] [(.int (1 : Int32))])) _
    refine XS.ifNo X16.here hx rfl (hb hby at_149) rfl ((if0 _ _).trans (feq (by decide : ¬ ((1 : Int32) = (0 : Int32)))).1) ?_
    show Steps p.tables e below (T16.setTop (mkF m 152 #[.val (.int p1), .val (.int p2), .val (.int p3), .val (.int p4), .val (.int (4 : Int32)), .val (.ref b1), .val (.ref b11), .unset, .unset] [])) _
    refine own_blk X16 hx bl0_152_2 (own_hb hby bd0_152_2) (pc' := 155) (Ls' := #[.val (.int p1), .val (.int p2), .val (.int p3), .val (.int p4), .val (.int (4 : Int32)), .val (.ref b1), .val (.ref b11), .unset, .unset]) (st' := [(.int (3 : Int32)), (.ref b11)]) rfl ?_
    show Steps p.tables e below (T16.setTop (mkF m 155 #[.val (.int p1), .val (.int p2), .val (.int p3), .val (.int p4), .val (.int (4 : Int32)), .val (.ref b1), .val (.ref b11), .unset, .unset] [(.int (3 : Int32)), (.ref b11)])) _
    refine st17 _ ?_
    show Steps p.tables e below (T17.setTop (mkF m 158 #[.val (.int p1), .val (.int p2), .val (.int p3), .val (.int p4), .val (.int (4 : Int32)), .val (.ref b1), .val (.ref b11), .unset, .unset] [(.int (1 : Int32))])) _
    refine XS.ifNo X17.here hx rfl (hb hby at_158) rfl ((if0 _ _).trans (feq (by decide : ¬ ((1 : Int32) = (0 : Int32)))).1) ?_
    show Steps p.tables e below (T17.setTop (mkF m 161 #[.val (.int p1), .val (.int p2), .val (.int p3), .val (.int p4), .val (.int (4 : Int32)), .val (.ref b1), .val (.ref b11), .unset, .unset] [])) _
    refine own_blk X17 hx bl0_161_2 (own_hb hby bd0_161_2) (pc' := 164) (Ls' := #[.val (.int p1), .val (.int p2), .val (.int p3), .val (.int p4), .val (.int (4 : Int32)), .val (.ref b1), .val (.ref b11), .unset, .unset]) (st' := [(.int (4 : Int32)), (.ref b11)]) rfl ?_
    show Steps p.tables e below (T17.setTop (mkF m 164 #[.val (.int p1), .val (.int p2), .val (.int p3), .val (.int p4), .val (.int (4 : Int32)), .val (.ref b1), .val (.ref b11), .unset, .unset] [(.int (4 : Int32)), (.ref b11)])) _
    refine st18 _ ?_
    show Steps p.tables e below (T18.setTop (mkF m 167 #[.val (.int p1), .val (.int p2), .val (.int p3), .val (.int p4), .val (.int (4 : Int32)), .val (.ref b1), .val (.ref b11), .unset, .unset] [(.int (1 : Int32))])) _
    refine XS.ifNo X18.here hx rfl (hb hby at_167) rfl ((if0 _ _).trans (feq (by decide : ¬ ((1 : Int32) = (0 : Int32)))).1) ?_
    show Steps p.tables e below (T18.setTop (mkF m 170 #[.val (.int p1), .val (.int p2), .val (.int p3), .val (.int p4), .val (.int (4 : Int32)), .val (.ref b1), .val (.ref b11), .unset, .unset] [])) _
    refine own_blk X18 hx bl0_170_2 (own_hb hby bd0_170_2) (pc' := 173) (Ls' := #[.val (.int p1), .val (.int p2), .val (.int p3), .val (.int p4), .val (.int (4 : Int32)), .val (.ref b1), .val (.ref b11), .unset, .unset]) (st' := [(.int (5 : Int32)), (.ref b11)]) rfl ?_
    show Steps p.tables e below (T18.setTop (mkF m 173 #[.val (.int p1), .val (.int p2), .val (.int p3), .val (.int p4), .val (.int (4 : Int32)), .val (.ref b1), .val (.ref b11), .unset, .unset] [(.int (5 : Int32)), (.ref b11)])) _
    refine st19 _ ?_
    show Steps p.tables e below (T19.setTop (mkF m 176 #[.val (.int p1), .val (.int p2), .val (.int p3), .val (.int p4), .val (.int (4 : Int32)), .val (.ref b1), .val (.ref b11), .unset, .unset] [(.int (1 : Int32))])) _
    refine XS.ifNo X19.here hx rfl (hb hby at_176) rfl ((if0 _ _).trans (feq (by decide : ¬ ((1 : Int32) = (0 : Int32)))).1) ?_
    show Steps p.tables e below (T19.setTop (mkF m 179 #[.val (.int p1), .val (.int p2), .val (.int p3), .val (.int p4), .val (.int (4 : Int32)), .val (.ref b1), .val (.ref b11), .unset, .unset] [])) _
    refine own_blk X19 hx bl0_179_2 (own_hb hby bd0_179_2) (pc' := 183) (Ls' := #[.val (.int p1), .val (.int p2), .val (.int p3), .val (.int p4), .val (.int (4 : Int32)), .val (.ref b1), .val (.ref b11), .unset, .unset]) (st' := [(.int (6 : Int32)), (.ref b11)]) rfl ?_
    show Steps p.tables e below (T19.setTop (mkF m 183 #[.val (.int p1), .val (.int p2), .val (.int p3), .val (.int p4), .val (.int (4 : Int32)), .val (.ref b1), .val (.ref b11), .unset, .unset] [(.int (6 : Int32)), (.ref b11)])) _
    refine st20 _ ?_
    show Steps p.tables e below (T20.setTop (mkF m 186 #[.val (.int p1), .val (.int p2), .val (.int p3), .val (.int p4), .val (.int (4 : Int32)), .val (.ref b1), .val (.ref b11), .unset, .unset] [(.int (1 : Int32))])) _
    refine XS.ifNo X20.here hx rfl (hb hby at_186) rfl ((if0 _ _).trans (feq (by decide : ¬ ((1 : Int32) = (0 : Int32)))).1) ?_
    show Steps p.tables e below (T20.setTop (mkF m 189 #[.val (.int p1), .val (.int p2), .val (.int p3), .val (.int p4), .val (.int (4 : Int32)), .val (.ref b1), .val (.ref b11), .unset, .unset] [])) _
    refine own_blk X20 hx bl0_189_2 (own_hb hby bd0_189_2) (pc' := 193) (Ls' := #[.val (.int p1), .val (.int p2), .val (.int p3), .val (.int p4), .val (.int (4 : Int32)), .val (.ref b1), .val (.ref b11), .unset, .unset]) (st' := [(.int (7 : Int32)), (.ref b11)]) rfl ?_
    show Steps p.tables e below (T20.setTop (mkF m 193 #[.val (.int p1), .val (.int p2), .val (.int p3), .val (.int p4), .val (.int (4 : Int32)), .val (.ref b1), .val (.ref b11), .unset, .unset] [(.int (7 : Int32)), (.ref b11)])) _
    refine st21 _ ?_
    show Steps p.tables e below (T21.setTop (mkF m 196 #[.val (.int p1), .val (.int p2), .val (.int p3), .val (.int p4), .val (.int (4 : Int32)), .val (.ref b1), .val (.ref b11), .unset, .unset] [(.int (1 : Int32))])) _
    refine XS.ifNo X21.here hx rfl (hb hby at_196) rfl ((if0 _ _).trans (feq (by decide : ¬ ((1 : Int32) = (0 : Int32)))).1) ?_
    show Steps p.tables e below (T21.setTop (mkF m 199 #[.val (.int p1), .val (.int p2), .val (.int p3), .val (.int p4), .val (.int (4 : Int32)), .val (.ref b1), .val (.ref b11), .unset, .unset] [])) _
    refine own_blk X21 hx bl0_199_4 (own_hb hby bd0_199_4) (pc' := 208) (Ls' := #[.val (.int p1), .val (.int p2), .val (.int p3), .val (.int p4), .val (.int (4 : Int32)), .val (.ref b1), .val (.ref b11), .val (.int (1 : Int32)), .unset]) (st' := [(.ref b1)]) rfl ?_
    show Steps p.tables e below (T21.setTop (mkF m 208 #[.val (.int p1), .val (.int p2), .val (.int p3), .val (.int p4), .val (.int (4 : Int32)), .val (.ref b1), .val (.ref b11), .val (.int (1 : Int32)), .unset] [(.ref b1)])) _
    refine X21.arraylength hx (by rw [e21]; exact Ar23.1) (State.isArrayOf_alike hZ.alike Ar23.2.1) (g := (mkF m 208 #[.val (.int p1), .val (.int p2), .val (.int p3), .val (.int p4), .val (.int (4 : Int32)), .val (.ref b1), .val (.ref b11), .val (.int (1 : Int32)), .unset] [(.ref b1)])) rfl rfl (hb hby at_208) _ ?_
    rw [len_of S23 N23_]
    show Steps p.tables e below (T21.setTop (mkF m 209 #[.val (.int p1), .val (.int p2), .val (.int p3), .val (.int p4), .val (.int (4 : Int32)), .val (.ref b1), .val (.ref b11), .val (.int (1 : Int32)), .unset] [(.int (4 : Int32))])) _
    refine own_blk X21 hx bl0_209_1 (own_hb hby bd0_209_1) (pc' := 211) (Ls' := #[.val (.int p1), .val (.int p2), .val (.int p3), .val (.int p4), .val (.int (4 : Int32)), .val (.ref b1), .val (.ref b11), .val (.int (1 : Int32)), .unset]) (st' := [(.int (4 : Int32)), (.int (4 : Int32))]) rfl ?_
    show Steps p.tables e below (T21.setTop (mkF m 211 #[.val (.int p1), .val (.int p2), .val (.int p3), .val (.int p4), .val (.int (4 : Int32)), .val (.ref b1), .val (.ref b11), .val (.int (1 : Int32)), .unset] [(.int (4 : Int32)), (.int (4 : Int32))])) _
    refine XS.icmpNo X21.here hx rfl (hb hby at_211) rfl (teq (by decide : (4 : Int32) = (4 : Int32))).2 ?_
    show Steps p.tables e below (T21.setTop (mkF m 214 #[.val (.int p1), .val (.int p2), .val (.int p3), .val (.int p4), .val (.int (4 : Int32)), .val (.ref b1), .val (.ref b11), .val (.int (1 : Int32)), .unset] [])) _
    refine own_blk X21 hx bl0_214_3 (own_hb hby bd0_214_3) (pc' := 218) (Ls' := #[.val (.int p1), .val (.int p2), .val (.int p3), .val (.int p4), .val (.int (4 : Int32)), .val (.ref b1), .val (.ref b11), .val (.int (1 : Int32)), .unset]) (st' := [(.int p2), (.int (0 : Int32)), (.ref b1)]) rfl ?_
    show Steps p.tables e below (T21.setTop (mkF m 218 #[.val (.int p1), .val (.int p2), .val (.int p3), .val (.int p4), .val (.int (4 : Int32)), .val (.ref b1), .val (.ref b11), .val (.int (1 : Int32)), .unset] [(.int p2), (.int (0 : Int32)), (.ref b1)])) _
    refine st24 _ ?_
    show Steps p.tables e below (T24.setTop (mkF m 221 #[.val (.int p1), .val (.int p2), .val (.int p3), .val (.int p4), .val (.int (4 : Int32)), .val (.ref b1), .val (.ref b11), .val (.int (1 : Int32)), .unset] [(.int (1 : Int32))])) _
    refine XS.ifNo X24.here hx rfl (hb hby at_221) rfl ((if0 _ _).trans (feq (by decide : ¬ ((1 : Int32) = (0 : Int32)))).1) ?_
    show Steps p.tables e below (T24.setTop (mkF m 224 #[.val (.int p1), .val (.int p2), .val (.int p3), .val (.int p4), .val (.int (4 : Int32)), .val (.ref b1), .val (.ref b11), .val (.int (1 : Int32)), .unset] [])) _
    refine own_blk X24 hx bl0_224_3 (own_hb hby bd0_224_3) (pc' := 228) (Ls' := #[.val (.int p1), .val (.int p2), .val (.int p3), .val (.int p4), .val (.int (4 : Int32)), .val (.ref b1), .val (.ref b11), .val (.int (1 : Int32)), .unset]) (st' := [(.int p3), (.int (1 : Int32)), (.ref b1)]) rfl ?_
    show Steps p.tables e below (T24.setTop (mkF m 228 #[.val (.int p1), .val (.int p2), .val (.int p3), .val (.int p4), .val (.int (4 : Int32)), .val (.ref b1), .val (.ref b11), .val (.int (1 : Int32)), .unset] [(.int p3), (.int (1 : Int32)), (.ref b1)])) _
    refine st25 _ ?_
    show Steps p.tables e below (T25.setTop (mkF m 231 #[.val (.int p1), .val (.int p2), .val (.int p3), .val (.int p4), .val (.int (4 : Int32)), .val (.ref b1), .val (.ref b11), .val (.int (1 : Int32)), .unset] [(.int (1 : Int32))])) _
    refine XS.ifNo X25.here hx rfl (hb hby at_231) rfl ((if0 _ _).trans (feq (by decide : ¬ ((1 : Int32) = (0 : Int32)))).1) ?_
    show Steps p.tables e below (T25.setTop (mkF m 234 #[.val (.int p1), .val (.int p2), .val (.int p3), .val (.int p4), .val (.int (4 : Int32)), .val (.ref b1), .val (.ref b11), .val (.int (1 : Int32)), .unset] [])) _
    refine own_blk X25 hx bl0_234_3 (own_hb hby bd0_234_3) (pc' := 238) (Ls' := #[.val (.int p1), .val (.int p2), .val (.int p3), .val (.int p4), .val (.int (4 : Int32)), .val (.ref b1), .val (.ref b11), .val (.int (1 : Int32)), .unset]) (st' := [(.int p4), (.int (2 : Int32)), (.ref b1)]) rfl ?_
    show Steps p.tables e below (T25.setTop (mkF m 238 #[.val (.int p1), .val (.int p2), .val (.int p3), .val (.int p4), .val (.int (4 : Int32)), .val (.ref b1), .val (.ref b11), .val (.int (1 : Int32)), .unset] [(.int p4), (.int (2 : Int32)), (.ref b1)])) _
    refine st26 _ ?_
    show Steps p.tables e below (T26.setTop (mkF m 241 #[.val (.int p1), .val (.int p2), .val (.int p3), .val (.int p4), .val (.int (4 : Int32)), .val (.ref b1), .val (.ref b11), .val (.int (1 : Int32)), .unset] [(.int (1 : Int32))])) _
    refine XS.ifNo X26.here hx rfl (hb hby at_241) rfl ((if0 _ _).trans (feq (by decide : ¬ ((1 : Int32) = (0 : Int32)))).1) ?_
    show Steps p.tables e below (T26.setTop (mkF m 244 #[.val (.int p1), .val (.int p2), .val (.int p3), .val (.int p4), .val (.int (4 : Int32)), .val (.ref b1), .val (.ref b11), .val (.int (1 : Int32)), .unset] [])) _
    refine own_blk X26 hx bl0_244_5 (own_hb hby bd0_244_5) (pc' := 250) (Ls' := #[.val (.int p1), .val (.int p2), .val (.int p3), .val (.int p4), .val (.int (4 : Int32)), .val (.ref b1), .val (.ref b11), .val (.int (1 : Int32)), .unset]) (st' := [(.int (p2 ^^^ p3)), (.int (3 : Int32)), (.ref b1)]) rfl ?_
    show Steps p.tables e below (T26.setTop (mkF m 250 #[.val (.int p1), .val (.int p2), .val (.int p3), .val (.int p4), .val (.int (4 : Int32)), .val (.ref b1), .val (.ref b11), .val (.int (1 : Int32)), .unset] [(.int (p2 ^^^ p3)), (.int (3 : Int32)), (.ref b1)])) _
    refine st27 _ ?_
    show Steps p.tables e below (T27.setTop (mkF m 253 #[.val (.int p1), .val (.int p2), .val (.int p3), .val (.int p4), .val (.int (4 : Int32)), .val (.ref b1), .val (.ref b11), .val (.int (1 : Int32)), .unset] [(.int (1 : Int32))])) _
    refine XS.ifNo X27.here hx rfl (hb hby at_253) rfl ((if0 _ _).trans (feq (by decide : ¬ ((1 : Int32) = (0 : Int32)))).1) ?_
    show Steps p.tables e below (T27.setTop (mkF m 256 #[.val (.int p1), .val (.int p2), .val (.int p3), .val (.int p4), .val (.int (4 : Int32)), .val (.ref b1), .val (.ref b11), .val (.int (1 : Int32)), .unset] [])) _
    refine own_blk X27 hx bl0_256_5 (own_hb hby bd0_256_5) (pc' := 262) (Ls' := #[.val (.int p1), .val (.int p2), .val (.int p3), .val (.int p4), .val (.int (4 : Int32)), .val (.ref b1), .val (.ref b11), .val (.int (1 : Int32)), .unset]) (st' := [(.int (p3 - p4)), (.int (4 : Int32)), (.ref b1)]) rfl ?_
    show Steps p.tables e below (T27.setTop (mkF m 262 #[.val (.int p1), .val (.int p2), .val (.int p3), .val (.int p4), .val (.int (4 : Int32)), .val (.ref b1), .val (.ref b11), .val (.int (1 : Int32)), .unset] [(.int (p3 - p4)), (.int (4 : Int32)), (.ref b1)])) _
    refine st28 _ ?_
    show Steps p.tables e below (T28.setTop (mkF m 265 #[.val (.int p1), .val (.int p2), .val (.int p3), .val (.int p4), .val (.int (4 : Int32)), .val (.ref b1), .val (.ref b11), .val (.int (1 : Int32)), .unset] [(.int (1 : Int32))])) _
    refine XS.ifNo X28.here hx rfl (hb hby at_265) rfl ((if0 _ _).trans (feq (by decide : ¬ ((1 : Int32) = (0 : Int32)))).1) ?_
    show Steps p.tables e below (T28.setTop (mkF m 268 #[.val (.int p1), .val (.int p2), .val (.int p3), .val (.int p4), .val (.int (4 : Int32)), .val (.ref b1), .val (.ref b11), .val (.int (1 : Int32)), .unset] [])) _
    refine own_blk X28 hx bl0_268_5 (own_hb hby bd0_268_5) (pc' := 274) (Ls' := #[.val (.int p1), .val (.int p2), .val (.int p3), .val (.int p4), .val (.int (4 : Int32)), .val (.ref b1), .val (.ref b11), .val (.int (1 : Int32)), .unset]) (st' := [(.int (p2 ^^^ (-1 : Int32))), (.int (5 : Int32)), (.ref b1)]) rfl ?_
    show Steps p.tables e below (T28.setTop (mkF m 274 #[.val (.int p1), .val (.int p2), .val (.int p3), .val (.int p4), .val (.int (4 : Int32)), .val (.ref b1), .val (.ref b11), .val (.int (1 : Int32)), .unset] [(.int (p2 ^^^ (-1 : Int32))), (.int (5 : Int32)), (.ref b1)])) _
    refine st29 _ ?_
    show Steps p.tables e below (T29.setTop (mkF m 277 #[.val (.int p1), .val (.int p2), .val (.int p3), .val (.int p4), .val (.int (4 : Int32)), .val (.ref b1), .val (.ref b11), .val (.int (1 : Int32)), .unset] [(.int (1 : Int32))])) _
    refine XS.ifNo X29.here hx rfl (hb hby at_277) rfl ((if0 _ _).trans (feq (by decide : ¬ ((1 : Int32) = (0 : Int32)))).1) ?_
    show Steps p.tables e below (T29.setTop (mkF m 280 #[.val (.int p1), .val (.int p2), .val (.int p3), .val (.int p4), .val (.int (4 : Int32)), .val (.ref b1), .val (.ref b11), .val (.int (1 : Int32)), .unset] [])) _
    refine own_blk X29 hx bl0_280_5 (own_hb hby bd0_280_5) (pc' := 288) (Ls' := #[.val (.int p1), .val (.int p2), .val (.int p3), .val (.int p4), .val (.int (4 : Int32)), .val (.ref b1), .val (.ref b11), .val (.int (1 : Int32)), .unset]) (st' := [(.int (p4 * (31 : Int32))), (.int (6 : Int32)), (.ref b1)]) rfl ?_
    show Steps p.tables e below (T29.setTop (mkF m 288 #[.val (.int p1), .val (.int p2), .val (.int p3), .val (.int p4), .val (.int (4 : Int32)), .val (.ref b1), .val (.ref b11), .val (.int (1 : Int32)), .unset] [(.int (p4 * (31 : Int32))), (.int (6 : Int32)), (.ref b1)])) _
    refine st30 _ ?_
    show Steps p.tables e below (T30.setTop (mkF m 291 #[.val (.int p1), .val (.int p2), .val (.int p3), .val (.int p4), .val (.int (4 : Int32)), .val (.ref b1), .val (.ref b11), .val (.int (1 : Int32)), .unset] [(.int (1 : Int32))])) _
    refine XS.ifNo X30.here hx rfl (hb hby at_291) rfl ((if0 _ _).trans (feq (by decide : ¬ ((1 : Int32) = (0 : Int32)))).1) ?_
    show Steps p.tables e below (T30.setTop (mkF m 294 #[.val (.int p1), .val (.int p2), .val (.int p3), .val (.int p4), .val (.int (4 : Int32)), .val (.ref b1), .val (.ref b11), .val (.int (1 : Int32)), .unset] [])) _
    refine own_blk X30 hx bl0_294_4 (own_hb hby bd0_294_4) (pc' := 303) (Ls' := #[.val (.int p1), .val (.int p2), .val (.int p3), .val (.int p4), .val (.int (4 : Int32)), .val (.ref b1), .val (.ref b11), .val (.int (1 : Int32)), .val (.int (1 : Int32))]) (st' := [(.int (1 : Int32))]) rfl ?_
    show Steps p.tables e below (T30.setTop (mkF m 303 #[.val (.int p1), .val (.int p2), .val (.int p3), .val (.int p4), .val (.int (4 : Int32)), .val (.ref b1), .val (.ref b11), .val (.int (1 : Int32)), .val (.int (1 : Int32))] [(.int (1 : Int32))])) _
    refine XS.ifNo X30.here hx rfl (hb hby at_303) rfl ((if0 _ _).trans (feq (by decide : ¬ ((1 : Int32) = (0 : Int32)))).1) ?_
    show Steps p.tables e below (T30.setTop (mkF m 306 #[.val (.int p1), .val (.int p2), .val (.int p3), .val (.int p4), .val (.int (4 : Int32)), .val (.ref b1), .val (.ref b11), .val (.int (1 : Int32)), .val (.int (1 : Int32))] [])) _
    refine own_blk X30 hx bl0_306_1 (own_hb hby bd0_306_1) (pc' := 308) (Ls' := #[.val (.int p1), .val (.int p2), .val (.int p3), .val (.int p4), .val (.int (4 : Int32)), .val (.ref b1), .val (.ref b11), .val (.int (1 : Int32)), .val (.int (1 : Int32))]) (st' := [(.int (1 : Int32))]) rfl ?_
    show Steps p.tables e below (T30.setTop (mkF m 308 #[.val (.int p1), .val (.int p2), .val (.int p3), .val (.int p4), .val (.int (4 : Int32)), .val (.ref b1), .val (.ref b11), .val (.int (1 : Int32)), .val (.int (1 : Int32))] [(.int (1 : Int32))])) _
    refine XS.ifNo X30.here hx rfl (hb hby at_308) rfl ((if0 _ _).trans (feq (by decide : ¬ ((1 : Int32) = (0 : Int32)))).1) ?_
    show Steps p.tables e below (T30.setTop (mkF m 311 #[.val (.int p1), .val (.int p2), .val (.int p3), .val (.int p4), .val (.int (4 : Int32)), .val (.ref b1), .val (.ref b11), .val (.int (1 : Int32)), .val (.int (1 : Int32))] [])) _
    refine own_blk X30 hx bl0_311_2 (own_hb hby bd0_311_2) (pc' := 316) (Ls' := #[.val (.int p1), .val (.int p2), .val (.int p3), .val (.int p4), .val (.int (4 : Int32)), .val (.ref b1), .val (.ref b11), .val (.int (1 : Int32)), .val (.int (1 : Int32))]) (st' := [(.int (1 : Int32))]) rfl ?_
    show Steps p.tables e below (T30.setTop (mkF m 316 #[.val (.int p1), .val (.int p2), .val (.int p3), .val (.int p4), .val (.int (4 : Int32)), .val (.ref b1), .val (.ref b11), .val (.int (1 : Int32)), .val (.int (1 : Int32))] [(.int (1 : Int32))])) _
    exact retN X30 hx (t := .boolean) Bd.returns (by simp) (hb hby at_316) hr
  · show Q0_4 Z p1 p2 p3 p4 h0 n0 _ T30.heap _
    rw [e30]
    exact ⟨by rw [f0_4], N30⟩

def Q1_5 (Z : State) (a1 : Addr) (k_a1 : ClassId) (vs1 : List Value) (h0 : Heap) (n0 : Nat) (v : Option Value) (h : Heap) (L : List Loc) : Prop := ∃ (b : Addr) (k : ClassId), v = some (.ref b) ∧ Fr n0 L ∧ Keep h0 h [] ∧ n0 ≤ b ∧ h0.size ≤ b ∧ Arv Z h b k .int (6 : Int32) [(.int (0 : Int32)), (.int (1 : Int32)), (.int (2 : Int32)), (.int (3 : Int32)), (.int (4 : Int32)), (.int (5 : Int32))] (.int (0 : Int32))
set_option maxRecDepth 65536 in
set_option maxHeartbeats 40000000 in
theorem rm1_5 (l : Launch) (Z : State) (a0 : Array Value) (hw : ∀ d ∈ tables_1, d.before a0 Z = true) (ws : List Jvm.Cond) (a1 : Addr) (k_a1 : ClassId) (vs1 : List Value) (h0 : Heap) (n0 : Nat) (Z0 : n0 ≤ h0.size) (V_a1 : Arv Z h0 a1 k_a1 .int (5 : Int32) vs1 (.int (0 : Int32))) :
    MetFree l (⟨"com/example/varel/varel/text/EditDistance", "start", "([I)[I"⟩ : MethodName) (head1 (Jvm.Cond.code (⟨"com/example/varel/varel/text/EditDistance", "start", "([I)[I"⟩ : MethodName) prog_54_method_4_code 3 (some (.array .int)) :: ws) ({ frames := 0, cells := 1, slots := 6, locals := 0 } : Room)) (fun a U => a = #[(.ref a1)] ∧ Z.Warmed39 U.vm ∧ U.heap = h0) (fun _ _ _ _ _ => True) (fun _ U o U' => ∃ v L, o = .returned v ∧ Q1_5 Z a1 k_a1 vs1 h0 n0 v U'.heap L ∧ FrameEnd U o U' L ({ frames := 0, cells := 1, slots := 6, locals := 0 } : Room).cells ({ frames := 0, cells := 1, slots := 6, locals := 0 } : Room).slots) := by
  refine MetFree.of_bodySF (plainFor_of_name pn_1) hisR ?_
  intro p e s m args below meth c s₁ Bd hml0 hP hK
  obtain ⟨rfl, hZ, hh⟩ := hP
  have hx := Bd.exec
  have hby := Bd.bytes
  have hml : c.maxLocals = 3 := hml0
  have hown : s.vm.findClass "com/example/varel/varel/text/EditDistance" = some m.cls := findClass_of_methodNamed Bd.named
  have hnm := (name_of_methodNamed Bd.named Bd.method).1
  have X0 : Stand p l e ({ frames := 0, cells := 1, slots := 6, locals := 0 } : Room) s m #[(.ref a1)] below meth c s₁ [] 0 0 := Stand.of_body Bd
  have e0 : s₁.heap = h0 := by rw [← hh, Bd.state]; rfl
  have N0 := Fr.nil n0
  have pre0 : ∀ t, Steps p.tables e below (s₁.setTop (mkF m 0 #[.val (.ref a1), .unset, .unset] [])) t → Steps p.tables e below (s₁.setTop (entryFrame m #[(.ref a1)] 3)) t := fun t k => castTop (ef_1 m a1) k
  obtain ⟨cl1, Ar1, qq1, S1, N1_, H1, G1⟩ := id V_a1
  obtain ⟨T2, h2, k2, X2, e2, E2, A2, st2⟩ := newP X0 hx hZ (hw _ (List.mem_of_getElem? (i := 0) rfl)) e0 (g := (mkF m 4 #[.val (.ref a1), .unset, .unset] [(.int (6 : Int32))])) rfl (hb hby d1_4) rfl (by decide) (cap := 6) (by decide) (by decide) (by decide) (by decide)
  obtain ⟨b2, g2⟩ : ∃ z, z = h0.size := ⟨_, rfl⟩
  rw [← g2] at A2 st2
  have ne_a1_b2 : a1 ≠ b2 := Nat.ne_of_lt (Nat.lt_of_lt_of_le V_a1.lt (Nat.le_of_eq g2.symm))
  have g_b2 : n0 ≤ b2 := Nat.le_trans Z0 (Nat.le_of_eq g2.symm)
  have sz_b2 : h0.size ≤ b2 := Nat.le_trans (Keep.refl h0 []).1 (Nat.le_of_eq g2.symm)
  have zs3 : n0 ≤ h2.size := Nat.le_trans Z0 E2.1
  have kp4 : Keep h0 h2 [] := (Keep.refl h0 []).ext E2
  have V_b2 : Arv Z h2 b2 k2 .int (6 : Int32) [(.int (0 : Int32)), (.int (0 : Int32)), (.int (0 : Int32)), (.int (0 : Int32)), (.int (0 : Int32)), (.int (0 : Int32))] (.int (0 : Int32)) := (Arv.new A2 (by decide)).pad (pad_rep [] (.int (0 : Int32)) 6)
  have fa5 : Arv Z h2 a1 k_a1 .int (5 : Int32) vs1 (.int (0 : Int32)) := (V_a1.ext E2)
  obtain ⟨cl6, Ar6, qq6, S6, N6_, H6, G6⟩ := id fa5
  obtain ⟨cl7, Ar7, qq7, S7, N7_, H7, G7⟩ := id V_b2
  have hin7 : ¬ ((0 : Int32) < 0 ∨ cl7.slots.size ≤ ((0 : Int32)).toNatClampNeg) := inb_of S7 ⟨by decide, by decide⟩
  obtain ⟨T7, h7, X7, e7, W7, st7⟩ := stI X2 hx hZ e2 Ar7 (j := (0 : Int32)) hin7 (g := (mkF m 18 #[.val (.ref a1), .val (.ref b2), .val (.int (0 : Int32))] [(.int (0 : Int32)), (.int (0 : Int32)), (.ref b2)])) rfl rfl (hb hby d1_18)
  have V7 : Arv Z h7 b2 k2 .int (6 : Int32) [(.int (0 : Int32)), (.int (0 : Int32)), (.int (0 : Int32)), (.int (0 : Int32)), (.int (0 : Int32)), (.int (0 : Int32))] (.int (0 : Int32)) := Arv.set Ar7 qq7 S7 N7_ H7 G7 rfl W7 0 rfl (Nat.le_of_ble_eq_true rfl)
  have zs8 : n0 ≤ h7.size := Nat.le_trans zs3 (Keep.of_wr W7).1
  have kp9 : Keep h0 h7 [] := kp4.wr W7 (Or.inr sz_b2)
  have N7 := Fr.snoc X7 N0 g_b2
  have fa10 : Arv Z h7 a1 k_a1 .int (5 : Int32) vs1 (.int (0 : Int32)) := (fa5.other W7 ne_a1_b2)
  obtain ⟨cl11, Ar11, qq11, S11, N11_, H11, G11⟩ := id fa10
  obtain ⟨cl12, Ar12, qq12, S12, N12_, H12, G12⟩ := id V7
  have hin12 : ¬ ((1 : Int32) < 0 ∨ cl12.slots.size ≤ ((1 : Int32)).toNatClampNeg) := inb_of S12 ⟨by decide, by decide⟩
  obtain ⟨T12, h12, X12, e12, W12, st12⟩ := stI X7 hx hZ e7 Ar12 (j := (1 : Int32)) hin12 (g := (mkF m 18 #[.val (.ref a1), .val (.ref b2), .val (.int (1 : Int32))] [(.int (1 : Int32)), (.int (1 : Int32)), (.ref b2)])) rfl rfl (hb hby d1_18)
  have V12 : Arv Z h12 b2 k2 .int (6 : Int32) [(.int (0 : Int32)), (.int (1 : Int32)), (.int (0 : Int32)), (.int (0 : Int32)), (.int (0 : Int32)), (.int (0 : Int32))] (.int (0 : Int32)) := Arv.set Ar12 qq12 S12 N12_ H12 G12 rfl W12 1 rfl (Nat.le_of_ble_eq_true rfl)
  have zs13 : n0 ≤ h12.size := Nat.le_trans zs8 (Keep.of_wr W12).1
  have kp14 : Keep h0 h12 [] := kp9.wr W12 (Or.inr sz_b2)
  have N12 := Fr.snoc X12 N7 g_b2
  have fa15 : Arv Z h12 a1 k_a1 .int (5 : Int32) vs1 (.int (0 : Int32)) := (fa10.other W12 ne_a1_b2)
  obtain ⟨cl16, Ar16, qq16, S16, N16_, H16, G16⟩ := id fa15
  obtain ⟨cl17, Ar17, qq17, S17, N17_, H17, G17⟩ := id V12
  have hin17 : ¬ ((2 : Int32) < 0 ∨ cl17.slots.size ≤ ((2 : Int32)).toNatClampNeg) := inb_of S17 ⟨by decide, by decide⟩
  obtain ⟨T17, h17, X17, e17, W17, st17⟩ := stI X12 hx hZ e12 Ar17 (j := (2 : Int32)) hin17 (g := (mkF m 18 #[.val (.ref a1), .val (.ref b2), .val (.int (2 : Int32))] [(.int (2 : Int32)), (.int (2 : Int32)), (.ref b2)])) rfl rfl (hb hby d1_18)
  have V17 : Arv Z h17 b2 k2 .int (6 : Int32) [(.int (0 : Int32)), (.int (1 : Int32)), (.int (2 : Int32)), (.int (0 : Int32)), (.int (0 : Int32)), (.int (0 : Int32))] (.int (0 : Int32)) := Arv.set Ar17 qq17 S17 N17_ H17 G17 rfl W17 2 rfl (Nat.le_of_ble_eq_true rfl)
  have zs18 : n0 ≤ h17.size := Nat.le_trans zs13 (Keep.of_wr W17).1
  have kp19 : Keep h0 h17 [] := kp14.wr W17 (Or.inr sz_b2)
  have N17 := Fr.snoc X17 N12 g_b2
  have fa20 : Arv Z h17 a1 k_a1 .int (5 : Int32) vs1 (.int (0 : Int32)) := (fa15.other W17 ne_a1_b2)
  obtain ⟨cl21, Ar21, qq21, S21, N21_, H21, G21⟩ := id fa20
  obtain ⟨cl22, Ar22, qq22, S22, N22_, H22, G22⟩ := id V17
  have hin22 : ¬ ((3 : Int32) < 0 ∨ cl22.slots.size ≤ ((3 : Int32)).toNatClampNeg) := inb_of S22 ⟨by decide, by decide⟩
  obtain ⟨T22, h22, X22, e22, W22, st22⟩ := stI X17 hx hZ e17 Ar22 (j := (3 : Int32)) hin22 (g := (mkF m 18 #[.val (.ref a1), .val (.ref b2), .val (.int (3 : Int32))] [(.int (3 : Int32)), (.int (3 : Int32)), (.ref b2)])) rfl rfl (hb hby d1_18)
  have V22 : Arv Z h22 b2 k2 .int (6 : Int32) [(.int (0 : Int32)), (.int (1 : Int32)), (.int (2 : Int32)), (.int (3 : Int32)), (.int (0 : Int32)), (.int (0 : Int32))] (.int (0 : Int32)) := Arv.set Ar22 qq22 S22 N22_ H22 G22 rfl W22 3 rfl (Nat.le_of_ble_eq_true rfl)
  have zs23 : n0 ≤ h22.size := Nat.le_trans zs18 (Keep.of_wr W22).1
  have kp24 : Keep h0 h22 [] := kp19.wr W22 (Or.inr sz_b2)
  have N22 := Fr.snoc X22 N17 g_b2
  have fa25 : Arv Z h22 a1 k_a1 .int (5 : Int32) vs1 (.int (0 : Int32)) := (fa20.other W22 ne_a1_b2)
  obtain ⟨cl26, Ar26, qq26, S26, N26_, H26, G26⟩ := id fa25
  obtain ⟨cl27, Ar27, qq27, S27, N27_, H27, G27⟩ := id V22
  have hin27 : ¬ ((4 : Int32) < 0 ∨ cl27.slots.size ≤ ((4 : Int32)).toNatClampNeg) := inb_of S27 ⟨by decide, by decide⟩
  obtain ⟨T27, h27, X27, e27, W27, st27⟩ := stI X22 hx hZ e22 Ar27 (j := (4 : Int32)) hin27 (g := (mkF m 18 #[.val (.ref a1), .val (.ref b2), .val (.int (4 : Int32))] [(.int (4 : Int32)), (.int (4 : Int32)), (.ref b2)])) rfl rfl (hb hby d1_18)
  have V27 : Arv Z h27 b2 k2 .int (6 : Int32) [(.int (0 : Int32)), (.int (1 : Int32)), (.int (2 : Int32)), (.int (3 : Int32)), (.int (4 : Int32)), (.int (0 : Int32))] (.int (0 : Int32)) := Arv.set Ar27 qq27 S27 N27_ H27 G27 rfl W27 4 rfl (Nat.le_of_ble_eq_true rfl)
  have zs28 : n0 ≤ h27.size := Nat.le_trans zs23 (Keep.of_wr W27).1
  have kp29 : Keep h0 h27 [] := kp24.wr W27 (Or.inr sz_b2)
  have N27 := Fr.snoc X27 N22 g_b2
  have fa30 : Arv Z h27 a1 k_a1 .int (5 : Int32) vs1 (.int (0 : Int32)) := (fa25.other W27 ne_a1_b2)
  obtain ⟨cl31, Ar31, qq31, S31, N31_, H31, G31⟩ := id fa30
  obtain ⟨cl32, Ar32, qq32, S32, N32_, H32, G32⟩ := id V27
  have hin32 : ¬ ((5 : Int32) < 0 ∨ cl32.slots.size ≤ ((5 : Int32)).toNatClampNeg) := inb_of S32 ⟨by decide, by decide⟩
  obtain ⟨T32, h32, X32, e32, W32, st32⟩ := stI X27 hx hZ e27 Ar32 (j := (5 : Int32)) hin32 (g := (mkF m 18 #[.val (.ref a1), .val (.ref b2), .val (.int (5 : Int32))] [(.int (5 : Int32)), (.int (5 : Int32)), (.ref b2)])) rfl rfl (hb hby d1_18)
  have V32 : Arv Z h32 b2 k2 .int (6 : Int32) [(.int (0 : Int32)), (.int (1 : Int32)), (.int (2 : Int32)), (.int (3 : Int32)), (.int (4 : Int32)), (.int (5 : Int32))] (.int (0 : Int32)) := Arv.set Ar32 qq32 S32 N32_ H32 G32 rfl W32 5 rfl (Nat.le_of_ble_eq_true rfl)
  have zs33 : n0 ≤ h32.size := Nat.le_trans zs28 (Keep.of_wr W32).1
  have kp34 : Keep h0 h32 [] := kp29.wr W32 (Or.inr sz_b2)
  have N32 := Fr.snoc X32 N27 g_b2
  have fa35 : Arv Z h32 a1 k_a1 .int (5 : Int32) vs1 (.int (0 : Int32)) := (fa30.other W32 ne_a1_b2)
  obtain ⟨cl36, Ar36, qq36, S36, N36_, H36, G36⟩ := id fa35
  obtain ⟨fs, hr, hrun, hended, hW, hsame⟩ := X32.leave (v := some (.ref b2)) (fun h => by rw [Bd.returns] at h; cases h)
  refine ⟨_, _, pre0 _ ?_, hrun, hended, _, _, rfl, ?_, ⟨_, rfl⟩, hW, hsame.mono (by decide) (by decide)⟩
  · show Steps p.tables e below (s₁.setTop (mkF m 0 #[.val (.ref a1), .unset, .unset] [])) _
    refine own_blk X0 hx bl1_0_1 (own_hb hby bd1_0_1) (pc' := 1) (Ls' := #[.val (.ref a1), .unset, .unset]) (st' := [(.ref a1)]) rfl ?_
    show Steps p.tables e below (s₁.setTop (mkF m 1 #[.val (.ref a1), .unset, .unset] [(.ref a1)])) _
    refine X0.arraylength hx (by rw [e0]; exact Ar1.1) (State.isArrayOf_alike hZ.alike Ar1.2.1) (g := (mkF m 1 #[.val (.ref a1), .unset, .unset] [(.ref a1)])) rfl rfl (hb hby d1_1) _ ?_
    rw [len_of S1 N1_]
    show Steps p.tables e below (s₁.setTop (mkF m 2 #[.val (.ref a1), .unset, .unset] [(.int (5 : Int32))])) _
    refine own_blk X0 hx bl1_2_2 (own_hb hby bd1_2_2) (pc' := 4) (Ls' := #[.val (.ref a1), .unset, .unset]) (st' := [(.int (6 : Int32))]) rfl ?_
    show Steps p.tables e below (s₁.setTop (mkF m 4 #[.val (.ref a1), .unset, .unset] [(.int (6 : Int32))])) _
    refine st2 _ ?_
    show Steps p.tables e below (T2.setTop (mkF m 6 #[.val (.ref a1), .unset, .unset] [(.ref b2)])) _
    refine own_blk X2 hx bl1_6_5 (own_hb hby bd1_6_5) (pc' := 11) (Ls' := #[.val (.ref a1), .val (.ref b2), .val (.int (0 : Int32))]) (st' := [(.ref a1), (.int (0 : Int32))]) rfl ?_
    show Steps p.tables e below (T2.setTop (mkF m 11 #[.val (.ref a1), .val (.ref b2), .val (.int (0 : Int32))] [(.ref a1), (.int (0 : Int32))])) _
    refine X2.arraylength hx (by rw [e2]; exact Ar6.1) (State.isArrayOf_alike hZ.alike Ar6.2.1) (g := (mkF m 11 #[.val (.ref a1), .val (.ref b2), .val (.int (0 : Int32))] [(.ref a1), (.int (0 : Int32))])) rfl rfl (hb hby d1_11) _ ?_
    rw [len_of S6 N6_]
    show Steps p.tables e below (T2.setTop (mkF m 12 #[.val (.ref a1), .val (.ref b2), .val (.int (0 : Int32))] [(.int (5 : Int32)), (.int (0 : Int32))])) _
    refine XS.icmpNo X2.here hx rfl (hb hby d1_12) rfl (flt (by decide : ¬ ((5 : Int32) < (0 : Int32)))).2.2.1 ?_
    show Steps p.tables e below (T2.setTop (mkF m 15 #[.val (.ref a1), .val (.ref b2), .val (.int (0 : Int32))] [])) _
    refine own_blk X2 hx bl1_15_3 (own_hb hby bd1_15_3) (pc' := 18) (Ls' := #[.val (.ref a1), .val (.ref b2), .val (.int (0 : Int32))]) (st' := [(.int (0 : Int32)), (.int (0 : Int32)), (.ref b2)]) rfl ?_
    show Steps p.tables e below (T2.setTop (mkF m 18 #[.val (.ref a1), .val (.ref b2), .val (.int (0 : Int32))] [(.int (0 : Int32)), (.int (0 : Int32)), (.ref b2)])) _
    refine st7 _ ?_
    show Steps p.tables e below (T7.setTop (mkF m 19 #[.val (.ref a1), .val (.ref b2), .val (.int (0 : Int32))] [])) _
    refine own_blk X7 hx bl1_19_4 (own_hb hby bd1_19_4) (pc' := 11) (Ls' := #[.val (.ref a1), .val (.ref b2), .val (.int (1 : Int32))]) (st' := [(.ref a1), (.int (1 : Int32))]) rfl ?_
    show Steps p.tables e below (T7.setTop (mkF m 11 #[.val (.ref a1), .val (.ref b2), .val (.int (1 : Int32))] [(.ref a1), (.int (1 : Int32))])) _
    refine X7.arraylength hx (by rw [e7]; exact Ar11.1) (State.isArrayOf_alike hZ.alike Ar11.2.1) (g := (mkF m 11 #[.val (.ref a1), .val (.ref b2), .val (.int (1 : Int32))] [(.ref a1), (.int (1 : Int32))])) rfl rfl (hb hby d1_11) _ ?_
    rw [len_of S11 N11_]
    show Steps p.tables e below (T7.setTop (mkF m 12 #[.val (.ref a1), .val (.ref b2), .val (.int (1 : Int32))] [(.int (5 : Int32)), (.int (1 : Int32))])) _
    refine XS.icmpNo X7.here hx rfl (hb hby d1_12) rfl (flt (by decide : ¬ ((5 : Int32) < (1 : Int32)))).2.2.1 ?_
    show Steps p.tables e below (T7.setTop (mkF m 15 #[.val (.ref a1), .val (.ref b2), .val (.int (1 : Int32))] [])) _
    refine own_blk X7 hx bl1_15_3 (own_hb hby bd1_15_3) (pc' := 18) (Ls' := #[.val (.ref a1), .val (.ref b2), .val (.int (1 : Int32))]) (st' := [(.int (1 : Int32)), (.int (1 : Int32)), (.ref b2)]) rfl ?_
    show Steps p.tables e below (T7.setTop (mkF m 18 #[.val (.ref a1), .val (.ref b2), .val (.int (1 : Int32))] [(.int (1 : Int32)), (.int (1 : Int32)), (.ref b2)])) _
    refine st12 _ ?_
    show Steps p.tables e below (T12.setTop (mkF m 19 #[.val (.ref a1), .val (.ref b2), .val (.int (1 : Int32))] [])) _
    refine own_blk X12 hx bl1_19_4 (own_hb hby bd1_19_4) (pc' := 11) (Ls' := #[.val (.ref a1), .val (.ref b2), .val (.int (2 : Int32))]) (st' := [(.ref a1), (.int (2 : Int32))]) rfl ?_
    show Steps p.tables e below (T12.setTop (mkF m 11 #[.val (.ref a1), .val (.ref b2), .val (.int (2 : Int32))] [(.ref a1), (.int (2 : Int32))])) _
    refine X12.arraylength hx (by rw [e12]; exact Ar16.1) (State.isArrayOf_alike hZ.alike Ar16.2.1) (g := (mkF m 11 #[.val (.ref a1), .val (.ref b2), .val (.int (2 : Int32))] [(.ref a1), (.int (2 : Int32))])) rfl rfl (hb hby d1_11) _ ?_
    rw [len_of S16 N16_]
    show Steps p.tables e below (T12.setTop (mkF m 12 #[.val (.ref a1), .val (.ref b2), .val (.int (2 : Int32))] [(.int (5 : Int32)), (.int (2 : Int32))])) _
    refine XS.icmpNo X12.here hx rfl (hb hby d1_12) rfl (flt (by decide : ¬ ((5 : Int32) < (2 : Int32)))).2.2.1 ?_
    show Steps p.tables e below (T12.setTop (mkF m 15 #[.val (.ref a1), .val (.ref b2), .val (.int (2 : Int32))] [])) _
    refine own_blk X12 hx bl1_15_3 (own_hb hby bd1_15_3) (pc' := 18) (Ls' := #[.val (.ref a1), .val (.ref b2), .val (.int (2 : Int32))]) (st' := [(.int (2 : Int32)), (.int (2 : Int32)), (.ref b2)]) rfl ?_
    show Steps p.tables e below (T12.setTop (mkF m 18 #[.val (.ref a1), .val (.ref b2), .val (.int (2 : Int32))] [(.int (2 : Int32)), (.int (2 : Int32)), (.ref b2)])) _
    refine st17 _ ?_
    show Steps p.tables e below (T17.setTop (mkF m 19 #[.val (.ref a1), .val (.ref b2), .val (.int (2 : Int32))] [])) _
    refine own_blk X17 hx bl1_19_4 (own_hb hby bd1_19_4) (pc' := 11) (Ls' := #[.val (.ref a1), .val (.ref b2), .val (.int (3 : Int32))]) (st' := [(.ref a1), (.int (3 : Int32))]) rfl ?_
    show Steps p.tables e below (T17.setTop (mkF m 11 #[.val (.ref a1), .val (.ref b2), .val (.int (3 : Int32))] [(.ref a1), (.int (3 : Int32))])) _
    refine X17.arraylength hx (by rw [e17]; exact Ar21.1) (State.isArrayOf_alike hZ.alike Ar21.2.1) (g := (mkF m 11 #[.val (.ref a1), .val (.ref b2), .val (.int (3 : Int32))] [(.ref a1), (.int (3 : Int32))])) rfl rfl (hb hby d1_11) _ ?_
    rw [len_of S21 N21_]
    show Steps p.tables e below (T17.setTop (mkF m 12 #[.val (.ref a1), .val (.ref b2), .val (.int (3 : Int32))] [(.int (5 : Int32)), (.int (3 : Int32))])) _
    refine XS.icmpNo X17.here hx rfl (hb hby d1_12) rfl (flt (by decide : ¬ ((5 : Int32) < (3 : Int32)))).2.2.1 ?_
    show Steps p.tables e below (T17.setTop (mkF m 15 #[.val (.ref a1), .val (.ref b2), .val (.int (3 : Int32))] [])) _
    refine own_blk X17 hx bl1_15_3 (own_hb hby bd1_15_3) (pc' := 18) (Ls' := #[.val (.ref a1), .val (.ref b2), .val (.int (3 : Int32))]) (st' := [(.int (3 : Int32)), (.int (3 : Int32)), (.ref b2)]) rfl ?_
    show Steps p.tables e below (T17.setTop (mkF m 18 #[.val (.ref a1), .val (.ref b2), .val (.int (3 : Int32))] [(.int (3 : Int32)), (.int (3 : Int32)), (.ref b2)])) _
    refine st22 _ ?_
    show Steps p.tables e below (T22.setTop (mkF m 19 #[.val (.ref a1), .val (.ref b2), .val (.int (3 : Int32))] [])) _
    refine own_blk X22 hx bl1_19_4 (own_hb hby bd1_19_4) (pc' := 11) (Ls' := #[.val (.ref a1), .val (.ref b2), .val (.int (4 : Int32))]) (st' := [(.ref a1), (.int (4 : Int32))]) rfl ?_
    show Steps p.tables e below (T22.setTop (mkF m 11 #[.val (.ref a1), .val (.ref b2), .val (.int (4 : Int32))] [(.ref a1), (.int (4 : Int32))])) _
    refine X22.arraylength hx (by rw [e22]; exact Ar26.1) (State.isArrayOf_alike hZ.alike Ar26.2.1) (g := (mkF m 11 #[.val (.ref a1), .val (.ref b2), .val (.int (4 : Int32))] [(.ref a1), (.int (4 : Int32))])) rfl rfl (hb hby d1_11) _ ?_
    rw [len_of S26 N26_]
    show Steps p.tables e below (T22.setTop (mkF m 12 #[.val (.ref a1), .val (.ref b2), .val (.int (4 : Int32))] [(.int (5 : Int32)), (.int (4 : Int32))])) _
    refine XS.icmpNo X22.here hx rfl (hb hby d1_12) rfl (flt (by decide : ¬ ((5 : Int32) < (4 : Int32)))).2.2.1 ?_
    show Steps p.tables e below (T22.setTop (mkF m 15 #[.val (.ref a1), .val (.ref b2), .val (.int (4 : Int32))] [])) _
    refine own_blk X22 hx bl1_15_3 (own_hb hby bd1_15_3) (pc' := 18) (Ls' := #[.val (.ref a1), .val (.ref b2), .val (.int (4 : Int32))]) (st' := [(.int (4 : Int32)), (.int (4 : Int32)), (.ref b2)]) rfl ?_
    show Steps p.tables e below (T22.setTop (mkF m 18 #[.val (.ref a1), .val (.ref b2), .val (.int (4 : Int32))] [(.int (4 : Int32)), (.int (4 : Int32)), (.ref b2)])) _
    refine st27 _ ?_
    show Steps p.tables e below (T27.setTop (mkF m 19 #[.val (.ref a1), .val (.ref b2), .val (.int (4 : Int32))] [])) _
    refine own_blk X27 hx bl1_19_4 (own_hb hby bd1_19_4) (pc' := 11) (Ls' := #[.val (.ref a1), .val (.ref b2), .val (.int (5 : Int32))]) (st' := [(.ref a1), (.int (5 : Int32))]) rfl ?_
    show Steps p.tables e below (T27.setTop (mkF m 11 #[.val (.ref a1), .val (.ref b2), .val (.int (5 : Int32))] [(.ref a1), (.int (5 : Int32))])) _
    refine X27.arraylength hx (by rw [e27]; exact Ar31.1) (State.isArrayOf_alike hZ.alike Ar31.2.1) (g := (mkF m 11 #[.val (.ref a1), .val (.ref b2), .val (.int (5 : Int32))] [(.ref a1), (.int (5 : Int32))])) rfl rfl (hb hby d1_11) _ ?_
    rw [len_of S31 N31_]
    show Steps p.tables e below (T27.setTop (mkF m 12 #[.val (.ref a1), .val (.ref b2), .val (.int (5 : Int32))] [(.int (5 : Int32)), (.int (5 : Int32))])) _
    refine XS.icmpNo X27.here hx rfl (hb hby d1_12) rfl (flt (by decide : ¬ ((5 : Int32) < (5 : Int32)))).2.2.1 ?_
    show Steps p.tables e below (T27.setTop (mkF m 15 #[.val (.ref a1), .val (.ref b2), .val (.int (5 : Int32))] [])) _
    refine own_blk X27 hx bl1_15_3 (own_hb hby bd1_15_3) (pc' := 18) (Ls' := #[.val (.ref a1), .val (.ref b2), .val (.int (5 : Int32))]) (st' := [(.int (5 : Int32)), (.int (5 : Int32)), (.ref b2)]) rfl ?_
    show Steps p.tables e below (T27.setTop (mkF m 18 #[.val (.ref a1), .val (.ref b2), .val (.int (5 : Int32))] [(.int (5 : Int32)), (.int (5 : Int32)), (.ref b2)])) _
    refine st32 _ ?_
    show Steps p.tables e below (T32.setTop (mkF m 19 #[.val (.ref a1), .val (.ref b2), .val (.int (5 : Int32))] [])) _
    refine own_blk X32 hx bl1_19_4 (own_hb hby bd1_19_4) (pc' := 11) (Ls' := #[.val (.ref a1), .val (.ref b2), .val (.int (6 : Int32))]) (st' := [(.ref a1), (.int (6 : Int32))]) rfl ?_
    show Steps p.tables e below (T32.setTop (mkF m 11 #[.val (.ref a1), .val (.ref b2), .val (.int (6 : Int32))] [(.ref a1), (.int (6 : Int32))])) _
    refine X32.arraylength hx (by rw [e32]; exact Ar36.1) (State.isArrayOf_alike hZ.alike Ar36.2.1) (g := (mkF m 11 #[.val (.ref a1), .val (.ref b2), .val (.int (6 : Int32))] [(.ref a1), (.int (6 : Int32))])) rfl rfl (hb hby d1_11) _ ?_
    rw [len_of S36 N36_]
    show Steps p.tables e below (T32.setTop (mkF m 12 #[.val (.ref a1), .val (.ref b2), .val (.int (6 : Int32))] [(.int (5 : Int32)), (.int (6 : Int32))])) _
    refine XS.icmpYes X32.here hx rfl (pc0 := 12) (pc' := 25) rfl (hb hby d1_12) rfl (tlt (by decide : (5 : Int32) < (6 : Int32))).2.2.1 (by decide) (by decide) ?_
    show Steps p.tables e below (T32.setTop (mkF m 25 #[.val (.ref a1), .val (.ref b2), .val (.int (6 : Int32))] [])) _
    refine own_blk X32 hx bl1_25_1 (own_hb hby bd1_25_1) (pc' := 26) (Ls' := #[.val (.ref a1), .val (.ref b2), .val (.int (6 : Int32))]) (st' := [(.ref b2)]) rfl ?_
    show Steps p.tables e below (T32.setTop (mkF m 26 #[.val (.ref a1), .val (.ref b2), .val (.int (6 : Int32))] [(.ref b2)])) _
    jvm_step X32.here [X32.here.top, hx, (hb hby d1_26), X32.method', Bd.returns, Value.isRef, FieldType.isReference]
    first | (intro acts; rw [hr _ acts rfl rfl rfl]) | rw [hr _ _ rfl rfl rfl]
    exact Steps.refl _
  · show Q1_5 Z a1 k_a1 vs1 h0 n0 _ T32.heap _
    rw [e32]
    exact ⟨b2, k2, rfl, N32, kp34, g_b2, sz_b2, V32⟩
def bl0_63_5 : List (Nat × Instr × Nat) := [(63, .aload 5, 2), (65, .iconst 4, 1), (66, .iload_n 2, 1), (67, .iload_n 3, 1), (68, .isub, 1)]
theorem bd0_63_5 : own_dec code bl0_63_5 = true := by decide +kernel

def f0_5 (p1 : Int32) (p2 : Int32) (p3 : Int32) (p4 : Int32) : Int32 := (1 : Int32)
def Q0_5 (Z : State) (p1 : Int32) (p2 : Int32) (p3 : Int32) (p4 : Int32) (h0 : Heap) (n0 : Nat) (v : Option Value) (h : Heap) (L : List Loc) : Prop := v = some (.int (f0_5 p1 p2 p3 p4)) ∧ Fr n0 L
set_option maxRecDepth 65536 in
set_option maxHeartbeats 40000000 in
theorem rm0_5 (l : Launch) (Z : State) (a0 : Array Value) (hw : ∀ d ∈ tables_1, d.before a0 Z = true) (ws : List Jvm.Cond) (p1 : Int32) (p2 : Int32) (p3 : Int32) (p4 : Int32) (h0 : Heap) (n0 : Nat) (Z0 : n0 ≤ h0.size) (hn : (p1 &&& (7 : Int32)) = (5 : Int32)) :
    MetFree l x (head1 (Jvm.Cond.code x code maxLocals ret :: ws) room_1) (fun a U => a = #[(.int p1), (.int p2), (.int p3), (.int p4)] ∧ Z.Warmed39 U.vm ∧ U.heap = h0) (fun _ _ _ _ _ => True) (fun _ U o U' => ∃ v L, o = .returned v ∧ Q0_5 Z p1 p2 p3 p4 h0 n0 v U'.heap L ∧ FrameEnd U o U' L room_1.cells room_1.slots) := by
  refine MetFree.of_bodySF (plainFor_of_name pn_0) hisR ?_
  intro p e s m args below meth c s₁ Bd hml0 hP hK
  obtain ⟨rfl, hZ, hh⟩ := hP
  have hx := Bd.exec
  have hby := Bd.bytes
  have hml : c.maxLocals = 9 := hml0
  have hown : s.vm.findClass "com/example/varel/varel/text/EditDistanceStartPinLaw" = some m.cls := findClass_of_methodNamed Bd.named
  have hnm := (name_of_methodNamed Bd.named Bd.method).1
  have X0 : Stand p l e room_1 s m #[(.int p1), (.int p2), (.int p3), (.int p4)] below meth c s₁ [] 0 0 := Stand.of_body Bd
  have e0 : s₁.heap = h0 := by rw [← hh, Bd.state]; rfl
  have N0 := Fr.nil n0
  have pre0 : ∀ t, Steps p.tables e below (s₁.setTop (mkF m 0 #[.val (.int p1), .val (.int p2), .val (.int p3), .val (.int p4), .unset, .unset, .unset, .unset, .unset] [])) t → Steps p.tables e below (s₁.setTop (entryFrame m #[(.int p1), (.int p2), (.int p3), (.int p4)] maxLocals)) t := fun t k => castTop (ef_0 m p1 p2 p3 p4) k
  obtain ⟨T1, h1, k1, X1, e1, E1, A1, st1⟩ := newP X0 hx hZ (hw _ (List.mem_of_getElem? (i := 0) rfl)) e0 (g := (mkF m 8 #[.val (.int p1), .val (.int p2), .val (.int p3), .val (.int p4), .val (.int (5 : Int32)), .unset, .unset, .unset, .unset] [(.int (5 : Int32))])) rfl (hb hby at_8) rfl (by decide) (cap := 5) (by decide) (by decide) (by decide) (by decide)
  obtain ⟨b1, g1⟩ : ∃ z, z = h0.size := ⟨_, rfl⟩
  rw [← g1] at A1 st1
  have g_b1 : n0 ≤ b1 := Nat.le_trans Z0 (Nat.le_of_eq g1.symm)
  have zs2 : n0 ≤ h1.size := Nat.le_trans Z0 E1.1
  have V_b1 : Arv Z h1 b1 k1 .int (5 : Int32) [(.int (0 : Int32)), (.int (0 : Int32)), (.int (0 : Int32)), (.int (0 : Int32)), (.int (0 : Int32))] (.int (0 : Int32)) := (Arv.new A1 (by decide)).pad (pad_rep [] (.int (0 : Int32)) 5)
  obtain ⟨cl3, Ar3, qq3, S3, N3_, H3, G3⟩ := id V_b1
  have hin3 : ¬ ((0 : Int32) < 0 ∨ cl3.slots.size ≤ ((0 : Int32)).toNatClampNeg) := inb_of S3 ⟨by decide, by decide⟩
  obtain ⟨T3, h3, X3, e3, W3, st3⟩ := stI X1 hx hZ e1 Ar3 (j := (0 : Int32)) hin3 (g := (mkF m 21 #[.val (.int p1), .val (.int p2), .val (.int p3), .val (.int p4), .val (.int (5 : Int32)), .val (.ref b1), .unset, .unset, .unset] [(.int p2), (.int (0 : Int32)), (.ref b1)])) rfl rfl (hb hby at_21)
  have V3 : Arv Z h3 b1 k1 .int (5 : Int32) [(.int p2), (.int (0 : Int32)), (.int (0 : Int32)), (.int (0 : Int32)), (.int (0 : Int32))] (.int (0 : Int32)) := Arv.set Ar3 qq3 S3 N3_ H3 G3 rfl W3 0 rfl (Nat.le_of_ble_eq_true rfl)
  have zs4 : n0 ≤ h3.size := Nat.le_trans zs2 (Keep.of_wr W3).1
  have N3 := Fr.snoc X3 N0 g_b1
  obtain ⟨cl5, Ar5, qq5, S5, N5_, H5, G5⟩ := id V3
  have hin5 : ¬ ((1 : Int32) < 0 ∨ cl5.slots.size ≤ ((1 : Int32)).toNatClampNeg) := inb_of S5 ⟨by decide, by decide⟩
  obtain ⟨T5, h5, X5, e5, W5, st5⟩ := stI X3 hx hZ e3 Ar5 (j := (1 : Int32)) hin5 (g := (mkF m 32 #[.val (.int p1), .val (.int p2), .val (.int p3), .val (.int p4), .val (.int (5 : Int32)), .val (.ref b1), .unset, .unset, .unset] [(.int p3), (.int (1 : Int32)), (.ref b1)])) rfl rfl (hb hby at_32)
  have V5 : Arv Z h5 b1 k1 .int (5 : Int32) [(.int p2), (.int p3), (.int (0 : Int32)), (.int (0 : Int32)), (.int (0 : Int32))] (.int (0 : Int32)) := Arv.set Ar5 qq5 S5 N5_ H5 G5 rfl W5 1 rfl (Nat.le_of_ble_eq_true rfl)
  have zs6 : n0 ≤ h5.size := Nat.le_trans zs4 (Keep.of_wr W5).1
  have N5 := Fr.snoc X5 N3 g_b1
  obtain ⟨cl7, Ar7, qq7, S7, N7_, H7, G7⟩ := id V5
  have hin7 : ¬ ((2 : Int32) < 0 ∨ cl7.slots.size ≤ ((2 : Int32)).toNatClampNeg) := inb_of S7 ⟨by decide, by decide⟩
  obtain ⟨T7, h7, X7, e7, W7, st7⟩ := stI X5 hx hZ e5 Ar7 (j := (2 : Int32)) hin7 (g := (mkF m 43 #[.val (.int p1), .val (.int p2), .val (.int p3), .val (.int p4), .val (.int (5 : Int32)), .val (.ref b1), .unset, .unset, .unset] [(.int p4), (.int (2 : Int32)), (.ref b1)])) rfl rfl (hb hby at_43)
  have V7 : Arv Z h7 b1 k1 .int (5 : Int32) [(.int p2), (.int p3), (.int p4), (.int (0 : Int32)), (.int (0 : Int32))] (.int (0 : Int32)) := Arv.set Ar7 qq7 S7 N7_ H7 G7 rfl W7 2 rfl (Nat.le_of_ble_eq_true rfl)
  have zs8 : n0 ≤ h7.size := Nat.le_trans zs6 (Keep.of_wr W7).1
  have N7 := Fr.snoc X7 N5 g_b1
  obtain ⟨cl9, Ar9, qq9, S9, N9_, H9, G9⟩ := id V7
  have hin9 : ¬ ((3 : Int32) < 0 ∨ cl9.slots.size ≤ ((3 : Int32)).toNatClampNeg) := inb_of S9 ⟨by decide, by decide⟩
  obtain ⟨T9, h9, X9, e9, W9, st9⟩ := stI X7 hx hZ e7 Ar9 (j := (3 : Int32)) hin9 (g := (mkF m 56 #[.val (.int p1), .val (.int p2), .val (.int p3), .val (.int p4), .val (.int (5 : Int32)), .val (.ref b1), .unset, .unset, .unset] [(.int (p2 ^^^ p3)), (.int (3 : Int32)), (.ref b1)])) rfl rfl (hb hby at_56)
  have V9 : Arv Z h9 b1 k1 .int (5 : Int32) [(.int p2), (.int p3), (.int p4), (.int (p2 ^^^ p3)), (.int (0 : Int32))] (.int (0 : Int32)) := Arv.set Ar9 qq9 S9 N9_ H9 G9 rfl W9 3 rfl (Nat.le_of_ble_eq_true rfl)
  have zs10 : n0 ≤ h9.size := Nat.le_trans zs8 (Keep.of_wr W9).1
  have N9 := Fr.snoc X9 N7 g_b1
  obtain ⟨cl11, Ar11, qq11, S11, N11_, H11, G11⟩ := id V9
  have hin11 : ¬ ((4 : Int32) < 0 ∨ cl11.slots.size ≤ ((4 : Int32)).toNatClampNeg) := inb_of S11 ⟨by decide, by decide⟩
  obtain ⟨T11, h11, X11, e11, W11, st11⟩ := stI X9 hx hZ e9 Ar11 (j := (4 : Int32)) hin11 (g := (mkF m 69 #[.val (.int p1), .val (.int p2), .val (.int p3), .val (.int p4), .val (.int (5 : Int32)), .val (.ref b1), .unset, .unset, .unset] [(.int (p3 - p4)), (.int (4 : Int32)), (.ref b1)])) rfl rfl (hb hby at_69)
  have V11 : Arv Z h11 b1 k1 .int (5 : Int32) [(.int p2), (.int p3), (.int p4), (.int (p2 ^^^ p3)), (.int (p3 - p4))] (.int (0 : Int32)) := Arv.set Ar11 qq11 S11 N11_ H11 G11 rfl W11 4 rfl (Nat.le_of_ble_eq_true rfl)
  have zs12 : n0 ≤ h11.size := Nat.le_trans zs10 (Keep.of_wr W11).1
  have N11 := Fr.snoc X11 N9 g_b1
  obtain ⟨_, T13, Lc13, X13, hQ13, st13⟩ := own_callS X11 hx hZ (y := (⟨"com/example/varel/varel/text/EditDistance", "start", "([I)[I"⟩ : MethodName)) hown (hw _ (List.mem_of_getElem? (i := 1) rfl)) (hw _ (List.mem_of_getElem? (i := 2) rfl)) (hw _ (List.mem_of_getElem? (i := 3) rfl)) (hw _ (List.mem_of_getElem? (i := 4) rfl)) (by decide) (W := 0) (argsL := [(.ref b1)]) (rest := []) (rm1_5 l Z a0 hw [] b1 k1 [(.int p2), (.int p3), (.int p4), (.int (p2 ^^^ p3)), (.int (p3 - p4))] h11 n0 zs12 V11) (by decide) (by decide) (c' := 2) (s' := 11) rfl rfl (by decide) (by decide) e11 (g := (mkF m 101 #[.val (.int p1), .val (.int p2), .val (.int p3), .val (.int p4), .val (.int (5 : Int32)), .val (.ref b1), .unset, .unset, .unset] [(.ref b1)])) rfl (by rw [hml]; rfl) (lenOf pd_0_0 rfl) rfl (by show 2 * 0 + _ ≤ _; exact Nat.le_of_eq rfl) (hb hby at_101)
  obtain ⟨b13, kk13, rfl, N13q, K13, g_b13, szz13, V_b13⟩ := hQ13
  have N13 := Fr.app N11 N13q
  have ne_b1_b13 : b1 ≠ b13 := Nat.ne_of_lt (Nat.lt_of_lt_of_le V11.lt szz13)
  have zs14 : n0 ≤ T13.heap.size := Nat.le_trans zs12 K13.1
  obtain ⟨cl15, Ar15, qq15, S15, N15_, H15, G15⟩ := id V_b13
  obtain ⟨_, T16, Lc16, X16, hQ16, st16⟩ := own_callS X13 hx hZ (y := (⟨"com/example/varel/varel/text/EditDistanceStartPinLaw", "at", "([II)Z"⟩ : MethodName)) hown (hw _ (List.mem_of_getElem? (i := 5) rfl)) (hw _ (List.mem_of_getElem? (i := 6) rfl)) (hw _ (List.mem_of_getElem? (i := 7) rfl)) (hw _ (List.mem_of_getElem? (i := 8) rfl)) (by decide) (W := 0) (argsL := [(.ref b13), (.int (0 : Int32))]) (rest := []) (rm2 l Z a0 hw [] b13 (0 : Int32) (0 : Int32) kk13 [(.int (0 : Int32)), (.int (1 : Int32)), (.int (2 : Int32)), (.int (3 : Int32)), (.int (4 : Int32)), (.int (5 : Int32))] (6 : Int32) T13.heap n0 zs14 V_b13 (by decide) (fun _ => rfl)) (by decide) (by decide) (c' := 2) (s' := 11) rfl rfl (by decide) (by decide) rfl (g := (mkF m 128 #[.val (.int p1), .val (.int p2), .val (.int p3), .val (.int p4), .val (.int (5 : Int32)), .val (.ref b1), .val (.ref b13), .unset, .unset] [(.int (0 : Int32)), (.ref b13)])) rfl (by rw [hml]; rfl) (lenOf pd_0_1 rfl) rfl (by show 2 * 0 + _ ≤ _; exact Nat.le_of_eq rfl) (hb hby at_128)
  obtain ⟨hv16, N16q, e16⟩ := hQ16
  have N16 := Fr.app N13 N16q
  rw [f2, if_pos (by decide : (0 : Int32) < (6 : Int32)), if_pos (by decide : (0 : Int32) = (0 : Int32))] at hv16
  subst hv16
  obtain ⟨_, T17, Lc17, X17, hQ17, st17⟩ := own_callS X16 hx hZ (y := (⟨"com/example/varel/varel/text/EditDistanceStartPinLaw", "at", "([II)Z"⟩ : MethodName)) hown (hw _ (List.mem_of_getElem? (i := 5) rfl)) (hw _ (List.mem_of_getElem? (i := 6) rfl)) (hw _ (List.mem_of_getElem? (i := 7) rfl)) (hw _ (List.mem_of_getElem? (i := 8) rfl)) (by decide) (W := 0) (argsL := [(.ref b13), (.int (1 : Int32))]) (rest := []) (rm2 l Z a0 hw [] b13 (1 : Int32) (1 : Int32) kk13 [(.int (0 : Int32)), (.int (1 : Int32)), (.int (2 : Int32)), (.int (3 : Int32)), (.int (4 : Int32)), (.int (5 : Int32))] (6 : Int32) T13.heap n0 zs14 V_b13 (by decide) (fun _ => rfl)) (by decide) (by decide) (c' := 2) (s' := 11) rfl rfl (by decide) (by decide) e16 (g := (mkF m 137 #[.val (.int p1), .val (.int p2), .val (.int p3), .val (.int p4), .val (.int (5 : Int32)), .val (.ref b1), .val (.ref b13), .unset, .unset] [(.int (1 : Int32)), (.ref b13)])) rfl (by rw [hml]; rfl) (lenOf pd_0_1 rfl) rfl (by show 2 * 0 + _ ≤ _; exact Nat.le_of_eq rfl) (hb hby at_137)
  obtain ⟨hv17, N17q, e17⟩ := hQ17
  have N17 := Fr.app N16 N17q
  rw [f2, if_pos (by decide : (1 : Int32) < (6 : Int32)), if_pos (by decide : (1 : Int32) = (1 : Int32))] at hv17
  subst hv17
  obtain ⟨_, T18, Lc18, X18, hQ18, st18⟩ := own_callS X17 hx hZ (y := (⟨"com/example/varel/varel/text/EditDistanceStartPinLaw", "at", "([II)Z"⟩ : MethodName)) hown (hw _ (List.mem_of_getElem? (i := 5) rfl)) (hw _ (List.mem_of_getElem? (i := 6) rfl)) (hw _ (List.mem_of_getElem? (i := 7) rfl)) (hw _ (List.mem_of_getElem? (i := 8) rfl)) (by decide) (W := 0) (argsL := [(.ref b13), (.int (2 : Int32))]) (rest := []) (rm2 l Z a0 hw [] b13 (2 : Int32) (2 : Int32) kk13 [(.int (0 : Int32)), (.int (1 : Int32)), (.int (2 : Int32)), (.int (3 : Int32)), (.int (4 : Int32)), (.int (5 : Int32))] (6 : Int32) T13.heap n0 zs14 V_b13 (by decide) (fun _ => rfl)) (by decide) (by decide) (c' := 2) (s' := 11) rfl rfl (by decide) (by decide) e17 (g := (mkF m 146 #[.val (.int p1), .val (.int p2), .val (.int p3), .val (.int p4), .val (.int (5 : Int32)), .val (.ref b1), .val (.ref b13), .unset, .unset] [(.int (2 : Int32)), (.ref b13)])) rfl (by rw [hml]; rfl) (lenOf pd_0_1 rfl) rfl (by show 2 * 0 + _ ≤ _; exact Nat.le_of_eq rfl) (hb hby at_146)
  obtain ⟨hv18, N18q, e18⟩ := hQ18
  have N18 := Fr.app N17 N18q
  rw [f2, if_pos (by decide : (2 : Int32) < (6 : Int32)), if_pos (by decide : (2 : Int32) = (2 : Int32))] at hv18
  subst hv18
  obtain ⟨_, T19, Lc19, X19, hQ19, st19⟩ := own_callS X18 hx hZ (y := (⟨"com/example/varel/varel/text/EditDistanceStartPinLaw", "at", "([II)Z"⟩ : MethodName)) hown (hw _ (List.mem_of_getElem? (i := 5) rfl)) (hw _ (List.mem_of_getElem? (i := 6) rfl)) (hw _ (List.mem_of_getElem? (i := 7) rfl)) (hw _ (List.mem_of_getElem? (i := 8) rfl)) (by decide) (W := 0) (argsL := [(.ref b13), (.int (3 : Int32))]) (rest := []) (rm2 l Z a0 hw [] b13 (3 : Int32) (3 : Int32) kk13 [(.int (0 : Int32)), (.int (1 : Int32)), (.int (2 : Int32)), (.int (3 : Int32)), (.int (4 : Int32)), (.int (5 : Int32))] (6 : Int32) T13.heap n0 zs14 V_b13 (by decide) (fun _ => rfl)) (by decide) (by decide) (c' := 2) (s' := 11) rfl rfl (by decide) (by decide) e18 (g := (mkF m 155 #[.val (.int p1), .val (.int p2), .val (.int p3), .val (.int p4), .val (.int (5 : Int32)), .val (.ref b1), .val (.ref b13), .unset, .unset] [(.int (3 : Int32)), (.ref b13)])) rfl (by rw [hml]; rfl) (lenOf pd_0_1 rfl) rfl (by show 2 * 0 + _ ≤ _; exact Nat.le_of_eq rfl) (hb hby at_155)
  obtain ⟨hv19, N19q, e19⟩ := hQ19
  have N19 := Fr.app N18 N19q
  rw [f2, if_pos (by decide : (3 : Int32) < (6 : Int32)), if_pos (by decide : (3 : Int32) = (3 : Int32))] at hv19
  subst hv19
  obtain ⟨_, T20, Lc20, X20, hQ20, st20⟩ := own_callS X19 hx hZ (y := (⟨"com/example/varel/varel/text/EditDistanceStartPinLaw", "at", "([II)Z"⟩ : MethodName)) hown (hw _ (List.mem_of_getElem? (i := 5) rfl)) (hw _ (List.mem_of_getElem? (i := 6) rfl)) (hw _ (List.mem_of_getElem? (i := 7) rfl)) (hw _ (List.mem_of_getElem? (i := 8) rfl)) (by decide) (W := 0) (argsL := [(.ref b13), (.int (4 : Int32))]) (rest := []) (rm2 l Z a0 hw [] b13 (4 : Int32) (4 : Int32) kk13 [(.int (0 : Int32)), (.int (1 : Int32)), (.int (2 : Int32)), (.int (3 : Int32)), (.int (4 : Int32)), (.int (5 : Int32))] (6 : Int32) T13.heap n0 zs14 V_b13 (by decide) (fun _ => rfl)) (by decide) (by decide) (c' := 2) (s' := 11) rfl rfl (by decide) (by decide) e19 (g := (mkF m 164 #[.val (.int p1), .val (.int p2), .val (.int p3), .val (.int p4), .val (.int (5 : Int32)), .val (.ref b1), .val (.ref b13), .unset, .unset] [(.int (4 : Int32)), (.ref b13)])) rfl (by rw [hml]; rfl) (lenOf pd_0_1 rfl) rfl (by show 2 * 0 + _ ≤ _; exact Nat.le_of_eq rfl) (hb hby at_164)
  obtain ⟨hv20, N20q, e20⟩ := hQ20
  have N20 := Fr.app N19 N20q
  rw [f2, if_pos (by decide : (4 : Int32) < (6 : Int32)), if_pos (by decide : (4 : Int32) = (4 : Int32))] at hv20
  subst hv20
  obtain ⟨_, T21, Lc21, X21, hQ21, st21⟩ := own_callS X20 hx hZ (y := (⟨"com/example/varel/varel/text/EditDistanceStartPinLaw", "at", "([II)Z"⟩ : MethodName)) hown (hw _ (List.mem_of_getElem? (i := 5) rfl)) (hw _ (List.mem_of_getElem? (i := 6) rfl)) (hw _ (List.mem_of_getElem? (i := 7) rfl)) (hw _ (List.mem_of_getElem? (i := 8) rfl)) (by decide) (W := 0) (argsL := [(.ref b13), (.int (5 : Int32))]) (rest := []) (rm2 l Z a0 hw [] b13 (5 : Int32) (5 : Int32) kk13 [(.int (0 : Int32)), (.int (1 : Int32)), (.int (2 : Int32)), (.int (3 : Int32)), (.int (4 : Int32)), (.int (5 : Int32))] (6 : Int32) T13.heap n0 zs14 V_b13 (by decide) (fun _ => rfl)) (by decide) (by decide) (c' := 2) (s' := 11) rfl rfl (by decide) (by decide) e20 (g := (mkF m 173 #[.val (.int p1), .val (.int p2), .val (.int p3), .val (.int p4), .val (.int (5 : Int32)), .val (.ref b1), .val (.ref b13), .unset, .unset] [(.int (5 : Int32)), (.ref b13)])) rfl (by rw [hml]; rfl) (lenOf pd_0_1 rfl) rfl (by show 2 * 0 + _ ≤ _; exact Nat.le_of_eq rfl) (hb hby at_173)
  obtain ⟨hv21, N21q, e21⟩ := hQ21
  have N21 := Fr.app N20 N21q
  rw [f2, if_pos (by decide : (5 : Int32) < (6 : Int32)), if_pos (by decide : (5 : Int32) = (5 : Int32))] at hv21
  subst hv21
  obtain ⟨_, T22, Lc22, X22, hQ22, st22⟩ := own_callS X21 hx hZ (y := (⟨"com/example/varel/varel/text/EditDistanceStartPinLaw", "at", "([II)Z"⟩ : MethodName)) hown (hw _ (List.mem_of_getElem? (i := 5) rfl)) (hw _ (List.mem_of_getElem? (i := 6) rfl)) (hw _ (List.mem_of_getElem? (i := 7) rfl)) (hw _ (List.mem_of_getElem? (i := 8) rfl)) (by decide) (W := 0) (argsL := [(.ref b13), (.int (6 : Int32))]) (rest := []) (rm2 l Z a0 hw [] b13 (6 : Int32) (0 : Int32) kk13 [(.int (0 : Int32)), (.int (1 : Int32)), (.int (2 : Int32)), (.int (3 : Int32)), (.int (4 : Int32)), (.int (5 : Int32))] (6 : Int32) T13.heap n0 zs14 V_b13 (by decide) (fun h => absurd h (by decide))) (by decide) (by decide) (c' := 2) (s' := 11) rfl rfl (by decide) (by decide) e21 (g := (mkF m 183 #[.val (.int p1), .val (.int p2), .val (.int p3), .val (.int p4), .val (.int (5 : Int32)), .val (.ref b1), .val (.ref b13), .unset, .unset] [(.int (6 : Int32)), (.ref b13)])) rfl (by rw [hml]; rfl) (lenOf pd_0_1 rfl) rfl (by show 2 * 0 + _ ≤ _; exact Nat.le_of_eq rfl) (hb hby at_183)
  obtain ⟨hv22, N22q, e22⟩ := hQ22
  have N22 := Fr.app N21 N22q
  rw [f2, if_neg (by decide : ¬ ((6 : Int32) < (6 : Int32)))] at hv22
  subst hv22
  obtain ⟨_, T23, Lc23, X23, hQ23, st23⟩ := own_callS X22 hx hZ (y := (⟨"com/example/varel/varel/text/EditDistanceStartPinLaw", "at", "([II)Z"⟩ : MethodName)) hown (hw _ (List.mem_of_getElem? (i := 5) rfl)) (hw _ (List.mem_of_getElem? (i := 6) rfl)) (hw _ (List.mem_of_getElem? (i := 7) rfl)) (hw _ (List.mem_of_getElem? (i := 8) rfl)) (by decide) (W := 0) (argsL := [(.ref b13), (.int (7 : Int32))]) (rest := []) (rm2 l Z a0 hw [] b13 (7 : Int32) (0 : Int32) kk13 [(.int (0 : Int32)), (.int (1 : Int32)), (.int (2 : Int32)), (.int (3 : Int32)), (.int (4 : Int32)), (.int (5 : Int32))] (6 : Int32) T13.heap n0 zs14 V_b13 (by decide) (fun h => absurd h (by decide))) (by decide) (by decide) (c' := 2) (s' := 11) rfl rfl (by decide) (by decide) e22 (g := (mkF m 193 #[.val (.int p1), .val (.int p2), .val (.int p3), .val (.int p4), .val (.int (5 : Int32)), .val (.ref b1), .val (.ref b13), .unset, .unset] [(.int (7 : Int32)), (.ref b13)])) rfl (by rw [hml]; rfl) (lenOf pd_0_1 rfl) rfl (by show 2 * 0 + _ ≤ _; exact Nat.le_of_eq rfl) (hb hby at_193)
  obtain ⟨hv23, N23q, e23⟩ := hQ23
  have N23 := Fr.app N22 N23q
  rw [f2, if_neg (by decide : ¬ ((7 : Int32) < (6 : Int32)))] at hv23
  subst hv23
  have fa24 : Arv Z T13.heap b1 k1 .int (5 : Int32) [(.int p2), (.int p3), (.int p4), (.int (p2 ^^^ p3)), (.int (p3 - p4))] (.int (0 : Int32)) := (V11.keep K13 nin0)
  obtain ⟨cl25, Ar25, qq25, S25, N25_, H25, G25⟩ := id fa24
  obtain ⟨_, T26, Lc26, X26, hQ26, st26⟩ := own_callS X23 hx hZ (y := (⟨"com/example/varel/varel/text/EditDistanceStartPinLaw", "kept", "([III)Z"⟩ : MethodName)) hown (hw _ (List.mem_of_getElem? (i := 9) rfl)) (hw _ (List.mem_of_getElem? (i := 10) rfl)) (hw _ (List.mem_of_getElem? (i := 7) rfl)) (hw _ (List.mem_of_getElem? (i := 11) rfl)) (by decide) (W := 0) (argsL := [(.ref b1), (.int (0 : Int32)), (.int p2)]) (rest := []) (rm3 l Z a0 hw [] b1 (0 : Int32) p2 p2 k1 [(.int p2), (.int p3), (.int p4), (.int (p2 ^^^ p3)), (.int (p3 - p4))] (5 : Int32) T13.heap n0 zs14 fa24 (by decide) (fun _ => rfl)) (by decide) (by decide) (c' := 2) (s' := 11) rfl rfl (by decide) (by decide) e23 (g := (mkF m 218 #[.val (.int p1), .val (.int p2), .val (.int p3), .val (.int p4), .val (.int (5 : Int32)), .val (.ref b1), .val (.ref b13), .val (.int (1 : Int32)), .unset] [(.int p2), (.int (0 : Int32)), (.ref b1)])) rfl (by rw [hml]; rfl) (lenOf pd_0_2 rfl) rfl (by show 2 * 0 + _ ≤ _; exact Nat.le_of_eq rfl) (hb hby at_218)
  obtain ⟨hv26, N26q, e26⟩ := hQ26
  have N26 := Fr.app N23 N26q
  rw [f3, if_pos (by decide : (0 : Int32) < (5 : Int32)), if_pos (rfl : p2 = p2)] at hv26
  subst hv26
  obtain ⟨_, T27, Lc27, X27, hQ27, st27⟩ := own_callS X26 hx hZ (y := (⟨"com/example/varel/varel/text/EditDistanceStartPinLaw", "kept", "([III)Z"⟩ : MethodName)) hown (hw _ (List.mem_of_getElem? (i := 9) rfl)) (hw _ (List.mem_of_getElem? (i := 10) rfl)) (hw _ (List.mem_of_getElem? (i := 7) rfl)) (hw _ (List.mem_of_getElem? (i := 11) rfl)) (by decide) (W := 0) (argsL := [(.ref b1), (.int (1 : Int32)), (.int p3)]) (rest := []) (rm3 l Z a0 hw [] b1 (1 : Int32) p3 p3 k1 [(.int p2), (.int p3), (.int p4), (.int (p2 ^^^ p3)), (.int (p3 - p4))] (5 : Int32) T13.heap n0 zs14 fa24 (by decide) (fun _ => rfl)) (by decide) (by decide) (c' := 2) (s' := 11) rfl rfl (by decide) (by decide) e26 (g := (mkF m 228 #[.val (.int p1), .val (.int p2), .val (.int p3), .val (.int p4), .val (.int (5 : Int32)), .val (.ref b1), .val (.ref b13), .val (.int (1 : Int32)), .unset] [(.int p3), (.int (1 : Int32)), (.ref b1)])) rfl (by rw [hml]; rfl) (lenOf pd_0_2 rfl) rfl (by show 2 * 0 + _ ≤ _; exact Nat.le_of_eq rfl) (hb hby at_228)
  obtain ⟨hv27, N27q, e27⟩ := hQ27
  have N27 := Fr.app N26 N27q
  rw [f3, if_pos (by decide : (1 : Int32) < (5 : Int32)), if_pos (rfl : p3 = p3)] at hv27
  subst hv27
  obtain ⟨_, T28, Lc28, X28, hQ28, st28⟩ := own_callS X27 hx hZ (y := (⟨"com/example/varel/varel/text/EditDistanceStartPinLaw", "kept", "([III)Z"⟩ : MethodName)) hown (hw _ (List.mem_of_getElem? (i := 9) rfl)) (hw _ (List.mem_of_getElem? (i := 10) rfl)) (hw _ (List.mem_of_getElem? (i := 7) rfl)) (hw _ (List.mem_of_getElem? (i := 11) rfl)) (by decide) (W := 0) (argsL := [(.ref b1), (.int (2 : Int32)), (.int p4)]) (rest := []) (rm3 l Z a0 hw [] b1 (2 : Int32) p4 p4 k1 [(.int p2), (.int p3), (.int p4), (.int (p2 ^^^ p3)), (.int (p3 - p4))] (5 : Int32) T13.heap n0 zs14 fa24 (by decide) (fun _ => rfl)) (by decide) (by decide) (c' := 2) (s' := 11) rfl rfl (by decide) (by decide) e27 (g := (mkF m 238 #[.val (.int p1), .val (.int p2), .val (.int p3), .val (.int p4), .val (.int (5 : Int32)), .val (.ref b1), .val (.ref b13), .val (.int (1 : Int32)), .unset] [(.int p4), (.int (2 : Int32)), (.ref b1)])) rfl (by rw [hml]; rfl) (lenOf pd_0_2 rfl) rfl (by show 2 * 0 + _ ≤ _; exact Nat.le_of_eq rfl) (hb hby at_238)
  obtain ⟨hv28, N28q, e28⟩ := hQ28
  have N28 := Fr.app N27 N28q
  rw [f3, if_pos (by decide : (2 : Int32) < (5 : Int32)), if_pos (rfl : p4 = p4)] at hv28
  subst hv28
  obtain ⟨_, T29, Lc29, X29, hQ29, st29⟩ := own_callS X28 hx hZ (y := (⟨"com/example/varel/varel/text/EditDistanceStartPinLaw", "kept", "([III)Z"⟩ : MethodName)) hown (hw _ (List.mem_of_getElem? (i := 9) rfl)) (hw _ (List.mem_of_getElem? (i := 10) rfl)) (hw _ (List.mem_of_getElem? (i := 7) rfl)) (hw _ (List.mem_of_getElem? (i := 11) rfl)) (by decide) (W := 0) (argsL := [(.ref b1), (.int (3 : Int32)), (.int (p2 ^^^ p3))]) (rest := []) (rm3 l Z a0 hw [] b1 (3 : Int32) (p2 ^^^ p3) (p2 ^^^ p3) k1 [(.int p2), (.int p3), (.int p4), (.int (p2 ^^^ p3)), (.int (p3 - p4))] (5 : Int32) T13.heap n0 zs14 fa24 (by decide) (fun _ => rfl)) (by decide) (by decide) (c' := 2) (s' := 11) rfl rfl (by decide) (by decide) e28 (g := (mkF m 250 #[.val (.int p1), .val (.int p2), .val (.int p3), .val (.int p4), .val (.int (5 : Int32)), .val (.ref b1), .val (.ref b13), .val (.int (1 : Int32)), .unset] [(.int (p2 ^^^ p3)), (.int (3 : Int32)), (.ref b1)])) rfl (by rw [hml]; rfl) (lenOf pd_0_2 rfl) rfl (by show 2 * 0 + _ ≤ _; exact Nat.le_of_eq rfl) (hb hby at_250)
  obtain ⟨hv29, N29q, e29⟩ := hQ29
  have N29 := Fr.app N28 N29q
  rw [f3, if_pos (by decide : (3 : Int32) < (5 : Int32)), if_pos (rfl : (p2 ^^^ p3) = (p2 ^^^ p3))] at hv29
  subst hv29
  obtain ⟨_, T30, Lc30, X30, hQ30, st30⟩ := own_callS X29 hx hZ (y := (⟨"com/example/varel/varel/text/EditDistanceStartPinLaw", "kept", "([III)Z"⟩ : MethodName)) hown (hw _ (List.mem_of_getElem? (i := 9) rfl)) (hw _ (List.mem_of_getElem? (i := 10) rfl)) (hw _ (List.mem_of_getElem? (i := 7) rfl)) (hw _ (List.mem_of_getElem? (i := 11) rfl)) (by decide) (W := 0) (argsL := [(.ref b1), (.int (4 : Int32)), (.int (p3 - p4))]) (rest := []) (rm3 l Z a0 hw [] b1 (4 : Int32) (p3 - p4) (p3 - p4) k1 [(.int p2), (.int p3), (.int p4), (.int (p2 ^^^ p3)), (.int (p3 - p4))] (5 : Int32) T13.heap n0 zs14 fa24 (by decide) (fun _ => rfl)) (by decide) (by decide) (c' := 2) (s' := 11) rfl rfl (by decide) (by decide) e29 (g := (mkF m 262 #[.val (.int p1), .val (.int p2), .val (.int p3), .val (.int p4), .val (.int (5 : Int32)), .val (.ref b1), .val (.ref b13), .val (.int (1 : Int32)), .unset] [(.int (p3 - p4)), (.int (4 : Int32)), (.ref b1)])) rfl (by rw [hml]; rfl) (lenOf pd_0_2 rfl) rfl (by show 2 * 0 + _ ≤ _; exact Nat.le_of_eq rfl) (hb hby at_262)
  obtain ⟨hv30, N30q, e30⟩ := hQ30
  have N30 := Fr.app N29 N30q
  rw [f3, if_pos (by decide : (4 : Int32) < (5 : Int32)), if_pos (rfl : (p3 - p4) = (p3 - p4))] at hv30
  subst hv30
  obtain ⟨_, T31, Lc31, X31, hQ31, st31⟩ := own_callS X30 hx hZ (y := (⟨"com/example/varel/varel/text/EditDistanceStartPinLaw", "kept", "([III)Z"⟩ : MethodName)) hown (hw _ (List.mem_of_getElem? (i := 9) rfl)) (hw _ (List.mem_of_getElem? (i := 10) rfl)) (hw _ (List.mem_of_getElem? (i := 7) rfl)) (hw _ (List.mem_of_getElem? (i := 11) rfl)) (by decide) (W := 0) (argsL := [(.ref b1), (.int (5 : Int32)), (.int (p2 ^^^ (-1 : Int32)))]) (rest := []) (rm3 l Z a0 hw [] b1 (5 : Int32) (p2 ^^^ (-1 : Int32)) (0 : Int32) k1 [(.int p2), (.int p3), (.int p4), (.int (p2 ^^^ p3)), (.int (p3 - p4))] (5 : Int32) T13.heap n0 zs14 fa24 (by decide) (fun h => absurd h (by decide))) (by decide) (by decide) (c' := 2) (s' := 11) rfl rfl (by decide) (by decide) e30 (g := (mkF m 274 #[.val (.int p1), .val (.int p2), .val (.int p3), .val (.int p4), .val (.int (5 : Int32)), .val (.ref b1), .val (.ref b13), .val (.int (1 : Int32)), .unset] [(.int (p2 ^^^ (-1 : Int32))), (.int (5 : Int32)), (.ref b1)])) rfl (by rw [hml]; rfl) (lenOf pd_0_2 rfl) rfl (by show 2 * 0 + _ ≤ _; exact Nat.le_of_eq rfl) (hb hby at_274)
  obtain ⟨hv31, N31q, e31⟩ := hQ31
  have N31 := Fr.app N30 N31q
  rw [f3, if_neg (by decide : ¬ ((5 : Int32) < (5 : Int32)))] at hv31
  subst hv31
  obtain ⟨_, T32, Lc32, X32, hQ32, st32⟩ := own_callS X31 hx hZ (y := (⟨"com/example/varel/varel/text/EditDistanceStartPinLaw", "kept", "([III)Z"⟩ : MethodName)) hown (hw _ (List.mem_of_getElem? (i := 9) rfl)) (hw _ (List.mem_of_getElem? (i := 10) rfl)) (hw _ (List.mem_of_getElem? (i := 7) rfl)) (hw _ (List.mem_of_getElem? (i := 11) rfl)) (by decide) (W := 0) (argsL := [(.ref b1), (.int (6 : Int32)), (.int (p4 * (31 : Int32)))]) (rest := []) (rm3 l Z a0 hw [] b1 (6 : Int32) (p4 * (31 : Int32)) (0 : Int32) k1 [(.int p2), (.int p3), (.int p4), (.int (p2 ^^^ p3)), (.int (p3 - p4))] (5 : Int32) T13.heap n0 zs14 fa24 (by decide) (fun h => absurd h (by decide))) (by decide) (by decide) (c' := 2) (s' := 11) rfl rfl (by decide) (by decide) e31 (g := (mkF m 288 #[.val (.int p1), .val (.int p2), .val (.int p3), .val (.int p4), .val (.int (5 : Int32)), .val (.ref b1), .val (.ref b13), .val (.int (1 : Int32)), .unset] [(.int (p4 * (31 : Int32))), (.int (6 : Int32)), (.ref b1)])) rfl (by rw [hml]; rfl) (lenOf pd_0_2 rfl) rfl (by show 2 * 0 + _ ≤ _; exact Nat.le_of_eq rfl) (hb hby at_288)
  obtain ⟨hv32, N32q, e32⟩ := hQ32
  have N32 := Fr.app N31 N32q
  rw [f3, if_neg (by decide : ¬ ((6 : Int32) < (5 : Int32)))] at hv32
  subst hv32
  obtain ⟨fs, hr, hrun, hended, hW, hsame⟩ := X32.leave (v := some (.int (1 : Int32))) (fun h => by rw [Bd.returns] at h; cases h)
  refine ⟨_, _, pre0 _ ?_, hrun, hended, _, _, rfl, ?_, ⟨_, rfl⟩, hW, hsame.mono (by decide) (by decide)⟩
  · show Steps p.tables e below (s₁.setTop (mkF m 0 #[.val (.int p1), .val (.int p2), .val (.int p3), .val (.int p4), .unset, .unset, .unset, .unset, .unset] [])) _
    refine own_blk X0 hx bl0_0_3 (own_hb hby bd0_0_3) (pc' := 4) (Ls' := #[.val (.int p1), .val (.int p2), .val (.int p3), .val (.int p4), .unset, .unset, .unset, .unset, .unset]) (st' := [(.int (p1 &&& (7 : Int32)))]) rfl ?_
    show Steps p.tables e below (s₁.setTop (mkF m 4 #[.val (.int p1), .val (.int p2), .val (.int p3), .val (.int p4), .unset, .unset, .unset, .unset, .unset] [(.int (p1 &&& (7 : Int32)))])) _
    rw [hn]
    show Steps p.tables e below (s₁.setTop (mkF m 4 #[.val (.int p1), .val (.int p2), .val (.int p3), .val (.int p4), .unset, .unset, .unset, .unset, .unset] [(.int (5 : Int32))])) _
    refine own_blk X0 hx bl0_4_2 (own_hb hby bd0_4_2) (pc' := 8) (Ls' := #[.val (.int p1), .val (.int p2), .val (.int p3), .val (.int p4), .val (.int (5 : Int32)), .unset, .unset, .unset, .unset]) (st' := [(.int (5 : Int32))]) rfl ?_
    show Steps p.tables e below (s₁.setTop (mkF m 8 #[.val (.int p1), .val (.int p2), .val (.int p3), .val (.int p4), .val (.int (5 : Int32)), .unset, .unset, .unset, .unset] [(.int (5 : Int32))])) _
    refine st1 _ ?_
    show Steps p.tables e below (T1.setTop (mkF m 10 #[.val (.int p1), .val (.int p2), .val (.int p3), .val (.int p4), .val (.int (5 : Int32)), .unset, .unset, .unset, .unset] [(.ref b1)])) _
    refine own_blk X1 hx bl0_10_2 (own_hb hby bd0_10_2) (pc' := 14) (Ls' := #[.val (.int p1), .val (.int p2), .val (.int p3), .val (.int p4), .val (.int (5 : Int32)), .val (.ref b1), .unset, .unset, .unset]) (st' := [(.int (5 : Int32))]) rfl ?_
    show Steps p.tables e below (T1.setTop (mkF m 14 #[.val (.int p1), .val (.int p2), .val (.int p3), .val (.int p4), .val (.int (5 : Int32)), .val (.ref b1), .unset, .unset, .unset] [(.int (5 : Int32))])) _
    refine XS.ifNo X1.here hx rfl (hb hby at_14) rfl ((if0 _ _).trans (tlt (by decide : (0 : Int32) < (5 : Int32))).2.2.2) ?_
    show Steps p.tables e below (T1.setTop (mkF m 17 #[.val (.int p1), .val (.int p2), .val (.int p3), .val (.int p4), .val (.int (5 : Int32)), .val (.ref b1), .unset, .unset, .unset] [])) _
    refine own_blk X1 hx bl0_17_3 (own_hb hby bd0_17_3) (pc' := 21) (Ls' := #[.val (.int p1), .val (.int p2), .val (.int p3), .val (.int p4), .val (.int (5 : Int32)), .val (.ref b1), .unset, .unset, .unset]) (st' := [(.int p2), (.int (0 : Int32)), (.ref b1)]) rfl ?_
    show Steps p.tables e below (T1.setTop (mkF m 21 #[.val (.int p1), .val (.int p2), .val (.int p3), .val (.int p4), .val (.int (5 : Int32)), .val (.ref b1), .unset, .unset, .unset] [(.int p2), (.int (0 : Int32)), (.ref b1)])) _
    refine st3 _ ?_
    show Steps p.tables e below (T3.setTop (mkF m 22 #[.val (.int p1), .val (.int p2), .val (.int p3), .val (.int p4), .val (.int (5 : Int32)), .val (.ref b1), .unset, .unset, .unset] [])) _
    refine own_blk X3 hx bl0_22_2 (own_hb hby bd0_22_2) (pc' := 25) (Ls' := #[.val (.int p1), .val (.int p2), .val (.int p3), .val (.int p4), .val (.int (5 : Int32)), .val (.ref b1), .unset, .unset, .unset]) (st' := [(.int (1 : Int32)), (.int (5 : Int32))]) rfl ?_
    show Steps p.tables e below (T3.setTop (mkF m 25 #[.val (.int p1), .val (.int p2), .val (.int p3), .val (.int p4), .val (.int (5 : Int32)), .val (.ref b1), .unset, .unset, .unset] [(.int (1 : Int32)), (.int (5 : Int32))])) _
    refine XS.icmpNo X3.here hx rfl (hb hby at_25) rfl (tlt (by decide : (1 : Int32) < (5 : Int32))).2.2.2 ?_
    show Steps p.tables e below (T3.setTop (mkF m 28 #[.val (.int p1), .val (.int p2), .val (.int p3), .val (.int p4), .val (.int (5 : Int32)), .val (.ref b1), .unset, .unset, .unset] [])) _
    refine own_blk X3 hx bl0_28_3 (own_hb hby bd0_28_3) (pc' := 32) (Ls' := #[.val (.int p1), .val (.int p2), .val (.int p3), .val (.int p4), .val (.int (5 : Int32)), .val (.ref b1), .unset, .unset, .unset]) (st' := [(.int p3), (.int (1 : Int32)), (.ref b1)]) rfl ?_
    show Steps p.tables e below (T3.setTop (mkF m 32 #[.val (.int p1), .val (.int p2), .val (.int p3), .val (.int p4), .val (.int (5 : Int32)), .val (.ref b1), .unset, .unset, .unset] [(.int p3), (.int (1 : Int32)), (.ref b1)])) _
    refine st5 _ ?_
    show Steps p.tables e below (T5.setTop (mkF m 33 #[.val (.int p1), .val (.int p2), .val (.int p3), .val (.int p4), .val (.int (5 : Int32)), .val (.ref b1), .unset, .unset, .unset] [])) _
    refine own_blk X5 hx bl0_33_2 (own_hb hby bd0_33_2) (pc' := 36) (Ls' := #[.val (.int p1), .val (.int p2), .val (.int p3), .val (.int p4), .val (.int (5 : Int32)), .val (.ref b1), .unset, .unset, .unset]) (st' := [(.int (2 : Int32)), (.int (5 : Int32))]) rfl ?_
    show Steps p.tables e below (T5.setTop (mkF m 36 #[.val (.int p1), .val (.int p2), .val (.int p3), .val (.int p4), .val (.int (5 : Int32)), .val (.ref b1), .unset, .unset, .unset] [(.int (2 : Int32)), (.int (5 : Int32))])) _
    refine XS.icmpNo X5.here hx rfl (hb hby at_36) rfl (tlt (by decide : (2 : Int32) < (5 : Int32))).2.2.2 ?_
    show Steps p.tables e below (T5.setTop (mkF m 39 #[.val (.int p1), .val (.int p2), .val (.int p3), .val (.int p4), .val (.int (5 : Int32)), .val (.ref b1), .unset, .unset, .unset] [])) _
    refine own_blk X5 hx bl0_39_3 (own_hb hby bd0_39_3) (pc' := 43) (Ls' := #[.val (.int p1), .val (.int p2), .val (.int p3), .val (.int p4), .val (.int (5 : Int32)), .val (.ref b1), .unset, .unset, .unset]) (st' := [(.int p4), (.int (2 : Int32)), (.ref b1)]) rfl ?_
    show Steps p.tables e below (T5.setTop (mkF m 43 #[.val (.int p1), .val (.int p2), .val (.int p3), .val (.int p4), .val (.int (5 : Int32)), .val (.ref b1), .unset, .unset, .unset] [(.int p4), (.int (2 : Int32)), (.ref b1)])) _
    refine st7 _ ?_
    show Steps p.tables e below (T7.setTop (mkF m 44 #[.val (.int p1), .val (.int p2), .val (.int p3), .val (.int p4), .val (.int (5 : Int32)), .val (.ref b1), .unset, .unset, .unset] [])) _
    refine own_blk X7 hx bl0_44_2 (own_hb hby bd0_44_2) (pc' := 47) (Ls' := #[.val (.int p1), .val (.int p2), .val (.int p3), .val (.int p4), .val (.int (5 : Int32)), .val (.ref b1), .unset, .unset, .unset]) (st' := [(.int (3 : Int32)), (.int (5 : Int32))]) rfl ?_
    show Steps p.tables e below (T7.setTop (mkF m 47 #[.val (.int p1), .val (.int p2), .val (.int p3), .val (.int p4), .val (.int (5 : Int32)), .val (.ref b1), .unset, .unset, .unset] [(.int (3 : Int32)), (.int (5 : Int32))])) _
    refine XS.icmpNo X7.here hx rfl (hb hby at_47) rfl (tlt (by decide : (3 : Int32) < (5 : Int32))).2.2.2 ?_
    show Steps p.tables e below (T7.setTop (mkF m 50 #[.val (.int p1), .val (.int p2), .val (.int p3), .val (.int p4), .val (.int (5 : Int32)), .val (.ref b1), .unset, .unset, .unset] [])) _
    refine own_blk X7 hx bl0_50_5 (own_hb hby bd0_50_5) (pc' := 56) (Ls' := #[.val (.int p1), .val (.int p2), .val (.int p3), .val (.int p4), .val (.int (5 : Int32)), .val (.ref b1), .unset, .unset, .unset]) (st' := [(.int (p2 ^^^ p3)), (.int (3 : Int32)), (.ref b1)]) rfl ?_
    show Steps p.tables e below (T7.setTop (mkF m 56 #[.val (.int p1), .val (.int p2), .val (.int p3), .val (.int p4), .val (.int (5 : Int32)), .val (.ref b1), .unset, .unset, .unset] [(.int (p2 ^^^ p3)), (.int (3 : Int32)), (.ref b1)])) _
    refine st9 _ ?_
    show Steps p.tables e below (T9.setTop (mkF m 57 #[.val (.int p1), .val (.int p2), .val (.int p3), .val (.int p4), .val (.int (5 : Int32)), .val (.ref b1), .unset, .unset, .unset] [])) _
    refine own_blk X9 hx bl0_57_2 (own_hb hby bd0_57_2) (pc' := 60) (Ls' := #[.val (.int p1), .val (.int p2), .val (.int p3), .val (.int p4), .val (.int (5 : Int32)), .val (.ref b1), .unset, .unset, .unset]) (st' := [(.int (4 : Int32)), (.int (5 : Int32))]) rfl ?_
    show Steps p.tables e below (T9.setTop (mkF m 60 #[.val (.int p1), .val (.int p2), .val (.int p3), .val (.int p4), .val (.int (5 : Int32)), .val (.ref b1), .unset, .unset, .unset] [(.int (4 : Int32)), (.int (5 : Int32))])) _
    refine XS.icmpNo X9.here hx rfl (hb hby at_60) rfl (tlt (by decide : (4 : Int32) < (5 : Int32))).2.2.2 ?_
    show Steps p.tables e below (T9.setTop (mkF m 63 #[.val (.int p1), .val (.int p2), .val (.int p3), .val (.int p4), .val (.int (5 : Int32)), .val (.ref b1), .unset, .unset, .unset] [])) _
    refine own_blk X9 hx bl0_63_5 (own_hb hby bd0_63_5) (pc' := 69) (Ls' := #[.val (.int p1), .val (.int p2), .val (.int p3), .val (.int p4), .val (.int (5 : Int32)), .val (.ref b1), .unset, .unset, .unset]) (st' := [(.int (p3 - p4)), (.int (4 : Int32)), (.ref b1)]) rfl ?_
    show Steps p.tables e below (T9.setTop (mkF m 69 #[.val (.int p1), .val (.int p2), .val (.int p3), .val (.int p4), .val (.int (5 : Int32)), .val (.ref b1), .unset, .unset, .unset] [(.int (p3 - p4)), (.int (4 : Int32)), (.ref b1)])) _
    refine st11 _ ?_
    show Steps p.tables e below (T11.setTop (mkF m 70 #[.val (.int p1), .val (.int p2), .val (.int p3), .val (.int p4), .val (.int (5 : Int32)), .val (.ref b1), .unset, .unset, .unset] [])) _
    refine own_blk X11 hx bl0_70_2 (own_hb hby bd0_70_2) (pc' := 73) (Ls' := #[.val (.int p1), .val (.int p2), .val (.int p3), .val (.int p4), .val (.int (5 : Int32)), .val (.ref b1), .unset, .unset, .unset]) (st' := [(.int (5 : Int32)), (.int (5 : Int32))]) rfl ?_
    show Steps p.tables e below (T11.setTop (mkF m 73 #[.val (.int p1), .val (.int p2), .val (.int p3), .val (.int p4), .val (.int (5 : Int32)), .val (.ref b1), .unset, .unset, .unset] [(.int (5 : Int32)), (.int (5 : Int32))])) _
    refine XS.icmpYes X11.here hx rfl (pc0 := 73) (pc' := 83) rfl (hb hby at_73) rfl (flt (by decide : ¬ ((5 : Int32) < (5 : Int32)))).2.2.2 (by decide) (by decide) ?_
    show Steps p.tables e below (T11.setTop (mkF m 83 #[.val (.int p1), .val (.int p2), .val (.int p3), .val (.int p4), .val (.int (5 : Int32)), .val (.ref b1), .unset, .unset, .unset] [])) _
    refine own_blk X11 hx bl0_83_2 (own_hb hby bd0_83_2) (pc' := 87) (Ls' := #[.val (.int p1), .val (.int p2), .val (.int p3), .val (.int p4), .val (.int (5 : Int32)), .val (.ref b1), .unset, .unset, .unset]) (st' := [(.int (6 : Int32)), (.int (5 : Int32))]) rfl ?_
    show Steps p.tables e below (T11.setTop (mkF m 87 #[.val (.int p1), .val (.int p2), .val (.int p3), .val (.int p4), .val (.int (5 : Int32)), .val (.ref b1), .unset, .unset, .unset] [(.int (6 : Int32)), (.int (5 : Int32))])) _
    refine XS.icmpYes X11.here hx rfl (pc0 := 87) (pc' := 99) rfl (hb hby at_87) rfl (flt (by decide : ¬ ((6 : Int32) < (5 : Int32)))).2.2.2 (by decide) (by decide) ?_
    show Steps p.tables e below (T11.setTop (mkF m 99 #[.val (.int p1), .val (.int p2), .val (.int p3), .val (.int p4), .val (.int (5 : Int32)), .val (.ref b1), .unset, .unset, .unset] [])) _
    refine own_blk X11 hx bl0_99_1 (own_hb hby bd0_99_1) (pc' := 101) (Ls' := #[.val (.int p1), .val (.int p2), .val (.int p3), .val (.int p4), .val (.int (5 : Int32)), .val (.ref b1), .unset, .unset, .unset]) (st' := [(.ref b1)]) rfl ?_
    show Steps p.tables e below (T11.setTop (mkF m 101 #[.val (.int p1), .val (.int p2), .val (.int p3), .val (.int p4), .val (.int (5 : Int32)), .val (.ref b1), .unset, .unset, .unset] [(.ref b1)])) _
    refine st13 _ ?_
    show Steps p.tables e below (T13.setTop (mkF m 104 #[.val (.int p1), .val (.int p2), .val (.int p3), .val (.int p4), .val (.int (5 : Int32)), .val (.ref b1), .unset, .unset, .unset] [(.ref b13)])) _
    refine own_blk X13 hx bl0_104_2 (own_hb hby bd0_104_2) (pc' := 108) (Ls' := #[.val (.int p1), .val (.int p2), .val (.int p3), .val (.int p4), .val (.int (5 : Int32)), .val (.ref b1), .val (.ref b13), .unset, .unset]) (st' := [(.ref b13)]) rfl ?_
    show Steps p.tables e below (T13.setTop (mkF m 108 #[.val (.int p1), .val (.int p2), .val (.int p3), .val (.int p4), .val (.int (5 : Int32)), .val (.ref b1), .val (.ref b13), .unset, .unset] [(.ref b13)])) _
    refine XS.ifnonnullYes X13.here hx rfl (pc0 := 108) (pc' := 113) rfl (hb hby at_108) rfl (by decide) (by decide) ?_
    show Steps p.tables e below (T13.setTop (mkF m 113 #[.val (.int p1), .val (.int p2), .val (.int p3), .val (.int p4), .val (.int (5 : Int32)), .val (.ref b1), .val (.ref b13), .unset, .unset] [])) _
    refine own_blk X13 hx bl0_113_1 (own_hb hby bd0_113_1) (pc' := 115) (Ls' := #[.val (.int p1), .val (.int p2), .val (.int p3), .val (.int p4), .val (.int (5 : Int32)), .val (.ref b1), .val (.ref b13), .unset, .unset]) (st' := [(.ref b13)]) rfl ?_
    show Steps p.tables e below (T13.setTop (mkF m 115 #[.val (.int p1), .val (.int p2), .val (.int p3), .val (.int p4), .val (.int (5 : Int32)), .val (.ref b1), .val (.ref b13), .unset, .unset] [(.ref b13)])) _
    refine X13.arraylength hx Ar15.1 (State.isArrayOf_alike hZ.alike Ar15.2.1) (g := (mkF m 115 #[.val (.int p1), .val (.int p2), .val (.int p3), .val (.int p4), .val (.int (5 : Int32)), .val (.ref b1), .val (.ref b13), .unset, .unset] [(.ref b13)])) rfl rfl (hb hby at_115) _ ?_
    rw [len_of S15 N15_]
    show Steps p.tables e below (T13.setTop (mkF m 116 #[.val (.int p1), .val (.int p2), .val (.int p3), .val (.int p4), .val (.int (5 : Int32)), .val (.ref b1), .val (.ref b13), .unset, .unset] [(.int (6 : Int32))])) _
    refine own_blk X13 hx bl0_116_3 (own_hb hby bd0_116_3) (pc' := 120) (Ls' := #[.val (.int p1), .val (.int p2), .val (.int p3), .val (.int p4), .val (.int (5 : Int32)), .val (.ref b1), .val (.ref b13), .unset, .unset]) (st' := [(.int (6 : Int32)), (.int (6 : Int32))]) rfl ?_
    show Steps p.tables e below (T13.setTop (mkF m 120 #[.val (.int p1), .val (.int p2), .val (.int p3), .val (.int p4), .val (.int (5 : Int32)), .val (.ref b1), .val (.ref b13), .unset, .unset] [(.int (6 : Int32)), (.int (6 : Int32))])) _
    refine XS.icmpYes X13.here hx rfl (pc0 := 120) (pc' := 125) rfl (hb hby at_120) rfl (teq (by decide : (6 : Int32) = (6 : Int32))).1 (by decide) (by decide) ?_
    show Steps p.tables e below (T13.setTop (mkF m 125 #[.val (.int p1), .val (.int p2), .val (.int p3), .val (.int p4), .val (.int (5 : Int32)), .val (.ref b1), .val (.ref b13), .unset, .unset] [])) _
    refine own_blk X13 hx bl0_125_2 (own_hb hby bd0_125_2) (pc' := 128) (Ls' := #[.val (.int p1), .val (.int p2), .val (.int p3), .val (.int p4), .val (.int (5 : Int32)), .val (.ref b1), .val (.ref b13), .unset, .unset]) (st' := [(.int (0 : Int32)), (.ref b13)]) rfl ?_
    show Steps p.tables e below (T13.setTop (mkF m 128 #[.val (.int p1), .val (.int p2), .val (.int p3), .val (.int p4), .val (.int (5 : Int32)), .val (.ref b1), .val (.ref b13), .unset, .unset] [(.int (0 : Int32)), (.ref b13)])) _
    refine st16 _ ?_
    show Steps p.tables e below (T16.setTop (mkF m 131 #[.val (.int p1), .val (.int p2), .val (.int p3), .val (.int p4), .val (.int (5 : Int32)), .val (.ref b1), .val (.ref b13), .unset, .unset] [(.int (1 : Int32))])) _
    refine XS.ifNo X16.here hx rfl (hb hby at_131) rfl ((if0 _ _).trans (feq (by decide : ¬ ((1 : Int32) = (0 : Int32)))).1) ?_
    show Steps p.tables e below (T16.setTop (mkF m 134 #[.val (.int p1), .val (.int p2), .val (.int p3), .val (.int p4), .val (.int (5 : Int32)), .val (.ref b1), .val (.ref b13), .unset, .unset] [])) _
    refine own_blk X16 hx bl0_134_2 (own_hb hby bd0_134_2) (pc' := 137) (Ls' := #[.val (.int p1), .val (.int p2), .val (.int p3), .val (.int p4), .val (.int (5 : Int32)), .val (.ref b1), .val (.ref b13), .unset, .unset]) (st' := [(.int (1 : Int32)), (.ref b13)]) rfl ?_
    show Steps p.tables e below (T16.setTop (mkF m 137 #[.val (.int p1), .val (.int p2), .val (.int p3), .val (.int p4), .val (.int (5 : Int32)), .val (.ref b1), .val (.ref b13), .unset, .unset] [(.int (1 : Int32)), (.ref b13)])) _
    refine st17 _ ?_
    show Steps p.tables e below (T17.setTop (mkF m 140 #[.val (.int p1), .val (.int p2), .val (.int p3), .val (.int p4), .val (.int (5 : Int32)), .val (.ref b1), .val (.ref b13), .unset, .unset] [(.int (1 : Int32))])) _
    refine XS.ifNo X17.here hx rfl (hb hby at_140) rfl ((if0 _ _).trans (feq (by decide : ¬ ((1 : Int32) = (0 : Int32)))).1) ?_
    show Steps p.tables e below (T17.setTop (mkF m 143 #[.val (.int p1), .val (.int p2), .val (.int p3), .val (.int p4), .val (.int (5 : Int32)), .val (.ref b1), .val (.ref b13), .unset, .unset] [])) _
    refine own_blk X17 hx bl0_143_2 (own_hb hby bd0_143_2) (pc' := 146) (Ls' := #[.val (.int p1), .val (.int p2), .val (.int p3), .val (.int p4), .val (.int (5 : Int32)), .val (.ref b1), .val (.ref b13), .unset, .unset]) (st' := [(.int (2 : Int32)), (.ref b13)]) rfl ?_
    show Steps p.tables e below (T17.setTop (mkF m 146 #[.val (.int p1), .val (.int p2), .val (.int p3), .val (.int p4), .val (.int (5 : Int32)), .val (.ref b1), .val (.ref b13), .unset, .unset] [(.int (2 : Int32)), (.ref b13)])) _
    refine st18 _ ?_
    show Steps p.tables e below (T18.setTop (mkF m 149 #[.val (.int p1), .val (.int p2), .val (.int p3), .val (.int p4), .val (.int (5 : Int32)), .val (.ref b1), .val (.ref b13), .unset, .unset] [(.int (1 : Int32))])) _
    refine XS.ifNo X18.here hx rfl (hb hby at_149) rfl ((if0 _ _).trans (feq (by decide : ¬ ((1 : Int32) = (0 : Int32)))).1) ?_
    show Steps p.tables e below (T18.setTop (mkF m 152 #[.val (.int p1), .val (.int p2), .val (.int p3), .val (.int p4), .val (.int (5 : Int32)), .val (.ref b1), .val (.ref b13), .unset, .unset] [])) _
    refine own_blk X18 hx bl0_152_2 (own_hb hby bd0_152_2) (pc' := 155) (Ls' := #[.val (.int p1), .val (.int p2), .val (.int p3), .val (.int p4), .val (.int (5 : Int32)), .val (.ref b1), .val (.ref b13), .unset, .unset]) (st' := [(.int (3 : Int32)), (.ref b13)]) rfl ?_
    show Steps p.tables e below (T18.setTop (mkF m 155 #[.val (.int p1), .val (.int p2), .val (.int p3), .val (.int p4), .val (.int (5 : Int32)), .val (.ref b1), .val (.ref b13), .unset, .unset] [(.int (3 : Int32)), (.ref b13)])) _
    refine st19 _ ?_
    show Steps p.tables e below (T19.setTop (mkF m 158 #[.val (.int p1), .val (.int p2), .val (.int p3), .val (.int p4), .val (.int (5 : Int32)), .val (.ref b1), .val (.ref b13), .unset, .unset] [(.int (1 : Int32))])) _
    refine XS.ifNo X19.here hx rfl (hb hby at_158) rfl ((if0 _ _).trans (feq (by decide : ¬ ((1 : Int32) = (0 : Int32)))).1) ?_
    show Steps p.tables e below (T19.setTop (mkF m 161 #[.val (.int p1), .val (.int p2), .val (.int p3), .val (.int p4), .val (.int (5 : Int32)), .val (.ref b1), .val (.ref b13), .unset, .unset] [])) _
    refine own_blk X19 hx bl0_161_2 (own_hb hby bd0_161_2) (pc' := 164) (Ls' := #[.val (.int p1), .val (.int p2), .val (.int p3), .val (.int p4), .val (.int (5 : Int32)), .val (.ref b1), .val (.ref b13), .unset, .unset]) (st' := [(.int (4 : Int32)), (.ref b13)]) rfl ?_
    show Steps p.tables e below (T19.setTop (mkF m 164 #[.val (.int p1), .val (.int p2), .val (.int p3), .val (.int p4), .val (.int (5 : Int32)), .val (.ref b1), .val (.ref b13), .unset, .unset] [(.int (4 : Int32)), (.ref b13)])) _
    refine st20 _ ?_
    show Steps p.tables e below (T20.setTop (mkF m 167 #[.val (.int p1), .val (.int p2), .val (.int p3), .val (.int p4), .val (.int (5 : Int32)), .val (.ref b1), .val (.ref b13), .unset, .unset] [(.int (1 : Int32))])) _
    refine XS.ifNo X20.here hx rfl (hb hby at_167) rfl ((if0 _ _).trans (feq (by decide : ¬ ((1 : Int32) = (0 : Int32)))).1) ?_
    show Steps p.tables e below (T20.setTop (mkF m 170 #[.val (.int p1), .val (.int p2), .val (.int p3), .val (.int p4), .val (.int (5 : Int32)), .val (.ref b1), .val (.ref b13), .unset, .unset] [])) _
    refine own_blk X20 hx bl0_170_2 (own_hb hby bd0_170_2) (pc' := 173) (Ls' := #[.val (.int p1), .val (.int p2), .val (.int p3), .val (.int p4), .val (.int (5 : Int32)), .val (.ref b1), .val (.ref b13), .unset, .unset]) (st' := [(.int (5 : Int32)), (.ref b13)]) rfl ?_
    show Steps p.tables e below (T20.setTop (mkF m 173 #[.val (.int p1), .val (.int p2), .val (.int p3), .val (.int p4), .val (.int (5 : Int32)), .val (.ref b1), .val (.ref b13), .unset, .unset] [(.int (5 : Int32)), (.ref b13)])) _
    refine st21 _ ?_
    show Steps p.tables e below (T21.setTop (mkF m 176 #[.val (.int p1), .val (.int p2), .val (.int p3), .val (.int p4), .val (.int (5 : Int32)), .val (.ref b1), .val (.ref b13), .unset, .unset] [(.int (1 : Int32))])) _
    refine XS.ifNo X21.here hx rfl (hb hby at_176) rfl ((if0 _ _).trans (feq (by decide : ¬ ((1 : Int32) = (0 : Int32)))).1) ?_
    show Steps p.tables e below (T21.setTop (mkF m 179 #[.val (.int p1), .val (.int p2), .val (.int p3), .val (.int p4), .val (.int (5 : Int32)), .val (.ref b1), .val (.ref b13), .unset, .unset] [])) _
    refine own_blk X21 hx bl0_179_2 (own_hb hby bd0_179_2) (pc' := 183) (Ls' := #[.val (.int p1), .val (.int p2), .val (.int p3), .val (.int p4), .val (.int (5 : Int32)), .val (.ref b1), .val (.ref b13), .unset, .unset]) (st' := [(.int (6 : Int32)), (.ref b13)]) rfl ?_
    show Steps p.tables e below (T21.setTop (mkF m 183 #[.val (.int p1), .val (.int p2), .val (.int p3), .val (.int p4), .val (.int (5 : Int32)), .val (.ref b1), .val (.ref b13), .unset, .unset] [(.int (6 : Int32)), (.ref b13)])) _
    refine st22 _ ?_
    show Steps p.tables e below (T22.setTop (mkF m 186 #[.val (.int p1), .val (.int p2), .val (.int p3), .val (.int p4), .val (.int (5 : Int32)), .val (.ref b1), .val (.ref b13), .unset, .unset] [(.int (1 : Int32))])) _
    refine XS.ifNo X22.here hx rfl (hb hby at_186) rfl ((if0 _ _).trans (feq (by decide : ¬ ((1 : Int32) = (0 : Int32)))).1) ?_
    show Steps p.tables e below (T22.setTop (mkF m 189 #[.val (.int p1), .val (.int p2), .val (.int p3), .val (.int p4), .val (.int (5 : Int32)), .val (.ref b1), .val (.ref b13), .unset, .unset] [])) _
    refine own_blk X22 hx bl0_189_2 (own_hb hby bd0_189_2) (pc' := 193) (Ls' := #[.val (.int p1), .val (.int p2), .val (.int p3), .val (.int p4), .val (.int (5 : Int32)), .val (.ref b1), .val (.ref b13), .unset, .unset]) (st' := [(.int (7 : Int32)), (.ref b13)]) rfl ?_
    show Steps p.tables e below (T22.setTop (mkF m 193 #[.val (.int p1), .val (.int p2), .val (.int p3), .val (.int p4), .val (.int (5 : Int32)), .val (.ref b1), .val (.ref b13), .unset, .unset] [(.int (7 : Int32)), (.ref b13)])) _
    refine st23 _ ?_
    show Steps p.tables e below (T23.setTop (mkF m 196 #[.val (.int p1), .val (.int p2), .val (.int p3), .val (.int p4), .val (.int (5 : Int32)), .val (.ref b1), .val (.ref b13), .unset, .unset] [(.int (1 : Int32))])) _
    refine XS.ifNo X23.here hx rfl (hb hby at_196) rfl ((if0 _ _).trans (feq (by decide : ¬ ((1 : Int32) = (0 : Int32)))).1) ?_
    show Steps p.tables e below (T23.setTop (mkF m 199 #[.val (.int p1), .val (.int p2), .val (.int p3), .val (.int p4), .val (.int (5 : Int32)), .val (.ref b1), .val (.ref b13), .unset, .unset] [])) _
    refine own_blk X23 hx bl0_199_4 (own_hb hby bd0_199_4) (pc' := 208) (Ls' := #[.val (.int p1), .val (.int p2), .val (.int p3), .val (.int p4), .val (.int (5 : Int32)), .val (.ref b1), .val (.ref b13), .val (.int (1 : Int32)), .unset]) (st' := [(.ref b1)]) rfl ?_
    show Steps p.tables e below (T23.setTop (mkF m 208 #[.val (.int p1), .val (.int p2), .val (.int p3), .val (.int p4), .val (.int (5 : Int32)), .val (.ref b1), .val (.ref b13), .val (.int (1 : Int32)), .unset] [(.ref b1)])) _
    refine X23.arraylength hx (by rw [e23]; exact Ar25.1) (State.isArrayOf_alike hZ.alike Ar25.2.1) (g := (mkF m 208 #[.val (.int p1), .val (.int p2), .val (.int p3), .val (.int p4), .val (.int (5 : Int32)), .val (.ref b1), .val (.ref b13), .val (.int (1 : Int32)), .unset] [(.ref b1)])) rfl rfl (hb hby at_208) _ ?_
    rw [len_of S25 N25_]
    show Steps p.tables e below (T23.setTop (mkF m 209 #[.val (.int p1), .val (.int p2), .val (.int p3), .val (.int p4), .val (.int (5 : Int32)), .val (.ref b1), .val (.ref b13), .val (.int (1 : Int32)), .unset] [(.int (5 : Int32))])) _
    refine own_blk X23 hx bl0_209_1 (own_hb hby bd0_209_1) (pc' := 211) (Ls' := #[.val (.int p1), .val (.int p2), .val (.int p3), .val (.int p4), .val (.int (5 : Int32)), .val (.ref b1), .val (.ref b13), .val (.int (1 : Int32)), .unset]) (st' := [(.int (5 : Int32)), (.int (5 : Int32))]) rfl ?_
    show Steps p.tables e below (T23.setTop (mkF m 211 #[.val (.int p1), .val (.int p2), .val (.int p3), .val (.int p4), .val (.int (5 : Int32)), .val (.ref b1), .val (.ref b13), .val (.int (1 : Int32)), .unset] [(.int (5 : Int32)), (.int (5 : Int32))])) _
    refine XS.icmpNo X23.here hx rfl (hb hby at_211) rfl (teq (by decide : (5 : Int32) = (5 : Int32))).2 ?_
    show Steps p.tables e below (T23.setTop (mkF m 214 #[.val (.int p1), .val (.int p2), .val (.int p3), .val (.int p4), .val (.int (5 : Int32)), .val (.ref b1), .val (.ref b13), .val (.int (1 : Int32)), .unset] [])) _
    refine own_blk X23 hx bl0_214_3 (own_hb hby bd0_214_3) (pc' := 218) (Ls' := #[.val (.int p1), .val (.int p2), .val (.int p3), .val (.int p4), .val (.int (5 : Int32)), .val (.ref b1), .val (.ref b13), .val (.int (1 : Int32)), .unset]) (st' := [(.int p2), (.int (0 : Int32)), (.ref b1)]) rfl ?_
    show Steps p.tables e below (T23.setTop (mkF m 218 #[.val (.int p1), .val (.int p2), .val (.int p3), .val (.int p4), .val (.int (5 : Int32)), .val (.ref b1), .val (.ref b13), .val (.int (1 : Int32)), .unset] [(.int p2), (.int (0 : Int32)), (.ref b1)])) _
    refine st26 _ ?_
    show Steps p.tables e below (T26.setTop (mkF m 221 #[.val (.int p1), .val (.int p2), .val (.int p3), .val (.int p4), .val (.int (5 : Int32)), .val (.ref b1), .val (.ref b13), .val (.int (1 : Int32)), .unset] [(.int (1 : Int32))])) _
    refine XS.ifNo X26.here hx rfl (hb hby at_221) rfl ((if0 _ _).trans (feq (by decide : ¬ ((1 : Int32) = (0 : Int32)))).1) ?_
    show Steps p.tables e below (T26.setTop (mkF m 224 #[.val (.int p1), .val (.int p2), .val (.int p3), .val (.int p4), .val (.int (5 : Int32)), .val (.ref b1), .val (.ref b13), .val (.int (1 : Int32)), .unset] [])) _
    refine own_blk X26 hx bl0_224_3 (own_hb hby bd0_224_3) (pc' := 228) (Ls' := #[.val (.int p1), .val (.int p2), .val (.int p3), .val (.int p4), .val (.int (5 : Int32)), .val (.ref b1), .val (.ref b13), .val (.int (1 : Int32)), .unset]) (st' := [(.int p3), (.int (1 : Int32)), (.ref b1)]) rfl ?_
    show Steps p.tables e below (T26.setTop (mkF m 228 #[.val (.int p1), .val (.int p2), .val (.int p3), .val (.int p4), .val (.int (5 : Int32)), .val (.ref b1), .val (.ref b13), .val (.int (1 : Int32)), .unset] [(.int p3), (.int (1 : Int32)), (.ref b1)])) _
    refine st27 _ ?_
    show Steps p.tables e below (T27.setTop (mkF m 231 #[.val (.int p1), .val (.int p2), .val (.int p3), .val (.int p4), .val (.int (5 : Int32)), .val (.ref b1), .val (.ref b13), .val (.int (1 : Int32)), .unset] [(.int (1 : Int32))])) _
    refine XS.ifNo X27.here hx rfl (hb hby at_231) rfl ((if0 _ _).trans (feq (by decide : ¬ ((1 : Int32) = (0 : Int32)))).1) ?_
    show Steps p.tables e below (T27.setTop (mkF m 234 #[.val (.int p1), .val (.int p2), .val (.int p3), .val (.int p4), .val (.int (5 : Int32)), .val (.ref b1), .val (.ref b13), .val (.int (1 : Int32)), .unset] [])) _
    refine own_blk X27 hx bl0_234_3 (own_hb hby bd0_234_3) (pc' := 238) (Ls' := #[.val (.int p1), .val (.int p2), .val (.int p3), .val (.int p4), .val (.int (5 : Int32)), .val (.ref b1), .val (.ref b13), .val (.int (1 : Int32)), .unset]) (st' := [(.int p4), (.int (2 : Int32)), (.ref b1)]) rfl ?_
    show Steps p.tables e below (T27.setTop (mkF m 238 #[.val (.int p1), .val (.int p2), .val (.int p3), .val (.int p4), .val (.int (5 : Int32)), .val (.ref b1), .val (.ref b13), .val (.int (1 : Int32)), .unset] [(.int p4), (.int (2 : Int32)), (.ref b1)])) _
    refine st28 _ ?_
    show Steps p.tables e below (T28.setTop (mkF m 241 #[.val (.int p1), .val (.int p2), .val (.int p3), .val (.int p4), .val (.int (5 : Int32)), .val (.ref b1), .val (.ref b13), .val (.int (1 : Int32)), .unset] [(.int (1 : Int32))])) _
    refine XS.ifNo X28.here hx rfl (hb hby at_241) rfl ((if0 _ _).trans (feq (by decide : ¬ ((1 : Int32) = (0 : Int32)))).1) ?_
    show Steps p.tables e below (T28.setTop (mkF m 244 #[.val (.int p1), .val (.int p2), .val (.int p3), .val (.int p4), .val (.int (5 : Int32)), .val (.ref b1), .val (.ref b13), .val (.int (1 : Int32)), .unset] [])) _
    refine own_blk X28 hx bl0_244_5 (own_hb hby bd0_244_5) (pc' := 250) (Ls' := #[.val (.int p1), .val (.int p2), .val (.int p3), .val (.int p4), .val (.int (5 : Int32)), .val (.ref b1), .val (.ref b13), .val (.int (1 : Int32)), .unset]) (st' := [(.int (p2 ^^^ p3)), (.int (3 : Int32)), (.ref b1)]) rfl ?_
    show Steps p.tables e below (T28.setTop (mkF m 250 #[.val (.int p1), .val (.int p2), .val (.int p3), .val (.int p4), .val (.int (5 : Int32)), .val (.ref b1), .val (.ref b13), .val (.int (1 : Int32)), .unset] [(.int (p2 ^^^ p3)), (.int (3 : Int32)), (.ref b1)])) _
    refine st29 _ ?_
    show Steps p.tables e below (T29.setTop (mkF m 253 #[.val (.int p1), .val (.int p2), .val (.int p3), .val (.int p4), .val (.int (5 : Int32)), .val (.ref b1), .val (.ref b13), .val (.int (1 : Int32)), .unset] [(.int (1 : Int32))])) _
    refine XS.ifNo X29.here hx rfl (hb hby at_253) rfl ((if0 _ _).trans (feq (by decide : ¬ ((1 : Int32) = (0 : Int32)))).1) ?_
    show Steps p.tables e below (T29.setTop (mkF m 256 #[.val (.int p1), .val (.int p2), .val (.int p3), .val (.int p4), .val (.int (5 : Int32)), .val (.ref b1), .val (.ref b13), .val (.int (1 : Int32)), .unset] [])) _
    refine own_blk X29 hx bl0_256_5 (own_hb hby bd0_256_5) (pc' := 262) (Ls' := #[.val (.int p1), .val (.int p2), .val (.int p3), .val (.int p4), .val (.int (5 : Int32)), .val (.ref b1), .val (.ref b13), .val (.int (1 : Int32)), .unset]) (st' := [(.int (p3 - p4)), (.int (4 : Int32)), (.ref b1)]) rfl ?_
    show Steps p.tables e below (T29.setTop (mkF m 262 #[.val (.int p1), .val (.int p2), .val (.int p3), .val (.int p4), .val (.int (5 : Int32)), .val (.ref b1), .val (.ref b13), .val (.int (1 : Int32)), .unset] [(.int (p3 - p4)), (.int (4 : Int32)), (.ref b1)])) _
    refine st30 _ ?_
    show Steps p.tables e below (T30.setTop (mkF m 265 #[.val (.int p1), .val (.int p2), .val (.int p3), .val (.int p4), .val (.int (5 : Int32)), .val (.ref b1), .val (.ref b13), .val (.int (1 : Int32)), .unset] [(.int (1 : Int32))])) _
    refine XS.ifNo X30.here hx rfl (hb hby at_265) rfl ((if0 _ _).trans (feq (by decide : ¬ ((1 : Int32) = (0 : Int32)))).1) ?_
    show Steps p.tables e below (T30.setTop (mkF m 268 #[.val (.int p1), .val (.int p2), .val (.int p3), .val (.int p4), .val (.int (5 : Int32)), .val (.ref b1), .val (.ref b13), .val (.int (1 : Int32)), .unset] [])) _
    refine own_blk X30 hx bl0_268_5 (own_hb hby bd0_268_5) (pc' := 274) (Ls' := #[.val (.int p1), .val (.int p2), .val (.int p3), .val (.int p4), .val (.int (5 : Int32)), .val (.ref b1), .val (.ref b13), .val (.int (1 : Int32)), .unset]) (st' := [(.int (p2 ^^^ (-1 : Int32))), (.int (5 : Int32)), (.ref b1)]) rfl ?_
    show Steps p.tables e below (T30.setTop (mkF m 274 #[.val (.int p1), .val (.int p2), .val (.int p3), .val (.int p4), .val (.int (5 : Int32)), .val (.ref b1), .val (.ref b13), .val (.int (1 : Int32)), .unset] [(.int (p2 ^^^ (-1 : Int32))), (.int (5 : Int32)), (.ref b1)])) _
    refine st31 _ ?_
    show Steps p.tables e below (T31.setTop (mkF m 277 #[.val (.int p1), .val (.int p2), .val (.int p3), .val (.int p4), .val (.int (5 : Int32)), .val (.ref b1), .val (.ref b13), .val (.int (1 : Int32)), .unset] [(.int (1 : Int32))])) _
    refine XS.ifNo X31.here hx rfl (hb hby at_277) rfl ((if0 _ _).trans (feq (by decide : ¬ ((1 : Int32) = (0 : Int32)))).1) ?_
    show Steps p.tables e below (T31.setTop (mkF m 280 #[.val (.int p1), .val (.int p2), .val (.int p3), .val (.int p4), .val (.int (5 : Int32)), .val (.ref b1), .val (.ref b13), .val (.int (1 : Int32)), .unset] [])) _
    refine own_blk X31 hx bl0_280_5 (own_hb hby bd0_280_5) (pc' := 288) (Ls' := #[.val (.int p1), .val (.int p2), .val (.int p3), .val (.int p4), .val (.int (5 : Int32)), .val (.ref b1), .val (.ref b13), .val (.int (1 : Int32)), .unset]) (st' := [(.int (p4 * (31 : Int32))), (.int (6 : Int32)), (.ref b1)]) rfl ?_
    show Steps p.tables e below (T31.setTop (mkF m 288 #[.val (.int p1), .val (.int p2), .val (.int p3), .val (.int p4), .val (.int (5 : Int32)), .val (.ref b1), .val (.ref b13), .val (.int (1 : Int32)), .unset] [(.int (p4 * (31 : Int32))), (.int (6 : Int32)), (.ref b1)])) _
    refine st32 _ ?_
    show Steps p.tables e below (T32.setTop (mkF m 291 #[.val (.int p1), .val (.int p2), .val (.int p3), .val (.int p4), .val (.int (5 : Int32)), .val (.ref b1), .val (.ref b13), .val (.int (1 : Int32)), .unset] [(.int (1 : Int32))])) _
    refine XS.ifNo X32.here hx rfl (hb hby at_291) rfl ((if0 _ _).trans (feq (by decide : ¬ ((1 : Int32) = (0 : Int32)))).1) ?_
    show Steps p.tables e below (T32.setTop (mkF m 294 #[.val (.int p1), .val (.int p2), .val (.int p3), .val (.int p4), .val (.int (5 : Int32)), .val (.ref b1), .val (.ref b13), .val (.int (1 : Int32)), .unset] [])) _
    refine own_blk X32 hx bl0_294_4 (own_hb hby bd0_294_4) (pc' := 303) (Ls' := #[.val (.int p1), .val (.int p2), .val (.int p3), .val (.int p4), .val (.int (5 : Int32)), .val (.ref b1), .val (.ref b13), .val (.int (1 : Int32)), .val (.int (1 : Int32))]) (st' := [(.int (1 : Int32))]) rfl ?_
    show Steps p.tables e below (T32.setTop (mkF m 303 #[.val (.int p1), .val (.int p2), .val (.int p3), .val (.int p4), .val (.int (5 : Int32)), .val (.ref b1), .val (.ref b13), .val (.int (1 : Int32)), .val (.int (1 : Int32))] [(.int (1 : Int32))])) _
    refine XS.ifNo X32.here hx rfl (hb hby at_303) rfl ((if0 _ _).trans (feq (by decide : ¬ ((1 : Int32) = (0 : Int32)))).1) ?_
    show Steps p.tables e below (T32.setTop (mkF m 306 #[.val (.int p1), .val (.int p2), .val (.int p3), .val (.int p4), .val (.int (5 : Int32)), .val (.ref b1), .val (.ref b13), .val (.int (1 : Int32)), .val (.int (1 : Int32))] [])) _
    refine own_blk X32 hx bl0_306_1 (own_hb hby bd0_306_1) (pc' := 308) (Ls' := #[.val (.int p1), .val (.int p2), .val (.int p3), .val (.int p4), .val (.int (5 : Int32)), .val (.ref b1), .val (.ref b13), .val (.int (1 : Int32)), .val (.int (1 : Int32))]) (st' := [(.int (1 : Int32))]) rfl ?_
    show Steps p.tables e below (T32.setTop (mkF m 308 #[.val (.int p1), .val (.int p2), .val (.int p3), .val (.int p4), .val (.int (5 : Int32)), .val (.ref b1), .val (.ref b13), .val (.int (1 : Int32)), .val (.int (1 : Int32))] [(.int (1 : Int32))])) _
    refine XS.ifNo X32.here hx rfl (hb hby at_308) rfl ((if0 _ _).trans (feq (by decide : ¬ ((1 : Int32) = (0 : Int32)))).1) ?_
    show Steps p.tables e below (T32.setTop (mkF m 311 #[.val (.int p1), .val (.int p2), .val (.int p3), .val (.int p4), .val (.int (5 : Int32)), .val (.ref b1), .val (.ref b13), .val (.int (1 : Int32)), .val (.int (1 : Int32))] [])) _
    refine own_blk X32 hx bl0_311_2 (own_hb hby bd0_311_2) (pc' := 316) (Ls' := #[.val (.int p1), .val (.int p2), .val (.int p3), .val (.int p4), .val (.int (5 : Int32)), .val (.ref b1), .val (.ref b13), .val (.int (1 : Int32)), .val (.int (1 : Int32))]) (st' := [(.int (1 : Int32))]) rfl ?_
    show Steps p.tables e below (T32.setTop (mkF m 316 #[.val (.int p1), .val (.int p2), .val (.int p3), .val (.int p4), .val (.int (5 : Int32)), .val (.ref b1), .val (.ref b13), .val (.int (1 : Int32)), .val (.int (1 : Int32))] [(.int (1 : Int32))])) _
    exact retN X32 hx (t := .boolean) Bd.returns (by simp) (hb hby at_316) hr
  · show Q0_5 Z p1 p2 p3 p4 h0 n0 _ T32.heap _
    rw [e32]
    exact ⟨by rw [f0_5], N32⟩

def Q1_6 (Z : State) (a1 : Addr) (k_a1 : ClassId) (vs1 : List Value) (h0 : Heap) (n0 : Nat) (v : Option Value) (h : Heap) (L : List Loc) : Prop := ∃ (b : Addr) (k : ClassId), v = some (.ref b) ∧ Fr n0 L ∧ Keep h0 h [] ∧ n0 ≤ b ∧ h0.size ≤ b ∧ Arv Z h b k .int (7 : Int32) [(.int (0 : Int32)), (.int (1 : Int32)), (.int (2 : Int32)), (.int (3 : Int32)), (.int (4 : Int32)), (.int (5 : Int32)), (.int (6 : Int32))] (.int (0 : Int32))
set_option maxRecDepth 65536 in
set_option maxHeartbeats 40000000 in
theorem rm1_6 (l : Launch) (Z : State) (a0 : Array Value) (hw : ∀ d ∈ tables_1, d.before a0 Z = true) (ws : List Jvm.Cond) (a1 : Addr) (k_a1 : ClassId) (vs1 : List Value) (h0 : Heap) (n0 : Nat) (Z0 : n0 ≤ h0.size) (V_a1 : Arv Z h0 a1 k_a1 .int (6 : Int32) vs1 (.int (0 : Int32))) :
    MetFree l (⟨"com/example/varel/varel/text/EditDistance", "start", "([I)[I"⟩ : MethodName) (head1 (Jvm.Cond.code (⟨"com/example/varel/varel/text/EditDistance", "start", "([I)[I"⟩ : MethodName) prog_54_method_4_code 3 (some (.array .int)) :: ws) ({ frames := 0, cells := 1, slots := 7, locals := 0 } : Room)) (fun a U => a = #[(.ref a1)] ∧ Z.Warmed39 U.vm ∧ U.heap = h0) (fun _ _ _ _ _ => True) (fun _ U o U' => ∃ v L, o = .returned v ∧ Q1_6 Z a1 k_a1 vs1 h0 n0 v U'.heap L ∧ FrameEnd U o U' L ({ frames := 0, cells := 1, slots := 7, locals := 0 } : Room).cells ({ frames := 0, cells := 1, slots := 7, locals := 0 } : Room).slots) := by
  refine MetFree.of_bodySF (plainFor_of_name pn_1) hisR ?_
  intro p e s m args below meth c s₁ Bd hml0 hP hK
  obtain ⟨rfl, hZ, hh⟩ := hP
  have hx := Bd.exec
  have hby := Bd.bytes
  have hml : c.maxLocals = 3 := hml0
  have hown : s.vm.findClass "com/example/varel/varel/text/EditDistance" = some m.cls := findClass_of_methodNamed Bd.named
  have hnm := (name_of_methodNamed Bd.named Bd.method).1
  have X0 : Stand p l e ({ frames := 0, cells := 1, slots := 7, locals := 0 } : Room) s m #[(.ref a1)] below meth c s₁ [] 0 0 := Stand.of_body Bd
  have e0 : s₁.heap = h0 := by rw [← hh, Bd.state]; rfl
  have N0 := Fr.nil n0
  have pre0 : ∀ t, Steps p.tables e below (s₁.setTop (mkF m 0 #[.val (.ref a1), .unset, .unset] [])) t → Steps p.tables e below (s₁.setTop (entryFrame m #[(.ref a1)] 3)) t := fun t k => castTop (ef_1 m a1) k
  obtain ⟨cl1, Ar1, qq1, S1, N1_, H1, G1⟩ := id V_a1
  obtain ⟨T2, h2, k2, X2, e2, E2, A2, st2⟩ := newP X0 hx hZ (hw _ (List.mem_of_getElem? (i := 0) rfl)) e0 (g := (mkF m 4 #[.val (.ref a1), .unset, .unset] [(.int (7 : Int32))])) rfl (hb hby d1_4) rfl (by decide) (cap := 7) (by decide) (by decide) (by decide) (by decide)
  obtain ⟨b2, g2⟩ : ∃ z, z = h0.size := ⟨_, rfl⟩
  rw [← g2] at A2 st2
  have ne_a1_b2 : a1 ≠ b2 := Nat.ne_of_lt (Nat.lt_of_lt_of_le V_a1.lt (Nat.le_of_eq g2.symm))
  have g_b2 : n0 ≤ b2 := Nat.le_trans Z0 (Nat.le_of_eq g2.symm)
  have sz_b2 : h0.size ≤ b2 := Nat.le_trans (Keep.refl h0 []).1 (Nat.le_of_eq g2.symm)
  have zs3 : n0 ≤ h2.size := Nat.le_trans Z0 E2.1
  have kp4 : Keep h0 h2 [] := (Keep.refl h0 []).ext E2
  have V_b2 : Arv Z h2 b2 k2 .int (7 : Int32) [(.int (0 : Int32)), (.int (0 : Int32)), (.int (0 : Int32)), (.int (0 : Int32)), (.int (0 : Int32)), (.int (0 : Int32)), (.int (0 : Int32))] (.int (0 : Int32)) := (Arv.new A2 (by decide)).pad (pad_rep [] (.int (0 : Int32)) 7)
  have fa5 : Arv Z h2 a1 k_a1 .int (6 : Int32) vs1 (.int (0 : Int32)) := (V_a1.ext E2)
  obtain ⟨cl6, Ar6, qq6, S6, N6_, H6, G6⟩ := id fa5
  obtain ⟨cl7, Ar7, qq7, S7, N7_, H7, G7⟩ := id V_b2
  have hin7 : ¬ ((0 : Int32) < 0 ∨ cl7.slots.size ≤ ((0 : Int32)).toNatClampNeg) := inb_of S7 ⟨by decide, by decide⟩
  obtain ⟨T7, h7, X7, e7, W7, st7⟩ := stI X2 hx hZ e2 Ar7 (j := (0 : Int32)) hin7 (g := (mkF m 18 #[.val (.ref a1), .val (.ref b2), .val (.int (0 : Int32))] [(.int (0 : Int32)), (.int (0 : Int32)), (.ref b2)])) rfl rfl (hb hby d1_18)
  have V7 : Arv Z h7 b2 k2 .int (7 : Int32) [(.int (0 : Int32)), (.int (0 : Int32)), (.int (0 : Int32)), (.int (0 : Int32)), (.int (0 : Int32)), (.int (0 : Int32)), (.int (0 : Int32))] (.int (0 : Int32)) := Arv.set Ar7 qq7 S7 N7_ H7 G7 rfl W7 0 rfl (Nat.le_of_ble_eq_true rfl)
  have zs8 : n0 ≤ h7.size := Nat.le_trans zs3 (Keep.of_wr W7).1
  have kp9 : Keep h0 h7 [] := kp4.wr W7 (Or.inr sz_b2)
  have N7 := Fr.snoc X7 N0 g_b2
  have fa10 : Arv Z h7 a1 k_a1 .int (6 : Int32) vs1 (.int (0 : Int32)) := (fa5.other W7 ne_a1_b2)
  obtain ⟨cl11, Ar11, qq11, S11, N11_, H11, G11⟩ := id fa10
  obtain ⟨cl12, Ar12, qq12, S12, N12_, H12, G12⟩ := id V7
  have hin12 : ¬ ((1 : Int32) < 0 ∨ cl12.slots.size ≤ ((1 : Int32)).toNatClampNeg) := inb_of S12 ⟨by decide, by decide⟩
  obtain ⟨T12, h12, X12, e12, W12, st12⟩ := stI X7 hx hZ e7 Ar12 (j := (1 : Int32)) hin12 (g := (mkF m 18 #[.val (.ref a1), .val (.ref b2), .val (.int (1 : Int32))] [(.int (1 : Int32)), (.int (1 : Int32)), (.ref b2)])) rfl rfl (hb hby d1_18)
  have V12 : Arv Z h12 b2 k2 .int (7 : Int32) [(.int (0 : Int32)), (.int (1 : Int32)), (.int (0 : Int32)), (.int (0 : Int32)), (.int (0 : Int32)), (.int (0 : Int32)), (.int (0 : Int32))] (.int (0 : Int32)) := Arv.set Ar12 qq12 S12 N12_ H12 G12 rfl W12 1 rfl (Nat.le_of_ble_eq_true rfl)
  have zs13 : n0 ≤ h12.size := Nat.le_trans zs8 (Keep.of_wr W12).1
  have kp14 : Keep h0 h12 [] := kp9.wr W12 (Or.inr sz_b2)
  have N12 := Fr.snoc X12 N7 g_b2
  have fa15 : Arv Z h12 a1 k_a1 .int (6 : Int32) vs1 (.int (0 : Int32)) := (fa10.other W12 ne_a1_b2)
  obtain ⟨cl16, Ar16, qq16, S16, N16_, H16, G16⟩ := id fa15
  obtain ⟨cl17, Ar17, qq17, S17, N17_, H17, G17⟩ := id V12
  have hin17 : ¬ ((2 : Int32) < 0 ∨ cl17.slots.size ≤ ((2 : Int32)).toNatClampNeg) := inb_of S17 ⟨by decide, by decide⟩
  obtain ⟨T17, h17, X17, e17, W17, st17⟩ := stI X12 hx hZ e12 Ar17 (j := (2 : Int32)) hin17 (g := (mkF m 18 #[.val (.ref a1), .val (.ref b2), .val (.int (2 : Int32))] [(.int (2 : Int32)), (.int (2 : Int32)), (.ref b2)])) rfl rfl (hb hby d1_18)
  have V17 : Arv Z h17 b2 k2 .int (7 : Int32) [(.int (0 : Int32)), (.int (1 : Int32)), (.int (2 : Int32)), (.int (0 : Int32)), (.int (0 : Int32)), (.int (0 : Int32)), (.int (0 : Int32))] (.int (0 : Int32)) := Arv.set Ar17 qq17 S17 N17_ H17 G17 rfl W17 2 rfl (Nat.le_of_ble_eq_true rfl)
  have zs18 : n0 ≤ h17.size := Nat.le_trans zs13 (Keep.of_wr W17).1
  have kp19 : Keep h0 h17 [] := kp14.wr W17 (Or.inr sz_b2)
  have N17 := Fr.snoc X17 N12 g_b2
  have fa20 : Arv Z h17 a1 k_a1 .int (6 : Int32) vs1 (.int (0 : Int32)) := (fa15.other W17 ne_a1_b2)
  obtain ⟨cl21, Ar21, qq21, S21, N21_, H21, G21⟩ := id fa20
  obtain ⟨cl22, Ar22, qq22, S22, N22_, H22, G22⟩ := id V17
  have hin22 : ¬ ((3 : Int32) < 0 ∨ cl22.slots.size ≤ ((3 : Int32)).toNatClampNeg) := inb_of S22 ⟨by decide, by decide⟩
  obtain ⟨T22, h22, X22, e22, W22, st22⟩ := stI X17 hx hZ e17 Ar22 (j := (3 : Int32)) hin22 (g := (mkF m 18 #[.val (.ref a1), .val (.ref b2), .val (.int (3 : Int32))] [(.int (3 : Int32)), (.int (3 : Int32)), (.ref b2)])) rfl rfl (hb hby d1_18)
  have V22 : Arv Z h22 b2 k2 .int (7 : Int32) [(.int (0 : Int32)), (.int (1 : Int32)), (.int (2 : Int32)), (.int (3 : Int32)), (.int (0 : Int32)), (.int (0 : Int32)), (.int (0 : Int32))] (.int (0 : Int32)) := Arv.set Ar22 qq22 S22 N22_ H22 G22 rfl W22 3 rfl (Nat.le_of_ble_eq_true rfl)
  have zs23 : n0 ≤ h22.size := Nat.le_trans zs18 (Keep.of_wr W22).1
  have kp24 : Keep h0 h22 [] := kp19.wr W22 (Or.inr sz_b2)
  have N22 := Fr.snoc X22 N17 g_b2
  have fa25 : Arv Z h22 a1 k_a1 .int (6 : Int32) vs1 (.int (0 : Int32)) := (fa20.other W22 ne_a1_b2)
  obtain ⟨cl26, Ar26, qq26, S26, N26_, H26, G26⟩ := id fa25
  obtain ⟨cl27, Ar27, qq27, S27, N27_, H27, G27⟩ := id V22
  have hin27 : ¬ ((4 : Int32) < 0 ∨ cl27.slots.size ≤ ((4 : Int32)).toNatClampNeg) := inb_of S27 ⟨by decide, by decide⟩
  obtain ⟨T27, h27, X27, e27, W27, st27⟩ := stI X22 hx hZ e22 Ar27 (j := (4 : Int32)) hin27 (g := (mkF m 18 #[.val (.ref a1), .val (.ref b2), .val (.int (4 : Int32))] [(.int (4 : Int32)), (.int (4 : Int32)), (.ref b2)])) rfl rfl (hb hby d1_18)
  have V27 : Arv Z h27 b2 k2 .int (7 : Int32) [(.int (0 : Int32)), (.int (1 : Int32)), (.int (2 : Int32)), (.int (3 : Int32)), (.int (4 : Int32)), (.int (0 : Int32)), (.int (0 : Int32))] (.int (0 : Int32)) := Arv.set Ar27 qq27 S27 N27_ H27 G27 rfl W27 4 rfl (Nat.le_of_ble_eq_true rfl)
  have zs28 : n0 ≤ h27.size := Nat.le_trans zs23 (Keep.of_wr W27).1
  have kp29 : Keep h0 h27 [] := kp24.wr W27 (Or.inr sz_b2)
  have N27 := Fr.snoc X27 N22 g_b2
  have fa30 : Arv Z h27 a1 k_a1 .int (6 : Int32) vs1 (.int (0 : Int32)) := (fa25.other W27 ne_a1_b2)
  obtain ⟨cl31, Ar31, qq31, S31, N31_, H31, G31⟩ := id fa30
  obtain ⟨cl32, Ar32, qq32, S32, N32_, H32, G32⟩ := id V27
  have hin32 : ¬ ((5 : Int32) < 0 ∨ cl32.slots.size ≤ ((5 : Int32)).toNatClampNeg) := inb_of S32 ⟨by decide, by decide⟩
  obtain ⟨T32, h32, X32, e32, W32, st32⟩ := stI X27 hx hZ e27 Ar32 (j := (5 : Int32)) hin32 (g := (mkF m 18 #[.val (.ref a1), .val (.ref b2), .val (.int (5 : Int32))] [(.int (5 : Int32)), (.int (5 : Int32)), (.ref b2)])) rfl rfl (hb hby d1_18)
  have V32 : Arv Z h32 b2 k2 .int (7 : Int32) [(.int (0 : Int32)), (.int (1 : Int32)), (.int (2 : Int32)), (.int (3 : Int32)), (.int (4 : Int32)), (.int (5 : Int32)), (.int (0 : Int32))] (.int (0 : Int32)) := Arv.set Ar32 qq32 S32 N32_ H32 G32 rfl W32 5 rfl (Nat.le_of_ble_eq_true rfl)
  have zs33 : n0 ≤ h32.size := Nat.le_trans zs28 (Keep.of_wr W32).1
  have kp34 : Keep h0 h32 [] := kp29.wr W32 (Or.inr sz_b2)
  have N32 := Fr.snoc X32 N27 g_b2
  have fa35 : Arv Z h32 a1 k_a1 .int (6 : Int32) vs1 (.int (0 : Int32)) := (fa30.other W32 ne_a1_b2)
  obtain ⟨cl36, Ar36, qq36, S36, N36_, H36, G36⟩ := id fa35
  obtain ⟨cl37, Ar37, qq37, S37, N37_, H37, G37⟩ := id V32
  have hin37 : ¬ ((6 : Int32) < 0 ∨ cl37.slots.size ≤ ((6 : Int32)).toNatClampNeg) := inb_of S37 ⟨by decide, by decide⟩
  obtain ⟨T37, h37, X37, e37, W37, st37⟩ := stI X32 hx hZ e32 Ar37 (j := (6 : Int32)) hin37 (g := (mkF m 18 #[.val (.ref a1), .val (.ref b2), .val (.int (6 : Int32))] [(.int (6 : Int32)), (.int (6 : Int32)), (.ref b2)])) rfl rfl (hb hby d1_18)
  have V37 : Arv Z h37 b2 k2 .int (7 : Int32) [(.int (0 : Int32)), (.int (1 : Int32)), (.int (2 : Int32)), (.int (3 : Int32)), (.int (4 : Int32)), (.int (5 : Int32)), (.int (6 : Int32))] (.int (0 : Int32)) := Arv.set Ar37 qq37 S37 N37_ H37 G37 rfl W37 6 rfl (Nat.le_of_ble_eq_true rfl)
  have zs38 : n0 ≤ h37.size := Nat.le_trans zs33 (Keep.of_wr W37).1
  have kp39 : Keep h0 h37 [] := kp34.wr W37 (Or.inr sz_b2)
  have N37 := Fr.snoc X37 N32 g_b2
  have fa40 : Arv Z h37 a1 k_a1 .int (6 : Int32) vs1 (.int (0 : Int32)) := (fa35.other W37 ne_a1_b2)
  obtain ⟨cl41, Ar41, qq41, S41, N41_, H41, G41⟩ := id fa40
  obtain ⟨fs, hr, hrun, hended, hW, hsame⟩ := X37.leave (v := some (.ref b2)) (fun h => by rw [Bd.returns] at h; cases h)
  refine ⟨_, _, pre0 _ ?_, hrun, hended, _, _, rfl, ?_, ⟨_, rfl⟩, hW, hsame.mono (by decide) (by decide)⟩
  · show Steps p.tables e below (s₁.setTop (mkF m 0 #[.val (.ref a1), .unset, .unset] [])) _
    refine own_blk X0 hx bl1_0_1 (own_hb hby bd1_0_1) (pc' := 1) (Ls' := #[.val (.ref a1), .unset, .unset]) (st' := [(.ref a1)]) rfl ?_
    show Steps p.tables e below (s₁.setTop (mkF m 1 #[.val (.ref a1), .unset, .unset] [(.ref a1)])) _
    refine X0.arraylength hx (by rw [e0]; exact Ar1.1) (State.isArrayOf_alike hZ.alike Ar1.2.1) (g := (mkF m 1 #[.val (.ref a1), .unset, .unset] [(.ref a1)])) rfl rfl (hb hby d1_1) _ ?_
    rw [len_of S1 N1_]
    show Steps p.tables e below (s₁.setTop (mkF m 2 #[.val (.ref a1), .unset, .unset] [(.int (6 : Int32))])) _
    refine own_blk X0 hx bl1_2_2 (own_hb hby bd1_2_2) (pc' := 4) (Ls' := #[.val (.ref a1), .unset, .unset]) (st' := [(.int (7 : Int32))]) rfl ?_
    show Steps p.tables e below (s₁.setTop (mkF m 4 #[.val (.ref a1), .unset, .unset] [(.int (7 : Int32))])) _
    refine st2 _ ?_
    show Steps p.tables e below (T2.setTop (mkF m 6 #[.val (.ref a1), .unset, .unset] [(.ref b2)])) _
    refine own_blk X2 hx bl1_6_5 (own_hb hby bd1_6_5) (pc' := 11) (Ls' := #[.val (.ref a1), .val (.ref b2), .val (.int (0 : Int32))]) (st' := [(.ref a1), (.int (0 : Int32))]) rfl ?_
    show Steps p.tables e below (T2.setTop (mkF m 11 #[.val (.ref a1), .val (.ref b2), .val (.int (0 : Int32))] [(.ref a1), (.int (0 : Int32))])) _
    refine X2.arraylength hx (by rw [e2]; exact Ar6.1) (State.isArrayOf_alike hZ.alike Ar6.2.1) (g := (mkF m 11 #[.val (.ref a1), .val (.ref b2), .val (.int (0 : Int32))] [(.ref a1), (.int (0 : Int32))])) rfl rfl (hb hby d1_11) _ ?_
    rw [len_of S6 N6_]
    show Steps p.tables e below (T2.setTop (mkF m 12 #[.val (.ref a1), .val (.ref b2), .val (.int (0 : Int32))] [(.int (6 : Int32)), (.int (0 : Int32))])) _
    refine XS.icmpNo X2.here hx rfl (hb hby d1_12) rfl (flt (by decide : ¬ ((6 : Int32) < (0 : Int32)))).2.2.1 ?_
    show Steps p.tables e below (T2.setTop (mkF m 15 #[.val (.ref a1), .val (.ref b2), .val (.int (0 : Int32))] [])) _
    refine own_blk X2 hx bl1_15_3 (own_hb hby bd1_15_3) (pc' := 18) (Ls' := #[.val (.ref a1), .val (.ref b2), .val (.int (0 : Int32))]) (st' := [(.int (0 : Int32)), (.int (0 : Int32)), (.ref b2)]) rfl ?_
    show Steps p.tables e below (T2.setTop (mkF m 18 #[.val (.ref a1), .val (.ref b2), .val (.int (0 : Int32))] [(.int (0 : Int32)), (.int (0 : Int32)), (.ref b2)])) _
    refine st7 _ ?_
    show Steps p.tables e below (T7.setTop (mkF m 19 #[.val (.ref a1), .val (.ref b2), .val (.int (0 : Int32))] [])) _
    refine own_blk X7 hx bl1_19_4 (own_hb hby bd1_19_4) (pc' := 11) (Ls' := #[.val (.ref a1), .val (.ref b2), .val (.int (1 : Int32))]) (st' := [(.ref a1), (.int (1 : Int32))]) rfl ?_
    show Steps p.tables e below (T7.setTop (mkF m 11 #[.val (.ref a1), .val (.ref b2), .val (.int (1 : Int32))] [(.ref a1), (.int (1 : Int32))])) _
    refine X7.arraylength hx (by rw [e7]; exact Ar11.1) (State.isArrayOf_alike hZ.alike Ar11.2.1) (g := (mkF m 11 #[.val (.ref a1), .val (.ref b2), .val (.int (1 : Int32))] [(.ref a1), (.int (1 : Int32))])) rfl rfl (hb hby d1_11) _ ?_
    rw [len_of S11 N11_]
    show Steps p.tables e below (T7.setTop (mkF m 12 #[.val (.ref a1), .val (.ref b2), .val (.int (1 : Int32))] [(.int (6 : Int32)), (.int (1 : Int32))])) _
    refine XS.icmpNo X7.here hx rfl (hb hby d1_12) rfl (flt (by decide : ¬ ((6 : Int32) < (1 : Int32)))).2.2.1 ?_
    show Steps p.tables e below (T7.setTop (mkF m 15 #[.val (.ref a1), .val (.ref b2), .val (.int (1 : Int32))] [])) _
    refine own_blk X7 hx bl1_15_3 (own_hb hby bd1_15_3) (pc' := 18) (Ls' := #[.val (.ref a1), .val (.ref b2), .val (.int (1 : Int32))]) (st' := [(.int (1 : Int32)), (.int (1 : Int32)), (.ref b2)]) rfl ?_
    show Steps p.tables e below (T7.setTop (mkF m 18 #[.val (.ref a1), .val (.ref b2), .val (.int (1 : Int32))] [(.int (1 : Int32)), (.int (1 : Int32)), (.ref b2)])) _
    refine st12 _ ?_
    show Steps p.tables e below (T12.setTop (mkF m 19 #[.val (.ref a1), .val (.ref b2), .val (.int (1 : Int32))] [])) _
    refine own_blk X12 hx bl1_19_4 (own_hb hby bd1_19_4) (pc' := 11) (Ls' := #[.val (.ref a1), .val (.ref b2), .val (.int (2 : Int32))]) (st' := [(.ref a1), (.int (2 : Int32))]) rfl ?_
    show Steps p.tables e below (T12.setTop (mkF m 11 #[.val (.ref a1), .val (.ref b2), .val (.int (2 : Int32))] [(.ref a1), (.int (2 : Int32))])) _
    refine X12.arraylength hx (by rw [e12]; exact Ar16.1) (State.isArrayOf_alike hZ.alike Ar16.2.1) (g := (mkF m 11 #[.val (.ref a1), .val (.ref b2), .val (.int (2 : Int32))] [(.ref a1), (.int (2 : Int32))])) rfl rfl (hb hby d1_11) _ ?_
    rw [len_of S16 N16_]
    show Steps p.tables e below (T12.setTop (mkF m 12 #[.val (.ref a1), .val (.ref b2), .val (.int (2 : Int32))] [(.int (6 : Int32)), (.int (2 : Int32))])) _
    refine XS.icmpNo X12.here hx rfl (hb hby d1_12) rfl (flt (by decide : ¬ ((6 : Int32) < (2 : Int32)))).2.2.1 ?_
    show Steps p.tables e below (T12.setTop (mkF m 15 #[.val (.ref a1), .val (.ref b2), .val (.int (2 : Int32))] [])) _
    refine own_blk X12 hx bl1_15_3 (own_hb hby bd1_15_3) (pc' := 18) (Ls' := #[.val (.ref a1), .val (.ref b2), .val (.int (2 : Int32))]) (st' := [(.int (2 : Int32)), (.int (2 : Int32)), (.ref b2)]) rfl ?_
    show Steps p.tables e below (T12.setTop (mkF m 18 #[.val (.ref a1), .val (.ref b2), .val (.int (2 : Int32))] [(.int (2 : Int32)), (.int (2 : Int32)), (.ref b2)])) _
    refine st17 _ ?_
    show Steps p.tables e below (T17.setTop (mkF m 19 #[.val (.ref a1), .val (.ref b2), .val (.int (2 : Int32))] [])) _
    refine own_blk X17 hx bl1_19_4 (own_hb hby bd1_19_4) (pc' := 11) (Ls' := #[.val (.ref a1), .val (.ref b2), .val (.int (3 : Int32))]) (st' := [(.ref a1), (.int (3 : Int32))]) rfl ?_
    show Steps p.tables e below (T17.setTop (mkF m 11 #[.val (.ref a1), .val (.ref b2), .val (.int (3 : Int32))] [(.ref a1), (.int (3 : Int32))])) _
    refine X17.arraylength hx (by rw [e17]; exact Ar21.1) (State.isArrayOf_alike hZ.alike Ar21.2.1) (g := (mkF m 11 #[.val (.ref a1), .val (.ref b2), .val (.int (3 : Int32))] [(.ref a1), (.int (3 : Int32))])) rfl rfl (hb hby d1_11) _ ?_
    rw [len_of S21 N21_]
    show Steps p.tables e below (T17.setTop (mkF m 12 #[.val (.ref a1), .val (.ref b2), .val (.int (3 : Int32))] [(.int (6 : Int32)), (.int (3 : Int32))])) _
    refine XS.icmpNo X17.here hx rfl (hb hby d1_12) rfl (flt (by decide : ¬ ((6 : Int32) < (3 : Int32)))).2.2.1 ?_
    show Steps p.tables e below (T17.setTop (mkF m 15 #[.val (.ref a1), .val (.ref b2), .val (.int (3 : Int32))] [])) _
    refine own_blk X17 hx bl1_15_3 (own_hb hby bd1_15_3) (pc' := 18) (Ls' := #[.val (.ref a1), .val (.ref b2), .val (.int (3 : Int32))]) (st' := [(.int (3 : Int32)), (.int (3 : Int32)), (.ref b2)]) rfl ?_
    show Steps p.tables e below (T17.setTop (mkF m 18 #[.val (.ref a1), .val (.ref b2), .val (.int (3 : Int32))] [(.int (3 : Int32)), (.int (3 : Int32)), (.ref b2)])) _
    refine st22 _ ?_
    show Steps p.tables e below (T22.setTop (mkF m 19 #[.val (.ref a1), .val (.ref b2), .val (.int (3 : Int32))] [])) _
    refine own_blk X22 hx bl1_19_4 (own_hb hby bd1_19_4) (pc' := 11) (Ls' := #[.val (.ref a1), .val (.ref b2), .val (.int (4 : Int32))]) (st' := [(.ref a1), (.int (4 : Int32))]) rfl ?_
    show Steps p.tables e below (T22.setTop (mkF m 11 #[.val (.ref a1), .val (.ref b2), .val (.int (4 : Int32))] [(.ref a1), (.int (4 : Int32))])) _
    refine X22.arraylength hx (by rw [e22]; exact Ar26.1) (State.isArrayOf_alike hZ.alike Ar26.2.1) (g := (mkF m 11 #[.val (.ref a1), .val (.ref b2), .val (.int (4 : Int32))] [(.ref a1), (.int (4 : Int32))])) rfl rfl (hb hby d1_11) _ ?_
    rw [len_of S26 N26_]
    show Steps p.tables e below (T22.setTop (mkF m 12 #[.val (.ref a1), .val (.ref b2), .val (.int (4 : Int32))] [(.int (6 : Int32)), (.int (4 : Int32))])) _
    refine XS.icmpNo X22.here hx rfl (hb hby d1_12) rfl (flt (by decide : ¬ ((6 : Int32) < (4 : Int32)))).2.2.1 ?_
    show Steps p.tables e below (T22.setTop (mkF m 15 #[.val (.ref a1), .val (.ref b2), .val (.int (4 : Int32))] [])) _
    refine own_blk X22 hx bl1_15_3 (own_hb hby bd1_15_3) (pc' := 18) (Ls' := #[.val (.ref a1), .val (.ref b2), .val (.int (4 : Int32))]) (st' := [(.int (4 : Int32)), (.int (4 : Int32)), (.ref b2)]) rfl ?_
    show Steps p.tables e below (T22.setTop (mkF m 18 #[.val (.ref a1), .val (.ref b2), .val (.int (4 : Int32))] [(.int (4 : Int32)), (.int (4 : Int32)), (.ref b2)])) _
    refine st27 _ ?_
    show Steps p.tables e below (T27.setTop (mkF m 19 #[.val (.ref a1), .val (.ref b2), .val (.int (4 : Int32))] [])) _
    refine own_blk X27 hx bl1_19_4 (own_hb hby bd1_19_4) (pc' := 11) (Ls' := #[.val (.ref a1), .val (.ref b2), .val (.int (5 : Int32))]) (st' := [(.ref a1), (.int (5 : Int32))]) rfl ?_
    show Steps p.tables e below (T27.setTop (mkF m 11 #[.val (.ref a1), .val (.ref b2), .val (.int (5 : Int32))] [(.ref a1), (.int (5 : Int32))])) _
    refine X27.arraylength hx (by rw [e27]; exact Ar31.1) (State.isArrayOf_alike hZ.alike Ar31.2.1) (g := (mkF m 11 #[.val (.ref a1), .val (.ref b2), .val (.int (5 : Int32))] [(.ref a1), (.int (5 : Int32))])) rfl rfl (hb hby d1_11) _ ?_
    rw [len_of S31 N31_]
    show Steps p.tables e below (T27.setTop (mkF m 12 #[.val (.ref a1), .val (.ref b2), .val (.int (5 : Int32))] [(.int (6 : Int32)), (.int (5 : Int32))])) _
    refine XS.icmpNo X27.here hx rfl (hb hby d1_12) rfl (flt (by decide : ¬ ((6 : Int32) < (5 : Int32)))).2.2.1 ?_
    show Steps p.tables e below (T27.setTop (mkF m 15 #[.val (.ref a1), .val (.ref b2), .val (.int (5 : Int32))] [])) _
    refine own_blk X27 hx bl1_15_3 (own_hb hby bd1_15_3) (pc' := 18) (Ls' := #[.val (.ref a1), .val (.ref b2), .val (.int (5 : Int32))]) (st' := [(.int (5 : Int32)), (.int (5 : Int32)), (.ref b2)]) rfl ?_
    show Steps p.tables e below (T27.setTop (mkF m 18 #[.val (.ref a1), .val (.ref b2), .val (.int (5 : Int32))] [(.int (5 : Int32)), (.int (5 : Int32)), (.ref b2)])) _
    refine st32 _ ?_
    show Steps p.tables e below (T32.setTop (mkF m 19 #[.val (.ref a1), .val (.ref b2), .val (.int (5 : Int32))] [])) _
    refine own_blk X32 hx bl1_19_4 (own_hb hby bd1_19_4) (pc' := 11) (Ls' := #[.val (.ref a1), .val (.ref b2), .val (.int (6 : Int32))]) (st' := [(.ref a1), (.int (6 : Int32))]) rfl ?_
    show Steps p.tables e below (T32.setTop (mkF m 11 #[.val (.ref a1), .val (.ref b2), .val (.int (6 : Int32))] [(.ref a1), (.int (6 : Int32))])) _
    refine X32.arraylength hx (by rw [e32]; exact Ar36.1) (State.isArrayOf_alike hZ.alike Ar36.2.1) (g := (mkF m 11 #[.val (.ref a1), .val (.ref b2), .val (.int (6 : Int32))] [(.ref a1), (.int (6 : Int32))])) rfl rfl (hb hby d1_11) _ ?_
    rw [len_of S36 N36_]
    show Steps p.tables e below (T32.setTop (mkF m 12 #[.val (.ref a1), .val (.ref b2), .val (.int (6 : Int32))] [(.int (6 : Int32)), (.int (6 : Int32))])) _
    refine XS.icmpNo X32.here hx rfl (hb hby d1_12) rfl (flt (by decide : ¬ ((6 : Int32) < (6 : Int32)))).2.2.1 ?_
    show Steps p.tables e below (T32.setTop (mkF m 15 #[.val (.ref a1), .val (.ref b2), .val (.int (6 : Int32))] [])) _
    refine own_blk X32 hx bl1_15_3 (own_hb hby bd1_15_3) (pc' := 18) (Ls' := #[.val (.ref a1), .val (.ref b2), .val (.int (6 : Int32))]) (st' := [(.int (6 : Int32)), (.int (6 : Int32)), (.ref b2)]) rfl ?_
    show Steps p.tables e below (T32.setTop (mkF m 18 #[.val (.ref a1), .val (.ref b2), .val (.int (6 : Int32))] [(.int (6 : Int32)), (.int (6 : Int32)), (.ref b2)])) _
    refine st37 _ ?_
    show Steps p.tables e below (T37.setTop (mkF m 19 #[.val (.ref a1), .val (.ref b2), .val (.int (6 : Int32))] [])) _
    refine own_blk X37 hx bl1_19_4 (own_hb hby bd1_19_4) (pc' := 11) (Ls' := #[.val (.ref a1), .val (.ref b2), .val (.int (7 : Int32))]) (st' := [(.ref a1), (.int (7 : Int32))]) rfl ?_
    show Steps p.tables e below (T37.setTop (mkF m 11 #[.val (.ref a1), .val (.ref b2), .val (.int (7 : Int32))] [(.ref a1), (.int (7 : Int32))])) _
    refine X37.arraylength hx (by rw [e37]; exact Ar41.1) (State.isArrayOf_alike hZ.alike Ar41.2.1) (g := (mkF m 11 #[.val (.ref a1), .val (.ref b2), .val (.int (7 : Int32))] [(.ref a1), (.int (7 : Int32))])) rfl rfl (hb hby d1_11) _ ?_
    rw [len_of S41 N41_]
    show Steps p.tables e below (T37.setTop (mkF m 12 #[.val (.ref a1), .val (.ref b2), .val (.int (7 : Int32))] [(.int (6 : Int32)), (.int (7 : Int32))])) _
    refine XS.icmpYes X37.here hx rfl (pc0 := 12) (pc' := 25) rfl (hb hby d1_12) rfl (tlt (by decide : (6 : Int32) < (7 : Int32))).2.2.1 (by decide) (by decide) ?_
    show Steps p.tables e below (T37.setTop (mkF m 25 #[.val (.ref a1), .val (.ref b2), .val (.int (7 : Int32))] [])) _
    refine own_blk X37 hx bl1_25_1 (own_hb hby bd1_25_1) (pc' := 26) (Ls' := #[.val (.ref a1), .val (.ref b2), .val (.int (7 : Int32))]) (st' := [(.ref b2)]) rfl ?_
    show Steps p.tables e below (T37.setTop (mkF m 26 #[.val (.ref a1), .val (.ref b2), .val (.int (7 : Int32))] [(.ref b2)])) _
    jvm_step X37.here [X37.here.top, hx, (hb hby d1_26), X37.method', Bd.returns, Value.isRef, FieldType.isReference]
    first | (intro acts; rw [hr _ acts rfl rfl rfl]) | rw [hr _ _ rfl rfl rfl]
    exact Steps.refl _
  · show Q1_6 Z a1 k_a1 vs1 h0 n0 _ T37.heap _
    rw [e37]
    exact ⟨b2, k2, rfl, N37, kp39, g_b2, sz_b2, V37⟩
def bl0_76_5 : List (Nat × Instr × Nat) := [(76, .aload 5, 2), (78, .iconst 5, 1), (79, .iload_n 1, 1), (80, .iconst (-1), 1), (81, .ixor, 1)]
theorem bd0_76_5 : own_dec code bl0_76_5 = true := by decide +kernel

def f0_6 (p1 : Int32) (p2 : Int32) (p3 : Int32) (p4 : Int32) : Int32 := (1 : Int32)
def Q0_6 (Z : State) (p1 : Int32) (p2 : Int32) (p3 : Int32) (p4 : Int32) (h0 : Heap) (n0 : Nat) (v : Option Value) (h : Heap) (L : List Loc) : Prop := v = some (.int (f0_6 p1 p2 p3 p4)) ∧ Fr n0 L
set_option maxRecDepth 65536 in
set_option maxHeartbeats 40000000 in
theorem rm0_6 (l : Launch) (Z : State) (a0 : Array Value) (hw : ∀ d ∈ tables_1, d.before a0 Z = true) (ws : List Jvm.Cond) (p1 : Int32) (p2 : Int32) (p3 : Int32) (p4 : Int32) (h0 : Heap) (n0 : Nat) (Z0 : n0 ≤ h0.size) (hn : (p1 &&& (7 : Int32)) = (6 : Int32)) :
    MetFree l x (head1 (Jvm.Cond.code x code maxLocals ret :: ws) room_1) (fun a U => a = #[(.int p1), (.int p2), (.int p3), (.int p4)] ∧ Z.Warmed39 U.vm ∧ U.heap = h0) (fun _ _ _ _ _ => True) (fun _ U o U' => ∃ v L, o = .returned v ∧ Q0_6 Z p1 p2 p3 p4 h0 n0 v U'.heap L ∧ FrameEnd U o U' L room_1.cells room_1.slots) := by
  refine MetFree.of_bodySF (plainFor_of_name pn_0) hisR ?_
  intro p e s m args below meth c s₁ Bd hml0 hP hK
  obtain ⟨rfl, hZ, hh⟩ := hP
  have hx := Bd.exec
  have hby := Bd.bytes
  have hml : c.maxLocals = 9 := hml0
  have hown : s.vm.findClass "com/example/varel/varel/text/EditDistanceStartPinLaw" = some m.cls := findClass_of_methodNamed Bd.named
  have hnm := (name_of_methodNamed Bd.named Bd.method).1
  have X0 : Stand p l e room_1 s m #[(.int p1), (.int p2), (.int p3), (.int p4)] below meth c s₁ [] 0 0 := Stand.of_body Bd
  have e0 : s₁.heap = h0 := by rw [← hh, Bd.state]; rfl
  have N0 := Fr.nil n0
  have pre0 : ∀ t, Steps p.tables e below (s₁.setTop (mkF m 0 #[.val (.int p1), .val (.int p2), .val (.int p3), .val (.int p4), .unset, .unset, .unset, .unset, .unset] [])) t → Steps p.tables e below (s₁.setTop (entryFrame m #[(.int p1), (.int p2), (.int p3), (.int p4)] maxLocals)) t := fun t k => castTop (ef_0 m p1 p2 p3 p4) k
  obtain ⟨T1, h1, k1, X1, e1, E1, A1, st1⟩ := newP X0 hx hZ (hw _ (List.mem_of_getElem? (i := 0) rfl)) e0 (g := (mkF m 8 #[.val (.int p1), .val (.int p2), .val (.int p3), .val (.int p4), .val (.int (6 : Int32)), .unset, .unset, .unset, .unset] [(.int (6 : Int32))])) rfl (hb hby at_8) rfl (by decide) (cap := 6) (by decide) (by decide) (by decide) (by decide)
  obtain ⟨b1, g1⟩ : ∃ z, z = h0.size := ⟨_, rfl⟩
  rw [← g1] at A1 st1
  have g_b1 : n0 ≤ b1 := Nat.le_trans Z0 (Nat.le_of_eq g1.symm)
  have zs2 : n0 ≤ h1.size := Nat.le_trans Z0 E1.1
  have V_b1 : Arv Z h1 b1 k1 .int (6 : Int32) [(.int (0 : Int32)), (.int (0 : Int32)), (.int (0 : Int32)), (.int (0 : Int32)), (.int (0 : Int32)), (.int (0 : Int32))] (.int (0 : Int32)) := (Arv.new A1 (by decide)).pad (pad_rep [] (.int (0 : Int32)) 6)
  obtain ⟨cl3, Ar3, qq3, S3, N3_, H3, G3⟩ := id V_b1
  have hin3 : ¬ ((0 : Int32) < 0 ∨ cl3.slots.size ≤ ((0 : Int32)).toNatClampNeg) := inb_of S3 ⟨by decide, by decide⟩
  obtain ⟨T3, h3, X3, e3, W3, st3⟩ := stI X1 hx hZ e1 Ar3 (j := (0 : Int32)) hin3 (g := (mkF m 21 #[.val (.int p1), .val (.int p2), .val (.int p3), .val (.int p4), .val (.int (6 : Int32)), .val (.ref b1), .unset, .unset, .unset] [(.int p2), (.int (0 : Int32)), (.ref b1)])) rfl rfl (hb hby at_21)
  have V3 : Arv Z h3 b1 k1 .int (6 : Int32) [(.int p2), (.int (0 : Int32)), (.int (0 : Int32)), (.int (0 : Int32)), (.int (0 : Int32)), (.int (0 : Int32))] (.int (0 : Int32)) := Arv.set Ar3 qq3 S3 N3_ H3 G3 rfl W3 0 rfl (Nat.le_of_ble_eq_true rfl)
  have zs4 : n0 ≤ h3.size := Nat.le_trans zs2 (Keep.of_wr W3).1
  have N3 := Fr.snoc X3 N0 g_b1
  obtain ⟨cl5, Ar5, qq5, S5, N5_, H5, G5⟩ := id V3
  have hin5 : ¬ ((1 : Int32) < 0 ∨ cl5.slots.size ≤ ((1 : Int32)).toNatClampNeg) := inb_of S5 ⟨by decide, by decide⟩
  obtain ⟨T5, h5, X5, e5, W5, st5⟩ := stI X3 hx hZ e3 Ar5 (j := (1 : Int32)) hin5 (g := (mkF m 32 #[.val (.int p1), .val (.int p2), .val (.int p3), .val (.int p4), .val (.int (6 : Int32)), .val (.ref b1), .unset, .unset, .unset] [(.int p3), (.int (1 : Int32)), (.ref b1)])) rfl rfl (hb hby at_32)
  have V5 : Arv Z h5 b1 k1 .int (6 : Int32) [(.int p2), (.int p3), (.int (0 : Int32)), (.int (0 : Int32)), (.int (0 : Int32)), (.int (0 : Int32))] (.int (0 : Int32)) := Arv.set Ar5 qq5 S5 N5_ H5 G5 rfl W5 1 rfl (Nat.le_of_ble_eq_true rfl)
  have zs6 : n0 ≤ h5.size := Nat.le_trans zs4 (Keep.of_wr W5).1
  have N5 := Fr.snoc X5 N3 g_b1
  obtain ⟨cl7, Ar7, qq7, S7, N7_, H7, G7⟩ := id V5
  have hin7 : ¬ ((2 : Int32) < 0 ∨ cl7.slots.size ≤ ((2 : Int32)).toNatClampNeg) := inb_of S7 ⟨by decide, by decide⟩
  obtain ⟨T7, h7, X7, e7, W7, st7⟩ := stI X5 hx hZ e5 Ar7 (j := (2 : Int32)) hin7 (g := (mkF m 43 #[.val (.int p1), .val (.int p2), .val (.int p3), .val (.int p4), .val (.int (6 : Int32)), .val (.ref b1), .unset, .unset, .unset] [(.int p4), (.int (2 : Int32)), (.ref b1)])) rfl rfl (hb hby at_43)
  have V7 : Arv Z h7 b1 k1 .int (6 : Int32) [(.int p2), (.int p3), (.int p4), (.int (0 : Int32)), (.int (0 : Int32)), (.int (0 : Int32))] (.int (0 : Int32)) := Arv.set Ar7 qq7 S7 N7_ H7 G7 rfl W7 2 rfl (Nat.le_of_ble_eq_true rfl)
  have zs8 : n0 ≤ h7.size := Nat.le_trans zs6 (Keep.of_wr W7).1
  have N7 := Fr.snoc X7 N5 g_b1
  obtain ⟨cl9, Ar9, qq9, S9, N9_, H9, G9⟩ := id V7
  have hin9 : ¬ ((3 : Int32) < 0 ∨ cl9.slots.size ≤ ((3 : Int32)).toNatClampNeg) := inb_of S9 ⟨by decide, by decide⟩
  obtain ⟨T9, h9, X9, e9, W9, st9⟩ := stI X7 hx hZ e7 Ar9 (j := (3 : Int32)) hin9 (g := (mkF m 56 #[.val (.int p1), .val (.int p2), .val (.int p3), .val (.int p4), .val (.int (6 : Int32)), .val (.ref b1), .unset, .unset, .unset] [(.int (p2 ^^^ p3)), (.int (3 : Int32)), (.ref b1)])) rfl rfl (hb hby at_56)
  have V9 : Arv Z h9 b1 k1 .int (6 : Int32) [(.int p2), (.int p3), (.int p4), (.int (p2 ^^^ p3)), (.int (0 : Int32)), (.int (0 : Int32))] (.int (0 : Int32)) := Arv.set Ar9 qq9 S9 N9_ H9 G9 rfl W9 3 rfl (Nat.le_of_ble_eq_true rfl)
  have zs10 : n0 ≤ h9.size := Nat.le_trans zs8 (Keep.of_wr W9).1
  have N9 := Fr.snoc X9 N7 g_b1
  obtain ⟨cl11, Ar11, qq11, S11, N11_, H11, G11⟩ := id V9
  have hin11 : ¬ ((4 : Int32) < 0 ∨ cl11.slots.size ≤ ((4 : Int32)).toNatClampNeg) := inb_of S11 ⟨by decide, by decide⟩
  obtain ⟨T11, h11, X11, e11, W11, st11⟩ := stI X9 hx hZ e9 Ar11 (j := (4 : Int32)) hin11 (g := (mkF m 69 #[.val (.int p1), .val (.int p2), .val (.int p3), .val (.int p4), .val (.int (6 : Int32)), .val (.ref b1), .unset, .unset, .unset] [(.int (p3 - p4)), (.int (4 : Int32)), (.ref b1)])) rfl rfl (hb hby at_69)
  have V11 : Arv Z h11 b1 k1 .int (6 : Int32) [(.int p2), (.int p3), (.int p4), (.int (p2 ^^^ p3)), (.int (p3 - p4)), (.int (0 : Int32))] (.int (0 : Int32)) := Arv.set Ar11 qq11 S11 N11_ H11 G11 rfl W11 4 rfl (Nat.le_of_ble_eq_true rfl)
  have zs12 : n0 ≤ h11.size := Nat.le_trans zs10 (Keep.of_wr W11).1
  have N11 := Fr.snoc X11 N9 g_b1
  obtain ⟨cl13, Ar13, qq13, S13, N13_, H13, G13⟩ := id V11
  have hin13 : ¬ ((5 : Int32) < 0 ∨ cl13.slots.size ≤ ((5 : Int32)).toNatClampNeg) := inb_of S13 ⟨by decide, by decide⟩
  obtain ⟨T13, h13, X13, e13, W13, st13⟩ := stI X11 hx hZ e11 Ar13 (j := (5 : Int32)) hin13 (g := (mkF m 82 #[.val (.int p1), .val (.int p2), .val (.int p3), .val (.int p4), .val (.int (6 : Int32)), .val (.ref b1), .unset, .unset, .unset] [(.int (p2 ^^^ (-1 : Int32))), (.int (5 : Int32)), (.ref b1)])) rfl rfl (hb hby at_82)
  have V13 : Arv Z h13 b1 k1 .int (6 : Int32) [(.int p2), (.int p3), (.int p4), (.int (p2 ^^^ p3)), (.int (p3 - p4)), (.int (p2 ^^^ (-1 : Int32)))] (.int (0 : Int32)) := Arv.set Ar13 qq13 S13 N13_ H13 G13 rfl W13 5 rfl (Nat.le_of_ble_eq_true rfl)
  have zs14 : n0 ≤ h13.size := Nat.le_trans zs12 (Keep.of_wr W13).1
  have N13 := Fr.snoc X13 N11 g_b1
  obtain ⟨_, T15, Lc15, X15, hQ15, st15⟩ := own_callS X13 hx hZ (y := (⟨"com/example/varel/varel/text/EditDistance", "start", "([I)[I"⟩ : MethodName)) hown (hw _ (List.mem_of_getElem? (i := 1) rfl)) (hw _ (List.mem_of_getElem? (i := 2) rfl)) (hw _ (List.mem_of_getElem? (i := 3) rfl)) (hw _ (List.mem_of_getElem? (i := 4) rfl)) (by decide) (W := 0) (argsL := [(.ref b1)]) (rest := []) (rm1_6 l Z a0 hw [] b1 k1 [(.int p2), (.int p3), (.int p4), (.int (p2 ^^^ p3)), (.int (p3 - p4)), (.int (p2 ^^^ (-1 : Int32)))] h13 n0 zs14 V13) (by decide) (by decide) (c' := 2) (s' := 13) rfl rfl (by decide) (by decide) e13 (g := (mkF m 101 #[.val (.int p1), .val (.int p2), .val (.int p3), .val (.int p4), .val (.int (6 : Int32)), .val (.ref b1), .unset, .unset, .unset] [(.ref b1)])) rfl (by rw [hml]; rfl) (lenOf pd_0_0 rfl) rfl (by show 2 * 0 + _ ≤ _; exact Nat.le_of_eq rfl) (hb hby at_101)
  obtain ⟨b15, kk15, rfl, N15q, K15, g_b15, szz15, V_b15⟩ := hQ15
  have N15 := Fr.app N13 N15q
  have ne_b1_b15 : b1 ≠ b15 := Nat.ne_of_lt (Nat.lt_of_lt_of_le V13.lt szz15)
  have zs16 : n0 ≤ T15.heap.size := Nat.le_trans zs14 K15.1
  obtain ⟨cl17, Ar17, qq17, S17, N17_, H17, G17⟩ := id V_b15
  obtain ⟨_, T18, Lc18, X18, hQ18, st18⟩ := own_callS X15 hx hZ (y := (⟨"com/example/varel/varel/text/EditDistanceStartPinLaw", "at", "([II)Z"⟩ : MethodName)) hown (hw _ (List.mem_of_getElem? (i := 5) rfl)) (hw _ (List.mem_of_getElem? (i := 6) rfl)) (hw _ (List.mem_of_getElem? (i := 7) rfl)) (hw _ (List.mem_of_getElem? (i := 8) rfl)) (by decide) (W := 0) (argsL := [(.ref b15), (.int (0 : Int32))]) (rest := []) (rm2 l Z a0 hw [] b15 (0 : Int32) (0 : Int32) kk15 [(.int (0 : Int32)), (.int (1 : Int32)), (.int (2 : Int32)), (.int (3 : Int32)), (.int (4 : Int32)), (.int (5 : Int32)), (.int (6 : Int32))] (7 : Int32) T15.heap n0 zs16 V_b15 (by decide) (fun _ => rfl)) (by decide) (by decide) (c' := 2) (s' := 13) rfl rfl (by decide) (by decide) rfl (g := (mkF m 128 #[.val (.int p1), .val (.int p2), .val (.int p3), .val (.int p4), .val (.int (6 : Int32)), .val (.ref b1), .val (.ref b15), .unset, .unset] [(.int (0 : Int32)), (.ref b15)])) rfl (by rw [hml]; rfl) (lenOf pd_0_1 rfl) rfl (by show 2 * 0 + _ ≤ _; exact Nat.le_of_eq rfl) (hb hby at_128)
  obtain ⟨hv18, N18q, e18⟩ := hQ18
  have N18 := Fr.app N15 N18q
  rw [f2, if_pos (by decide : (0 : Int32) < (7 : Int32)), if_pos (by decide : (0 : Int32) = (0 : Int32))] at hv18
  subst hv18
  obtain ⟨_, T19, Lc19, X19, hQ19, st19⟩ := own_callS X18 hx hZ (y := (⟨"com/example/varel/varel/text/EditDistanceStartPinLaw", "at", "([II)Z"⟩ : MethodName)) hown (hw _ (List.mem_of_getElem? (i := 5) rfl)) (hw _ (List.mem_of_getElem? (i := 6) rfl)) (hw _ (List.mem_of_getElem? (i := 7) rfl)) (hw _ (List.mem_of_getElem? (i := 8) rfl)) (by decide) (W := 0) (argsL := [(.ref b15), (.int (1 : Int32))]) (rest := []) (rm2 l Z a0 hw [] b15 (1 : Int32) (1 : Int32) kk15 [(.int (0 : Int32)), (.int (1 : Int32)), (.int (2 : Int32)), (.int (3 : Int32)), (.int (4 : Int32)), (.int (5 : Int32)), (.int (6 : Int32))] (7 : Int32) T15.heap n0 zs16 V_b15 (by decide) (fun _ => rfl)) (by decide) (by decide) (c' := 2) (s' := 13) rfl rfl (by decide) (by decide) e18 (g := (mkF m 137 #[.val (.int p1), .val (.int p2), .val (.int p3), .val (.int p4), .val (.int (6 : Int32)), .val (.ref b1), .val (.ref b15), .unset, .unset] [(.int (1 : Int32)), (.ref b15)])) rfl (by rw [hml]; rfl) (lenOf pd_0_1 rfl) rfl (by show 2 * 0 + _ ≤ _; exact Nat.le_of_eq rfl) (hb hby at_137)
  obtain ⟨hv19, N19q, e19⟩ := hQ19
  have N19 := Fr.app N18 N19q
  rw [f2, if_pos (by decide : (1 : Int32) < (7 : Int32)), if_pos (by decide : (1 : Int32) = (1 : Int32))] at hv19
  subst hv19
  obtain ⟨_, T20, Lc20, X20, hQ20, st20⟩ := own_callS X19 hx hZ (y := (⟨"com/example/varel/varel/text/EditDistanceStartPinLaw", "at", "([II)Z"⟩ : MethodName)) hown (hw _ (List.mem_of_getElem? (i := 5) rfl)) (hw _ (List.mem_of_getElem? (i := 6) rfl)) (hw _ (List.mem_of_getElem? (i := 7) rfl)) (hw _ (List.mem_of_getElem? (i := 8) rfl)) (by decide) (W := 0) (argsL := [(.ref b15), (.int (2 : Int32))]) (rest := []) (rm2 l Z a0 hw [] b15 (2 : Int32) (2 : Int32) kk15 [(.int (0 : Int32)), (.int (1 : Int32)), (.int (2 : Int32)), (.int (3 : Int32)), (.int (4 : Int32)), (.int (5 : Int32)), (.int (6 : Int32))] (7 : Int32) T15.heap n0 zs16 V_b15 (by decide) (fun _ => rfl)) (by decide) (by decide) (c' := 2) (s' := 13) rfl rfl (by decide) (by decide) e19 (g := (mkF m 146 #[.val (.int p1), .val (.int p2), .val (.int p3), .val (.int p4), .val (.int (6 : Int32)), .val (.ref b1), .val (.ref b15), .unset, .unset] [(.int (2 : Int32)), (.ref b15)])) rfl (by rw [hml]; rfl) (lenOf pd_0_1 rfl) rfl (by show 2 * 0 + _ ≤ _; exact Nat.le_of_eq rfl) (hb hby at_146)
  obtain ⟨hv20, N20q, e20⟩ := hQ20
  have N20 := Fr.app N19 N20q
  rw [f2, if_pos (by decide : (2 : Int32) < (7 : Int32)), if_pos (by decide : (2 : Int32) = (2 : Int32))] at hv20
  subst hv20
  obtain ⟨_, T21, Lc21, X21, hQ21, st21⟩ := own_callS X20 hx hZ (y := (⟨"com/example/varel/varel/text/EditDistanceStartPinLaw", "at", "([II)Z"⟩ : MethodName)) hown (hw _ (List.mem_of_getElem? (i := 5) rfl)) (hw _ (List.mem_of_getElem? (i := 6) rfl)) (hw _ (List.mem_of_getElem? (i := 7) rfl)) (hw _ (List.mem_of_getElem? (i := 8) rfl)) (by decide) (W := 0) (argsL := [(.ref b15), (.int (3 : Int32))]) (rest := []) (rm2 l Z a0 hw [] b15 (3 : Int32) (3 : Int32) kk15 [(.int (0 : Int32)), (.int (1 : Int32)), (.int (2 : Int32)), (.int (3 : Int32)), (.int (4 : Int32)), (.int (5 : Int32)), (.int (6 : Int32))] (7 : Int32) T15.heap n0 zs16 V_b15 (by decide) (fun _ => rfl)) (by decide) (by decide) (c' := 2) (s' := 13) rfl rfl (by decide) (by decide) e20 (g := (mkF m 155 #[.val (.int p1), .val (.int p2), .val (.int p3), .val (.int p4), .val (.int (6 : Int32)), .val (.ref b1), .val (.ref b15), .unset, .unset] [(.int (3 : Int32)), (.ref b15)])) rfl (by rw [hml]; rfl) (lenOf pd_0_1 rfl) rfl (by show 2 * 0 + _ ≤ _; exact Nat.le_of_eq rfl) (hb hby at_155)
  obtain ⟨hv21, N21q, e21⟩ := hQ21
  have N21 := Fr.app N20 N21q
  rw [f2, if_pos (by decide : (3 : Int32) < (7 : Int32)), if_pos (by decide : (3 : Int32) = (3 : Int32))] at hv21
  subst hv21
  obtain ⟨_, T22, Lc22, X22, hQ22, st22⟩ := own_callS X21 hx hZ (y := (⟨"com/example/varel/varel/text/EditDistanceStartPinLaw", "at", "([II)Z"⟩ : MethodName)) hown (hw _ (List.mem_of_getElem? (i := 5) rfl)) (hw _ (List.mem_of_getElem? (i := 6) rfl)) (hw _ (List.mem_of_getElem? (i := 7) rfl)) (hw _ (List.mem_of_getElem? (i := 8) rfl)) (by decide) (W := 0) (argsL := [(.ref b15), (.int (4 : Int32))]) (rest := []) (rm2 l Z a0 hw [] b15 (4 : Int32) (4 : Int32) kk15 [(.int (0 : Int32)), (.int (1 : Int32)), (.int (2 : Int32)), (.int (3 : Int32)), (.int (4 : Int32)), (.int (5 : Int32)), (.int (6 : Int32))] (7 : Int32) T15.heap n0 zs16 V_b15 (by decide) (fun _ => rfl)) (by decide) (by decide) (c' := 2) (s' := 13) rfl rfl (by decide) (by decide) e21 (g := (mkF m 164 #[.val (.int p1), .val (.int p2), .val (.int p3), .val (.int p4), .val (.int (6 : Int32)), .val (.ref b1), .val (.ref b15), .unset, .unset] [(.int (4 : Int32)), (.ref b15)])) rfl (by rw [hml]; rfl) (lenOf pd_0_1 rfl) rfl (by show 2 * 0 + _ ≤ _; exact Nat.le_of_eq rfl) (hb hby at_164)
  obtain ⟨hv22, N22q, e22⟩ := hQ22
  have N22 := Fr.app N21 N22q
  rw [f2, if_pos (by decide : (4 : Int32) < (7 : Int32)), if_pos (by decide : (4 : Int32) = (4 : Int32))] at hv22
  subst hv22
  obtain ⟨_, T23, Lc23, X23, hQ23, st23⟩ := own_callS X22 hx hZ (y := (⟨"com/example/varel/varel/text/EditDistanceStartPinLaw", "at", "([II)Z"⟩ : MethodName)) hown (hw _ (List.mem_of_getElem? (i := 5) rfl)) (hw _ (List.mem_of_getElem? (i := 6) rfl)) (hw _ (List.mem_of_getElem? (i := 7) rfl)) (hw _ (List.mem_of_getElem? (i := 8) rfl)) (by decide) (W := 0) (argsL := [(.ref b15), (.int (5 : Int32))]) (rest := []) (rm2 l Z a0 hw [] b15 (5 : Int32) (5 : Int32) kk15 [(.int (0 : Int32)), (.int (1 : Int32)), (.int (2 : Int32)), (.int (3 : Int32)), (.int (4 : Int32)), (.int (5 : Int32)), (.int (6 : Int32))] (7 : Int32) T15.heap n0 zs16 V_b15 (by decide) (fun _ => rfl)) (by decide) (by decide) (c' := 2) (s' := 13) rfl rfl (by decide) (by decide) e22 (g := (mkF m 173 #[.val (.int p1), .val (.int p2), .val (.int p3), .val (.int p4), .val (.int (6 : Int32)), .val (.ref b1), .val (.ref b15), .unset, .unset] [(.int (5 : Int32)), (.ref b15)])) rfl (by rw [hml]; rfl) (lenOf pd_0_1 rfl) rfl (by show 2 * 0 + _ ≤ _; exact Nat.le_of_eq rfl) (hb hby at_173)
  obtain ⟨hv23, N23q, e23⟩ := hQ23
  have N23 := Fr.app N22 N23q
  rw [f2, if_pos (by decide : (5 : Int32) < (7 : Int32)), if_pos (by decide : (5 : Int32) = (5 : Int32))] at hv23
  subst hv23
  obtain ⟨_, T24, Lc24, X24, hQ24, st24⟩ := own_callS X23 hx hZ (y := (⟨"com/example/varel/varel/text/EditDistanceStartPinLaw", "at", "([II)Z"⟩ : MethodName)) hown (hw _ (List.mem_of_getElem? (i := 5) rfl)) (hw _ (List.mem_of_getElem? (i := 6) rfl)) (hw _ (List.mem_of_getElem? (i := 7) rfl)) (hw _ (List.mem_of_getElem? (i := 8) rfl)) (by decide) (W := 0) (argsL := [(.ref b15), (.int (6 : Int32))]) (rest := []) (rm2 l Z a0 hw [] b15 (6 : Int32) (6 : Int32) kk15 [(.int (0 : Int32)), (.int (1 : Int32)), (.int (2 : Int32)), (.int (3 : Int32)), (.int (4 : Int32)), (.int (5 : Int32)), (.int (6 : Int32))] (7 : Int32) T15.heap n0 zs16 V_b15 (by decide) (fun _ => rfl)) (by decide) (by decide) (c' := 2) (s' := 13) rfl rfl (by decide) (by decide) e23 (g := (mkF m 183 #[.val (.int p1), .val (.int p2), .val (.int p3), .val (.int p4), .val (.int (6 : Int32)), .val (.ref b1), .val (.ref b15), .unset, .unset] [(.int (6 : Int32)), (.ref b15)])) rfl (by rw [hml]; rfl) (lenOf pd_0_1 rfl) rfl (by show 2 * 0 + _ ≤ _; exact Nat.le_of_eq rfl) (hb hby at_183)
  obtain ⟨hv24, N24q, e24⟩ := hQ24
  have N24 := Fr.app N23 N24q
  rw [f2, if_pos (by decide : (6 : Int32) < (7 : Int32)), if_pos (by decide : (6 : Int32) = (6 : Int32))] at hv24
  subst hv24
  obtain ⟨_, T25, Lc25, X25, hQ25, st25⟩ := own_callS X24 hx hZ (y := (⟨"com/example/varel/varel/text/EditDistanceStartPinLaw", "at", "([II)Z"⟩ : MethodName)) hown (hw _ (List.mem_of_getElem? (i := 5) rfl)) (hw _ (List.mem_of_getElem? (i := 6) rfl)) (hw _ (List.mem_of_getElem? (i := 7) rfl)) (hw _ (List.mem_of_getElem? (i := 8) rfl)) (by decide) (W := 0) (argsL := [(.ref b15), (.int (7 : Int32))]) (rest := []) (rm2 l Z a0 hw [] b15 (7 : Int32) (0 : Int32) kk15 [(.int (0 : Int32)), (.int (1 : Int32)), (.int (2 : Int32)), (.int (3 : Int32)), (.int (4 : Int32)), (.int (5 : Int32)), (.int (6 : Int32))] (7 : Int32) T15.heap n0 zs16 V_b15 (by decide) (fun h => absurd h (by decide))) (by decide) (by decide) (c' := 2) (s' := 13) rfl rfl (by decide) (by decide) e24 (g := (mkF m 193 #[.val (.int p1), .val (.int p2), .val (.int p3), .val (.int p4), .val (.int (6 : Int32)), .val (.ref b1), .val (.ref b15), .unset, .unset] [(.int (7 : Int32)), (.ref b15)])) rfl (by rw [hml]; rfl) (lenOf pd_0_1 rfl) rfl (by show 2 * 0 + _ ≤ _; exact Nat.le_of_eq rfl) (hb hby at_193)
  obtain ⟨hv25, N25q, e25⟩ := hQ25
  have N25 := Fr.app N24 N25q
  rw [f2, if_neg (by decide : ¬ ((7 : Int32) < (7 : Int32)))] at hv25
  subst hv25
  have fa26 : Arv Z T15.heap b1 k1 .int (6 : Int32) [(.int p2), (.int p3), (.int p4), (.int (p2 ^^^ p3)), (.int (p3 - p4)), (.int (p2 ^^^ (-1 : Int32)))] (.int (0 : Int32)) := (V13.keep K15 nin0)
  obtain ⟨cl27, Ar27, qq27, S27, N27_, H27, G27⟩ := id fa26
  obtain ⟨_, T28, Lc28, X28, hQ28, st28⟩ := own_callS X25 hx hZ (y := (⟨"com/example/varel/varel/text/EditDistanceStartPinLaw", "kept", "([III)Z"⟩ : MethodName)) hown (hw _ (List.mem_of_getElem? (i := 9) rfl)) (hw _ (List.mem_of_getElem? (i := 10) rfl)) (hw _ (List.mem_of_getElem? (i := 7) rfl)) (hw _ (List.mem_of_getElem? (i := 11) rfl)) (by decide) (W := 0) (argsL := [(.ref b1), (.int (0 : Int32)), (.int p2)]) (rest := []) (rm3 l Z a0 hw [] b1 (0 : Int32) p2 p2 k1 [(.int p2), (.int p3), (.int p4), (.int (p2 ^^^ p3)), (.int (p3 - p4)), (.int (p2 ^^^ (-1 : Int32)))] (6 : Int32) T15.heap n0 zs16 fa26 (by decide) (fun _ => rfl)) (by decide) (by decide) (c' := 2) (s' := 13) rfl rfl (by decide) (by decide) e25 (g := (mkF m 218 #[.val (.int p1), .val (.int p2), .val (.int p3), .val (.int p4), .val (.int (6 : Int32)), .val (.ref b1), .val (.ref b15), .val (.int (1 : Int32)), .unset] [(.int p2), (.int (0 : Int32)), (.ref b1)])) rfl (by rw [hml]; rfl) (lenOf pd_0_2 rfl) rfl (by show 2 * 0 + _ ≤ _; exact Nat.le_of_eq rfl) (hb hby at_218)
  obtain ⟨hv28, N28q, e28⟩ := hQ28
  have N28 := Fr.app N25 N28q
  rw [f3, if_pos (by decide : (0 : Int32) < (6 : Int32)), if_pos (rfl : p2 = p2)] at hv28
  subst hv28
  obtain ⟨_, T29, Lc29, X29, hQ29, st29⟩ := own_callS X28 hx hZ (y := (⟨"com/example/varel/varel/text/EditDistanceStartPinLaw", "kept", "([III)Z"⟩ : MethodName)) hown (hw _ (List.mem_of_getElem? (i := 9) rfl)) (hw _ (List.mem_of_getElem? (i := 10) rfl)) (hw _ (List.mem_of_getElem? (i := 7) rfl)) (hw _ (List.mem_of_getElem? (i := 11) rfl)) (by decide) (W := 0) (argsL := [(.ref b1), (.int (1 : Int32)), (.int p3)]) (rest := []) (rm3 l Z a0 hw [] b1 (1 : Int32) p3 p3 k1 [(.int p2), (.int p3), (.int p4), (.int (p2 ^^^ p3)), (.int (p3 - p4)), (.int (p2 ^^^ (-1 : Int32)))] (6 : Int32) T15.heap n0 zs16 fa26 (by decide) (fun _ => rfl)) (by decide) (by decide) (c' := 2) (s' := 13) rfl rfl (by decide) (by decide) e28 (g := (mkF m 228 #[.val (.int p1), .val (.int p2), .val (.int p3), .val (.int p4), .val (.int (6 : Int32)), .val (.ref b1), .val (.ref b15), .val (.int (1 : Int32)), .unset] [(.int p3), (.int (1 : Int32)), (.ref b1)])) rfl (by rw [hml]; rfl) (lenOf pd_0_2 rfl) rfl (by show 2 * 0 + _ ≤ _; exact Nat.le_of_eq rfl) (hb hby at_228)
  obtain ⟨hv29, N29q, e29⟩ := hQ29
  have N29 := Fr.app N28 N29q
  rw [f3, if_pos (by decide : (1 : Int32) < (6 : Int32)), if_pos (rfl : p3 = p3)] at hv29
  subst hv29
  obtain ⟨_, T30, Lc30, X30, hQ30, st30⟩ := own_callS X29 hx hZ (y := (⟨"com/example/varel/varel/text/EditDistanceStartPinLaw", "kept", "([III)Z"⟩ : MethodName)) hown (hw _ (List.mem_of_getElem? (i := 9) rfl)) (hw _ (List.mem_of_getElem? (i := 10) rfl)) (hw _ (List.mem_of_getElem? (i := 7) rfl)) (hw _ (List.mem_of_getElem? (i := 11) rfl)) (by decide) (W := 0) (argsL := [(.ref b1), (.int (2 : Int32)), (.int p4)]) (rest := []) (rm3 l Z a0 hw [] b1 (2 : Int32) p4 p4 k1 [(.int p2), (.int p3), (.int p4), (.int (p2 ^^^ p3)), (.int (p3 - p4)), (.int (p2 ^^^ (-1 : Int32)))] (6 : Int32) T15.heap n0 zs16 fa26 (by decide) (fun _ => rfl)) (by decide) (by decide) (c' := 2) (s' := 13) rfl rfl (by decide) (by decide) e29 (g := (mkF m 238 #[.val (.int p1), .val (.int p2), .val (.int p3), .val (.int p4), .val (.int (6 : Int32)), .val (.ref b1), .val (.ref b15), .val (.int (1 : Int32)), .unset] [(.int p4), (.int (2 : Int32)), (.ref b1)])) rfl (by rw [hml]; rfl) (lenOf pd_0_2 rfl) rfl (by show 2 * 0 + _ ≤ _; exact Nat.le_of_eq rfl) (hb hby at_238)
  obtain ⟨hv30, N30q, e30⟩ := hQ30
  have N30 := Fr.app N29 N30q
  rw [f3, if_pos (by decide : (2 : Int32) < (6 : Int32)), if_pos (rfl : p4 = p4)] at hv30
  subst hv30
  obtain ⟨_, T31, Lc31, X31, hQ31, st31⟩ := own_callS X30 hx hZ (y := (⟨"com/example/varel/varel/text/EditDistanceStartPinLaw", "kept", "([III)Z"⟩ : MethodName)) hown (hw _ (List.mem_of_getElem? (i := 9) rfl)) (hw _ (List.mem_of_getElem? (i := 10) rfl)) (hw _ (List.mem_of_getElem? (i := 7) rfl)) (hw _ (List.mem_of_getElem? (i := 11) rfl)) (by decide) (W := 0) (argsL := [(.ref b1), (.int (3 : Int32)), (.int (p2 ^^^ p3))]) (rest := []) (rm3 l Z a0 hw [] b1 (3 : Int32) (p2 ^^^ p3) (p2 ^^^ p3) k1 [(.int p2), (.int p3), (.int p4), (.int (p2 ^^^ p3)), (.int (p3 - p4)), (.int (p2 ^^^ (-1 : Int32)))] (6 : Int32) T15.heap n0 zs16 fa26 (by decide) (fun _ => rfl)) (by decide) (by decide) (c' := 2) (s' := 13) rfl rfl (by decide) (by decide) e30 (g := (mkF m 250 #[.val (.int p1), .val (.int p2), .val (.int p3), .val (.int p4), .val (.int (6 : Int32)), .val (.ref b1), .val (.ref b15), .val (.int (1 : Int32)), .unset] [(.int (p2 ^^^ p3)), (.int (3 : Int32)), (.ref b1)])) rfl (by rw [hml]; rfl) (lenOf pd_0_2 rfl) rfl (by show 2 * 0 + _ ≤ _; exact Nat.le_of_eq rfl) (hb hby at_250)
  obtain ⟨hv31, N31q, e31⟩ := hQ31
  have N31 := Fr.app N30 N31q
  rw [f3, if_pos (by decide : (3 : Int32) < (6 : Int32)), if_pos (rfl : (p2 ^^^ p3) = (p2 ^^^ p3))] at hv31
  subst hv31
  obtain ⟨_, T32, Lc32, X32, hQ32, st32⟩ := own_callS X31 hx hZ (y := (⟨"com/example/varel/varel/text/EditDistanceStartPinLaw", "kept", "([III)Z"⟩ : MethodName)) hown (hw _ (List.mem_of_getElem? (i := 9) rfl)) (hw _ (List.mem_of_getElem? (i := 10) rfl)) (hw _ (List.mem_of_getElem? (i := 7) rfl)) (hw _ (List.mem_of_getElem? (i := 11) rfl)) (by decide) (W := 0) (argsL := [(.ref b1), (.int (4 : Int32)), (.int (p3 - p4))]) (rest := []) (rm3 l Z a0 hw [] b1 (4 : Int32) (p3 - p4) (p3 - p4) k1 [(.int p2), (.int p3), (.int p4), (.int (p2 ^^^ p3)), (.int (p3 - p4)), (.int (p2 ^^^ (-1 : Int32)))] (6 : Int32) T15.heap n0 zs16 fa26 (by decide) (fun _ => rfl)) (by decide) (by decide) (c' := 2) (s' := 13) rfl rfl (by decide) (by decide) e31 (g := (mkF m 262 #[.val (.int p1), .val (.int p2), .val (.int p3), .val (.int p4), .val (.int (6 : Int32)), .val (.ref b1), .val (.ref b15), .val (.int (1 : Int32)), .unset] [(.int (p3 - p4)), (.int (4 : Int32)), (.ref b1)])) rfl (by rw [hml]; rfl) (lenOf pd_0_2 rfl) rfl (by show 2 * 0 + _ ≤ _; exact Nat.le_of_eq rfl) (hb hby at_262)
  obtain ⟨hv32, N32q, e32⟩ := hQ32
  have N32 := Fr.app N31 N32q
  rw [f3, if_pos (by decide : (4 : Int32) < (6 : Int32)), if_pos (rfl : (p3 - p4) = (p3 - p4))] at hv32
  subst hv32
  obtain ⟨_, T33, Lc33, X33, hQ33, st33⟩ := own_callS X32 hx hZ (y := (⟨"com/example/varel/varel/text/EditDistanceStartPinLaw", "kept", "([III)Z"⟩ : MethodName)) hown (hw _ (List.mem_of_getElem? (i := 9) rfl)) (hw _ (List.mem_of_getElem? (i := 10) rfl)) (hw _ (List.mem_of_getElem? (i := 7) rfl)) (hw _ (List.mem_of_getElem? (i := 11) rfl)) (by decide) (W := 0) (argsL := [(.ref b1), (.int (5 : Int32)), (.int (p2 ^^^ (-1 : Int32)))]) (rest := []) (rm3 l Z a0 hw [] b1 (5 : Int32) (p2 ^^^ (-1 : Int32)) (p2 ^^^ (-1 : Int32)) k1 [(.int p2), (.int p3), (.int p4), (.int (p2 ^^^ p3)), (.int (p3 - p4)), (.int (p2 ^^^ (-1 : Int32)))] (6 : Int32) T15.heap n0 zs16 fa26 (by decide) (fun _ => rfl)) (by decide) (by decide) (c' := 2) (s' := 13) rfl rfl (by decide) (by decide) e32 (g := (mkF m 274 #[.val (.int p1), .val (.int p2), .val (.int p3), .val (.int p4), .val (.int (6 : Int32)), .val (.ref b1), .val (.ref b15), .val (.int (1 : Int32)), .unset] [(.int (p2 ^^^ (-1 : Int32))), (.int (5 : Int32)), (.ref b1)])) rfl (by rw [hml]; rfl) (lenOf pd_0_2 rfl) rfl (by show 2 * 0 + _ ≤ _; exact Nat.le_of_eq rfl) (hb hby at_274)
  obtain ⟨hv33, N33q, e33⟩ := hQ33
  have N33 := Fr.app N32 N33q
  rw [f3, if_pos (by decide : (5 : Int32) < (6 : Int32)), if_pos (rfl : (p2 ^^^ (-1 : Int32)) = (p2 ^^^ (-1 : Int32)))] at hv33
  subst hv33
  obtain ⟨_, T34, Lc34, X34, hQ34, st34⟩ := own_callS X33 hx hZ (y := (⟨"com/example/varel/varel/text/EditDistanceStartPinLaw", "kept", "([III)Z"⟩ : MethodName)) hown (hw _ (List.mem_of_getElem? (i := 9) rfl)) (hw _ (List.mem_of_getElem? (i := 10) rfl)) (hw _ (List.mem_of_getElem? (i := 7) rfl)) (hw _ (List.mem_of_getElem? (i := 11) rfl)) (by decide) (W := 0) (argsL := [(.ref b1), (.int (6 : Int32)), (.int (p4 * (31 : Int32)))]) (rest := []) (rm3 l Z a0 hw [] b1 (6 : Int32) (p4 * (31 : Int32)) (0 : Int32) k1 [(.int p2), (.int p3), (.int p4), (.int (p2 ^^^ p3)), (.int (p3 - p4)), (.int (p2 ^^^ (-1 : Int32)))] (6 : Int32) T15.heap n0 zs16 fa26 (by decide) (fun h => absurd h (by decide))) (by decide) (by decide) (c' := 2) (s' := 13) rfl rfl (by decide) (by decide) e33 (g := (mkF m 288 #[.val (.int p1), .val (.int p2), .val (.int p3), .val (.int p4), .val (.int (6 : Int32)), .val (.ref b1), .val (.ref b15), .val (.int (1 : Int32)), .unset] [(.int (p4 * (31 : Int32))), (.int (6 : Int32)), (.ref b1)])) rfl (by rw [hml]; rfl) (lenOf pd_0_2 rfl) rfl (by show 2 * 0 + _ ≤ _; exact Nat.le_of_eq rfl) (hb hby at_288)
  obtain ⟨hv34, N34q, e34⟩ := hQ34
  have N34 := Fr.app N33 N34q
  rw [f3, if_neg (by decide : ¬ ((6 : Int32) < (6 : Int32)))] at hv34
  subst hv34
  obtain ⟨fs, hr, hrun, hended, hW, hsame⟩ := X34.leave (v := some (.int (1 : Int32))) (fun h => by rw [Bd.returns] at h; cases h)
  refine ⟨_, _, pre0 _ ?_, hrun, hended, _, _, rfl, ?_, ⟨_, rfl⟩, hW, hsame.mono (by decide) (by decide)⟩
  · show Steps p.tables e below (s₁.setTop (mkF m 0 #[.val (.int p1), .val (.int p2), .val (.int p3), .val (.int p4), .unset, .unset, .unset, .unset, .unset] [])) _
    refine own_blk X0 hx bl0_0_3 (own_hb hby bd0_0_3) (pc' := 4) (Ls' := #[.val (.int p1), .val (.int p2), .val (.int p3), .val (.int p4), .unset, .unset, .unset, .unset, .unset]) (st' := [(.int (p1 &&& (7 : Int32)))]) rfl ?_
    show Steps p.tables e below (s₁.setTop (mkF m 4 #[.val (.int p1), .val (.int p2), .val (.int p3), .val (.int p4), .unset, .unset, .unset, .unset, .unset] [(.int (p1 &&& (7 : Int32)))])) _
    rw [hn]
    show Steps p.tables e below (s₁.setTop (mkF m 4 #[.val (.int p1), .val (.int p2), .val (.int p3), .val (.int p4), .unset, .unset, .unset, .unset, .unset] [(.int (6 : Int32))])) _
    refine own_blk X0 hx bl0_4_2 (own_hb hby bd0_4_2) (pc' := 8) (Ls' := #[.val (.int p1), .val (.int p2), .val (.int p3), .val (.int p4), .val (.int (6 : Int32)), .unset, .unset, .unset, .unset]) (st' := [(.int (6 : Int32))]) rfl ?_
    show Steps p.tables e below (s₁.setTop (mkF m 8 #[.val (.int p1), .val (.int p2), .val (.int p3), .val (.int p4), .val (.int (6 : Int32)), .unset, .unset, .unset, .unset] [(.int (6 : Int32))])) _
    refine st1 _ ?_
    show Steps p.tables e below (T1.setTop (mkF m 10 #[.val (.int p1), .val (.int p2), .val (.int p3), .val (.int p4), .val (.int (6 : Int32)), .unset, .unset, .unset, .unset] [(.ref b1)])) _
    refine own_blk X1 hx bl0_10_2 (own_hb hby bd0_10_2) (pc' := 14) (Ls' := #[.val (.int p1), .val (.int p2), .val (.int p3), .val (.int p4), .val (.int (6 : Int32)), .val (.ref b1), .unset, .unset, .unset]) (st' := [(.int (6 : Int32))]) rfl ?_
    show Steps p.tables e below (T1.setTop (mkF m 14 #[.val (.int p1), .val (.int p2), .val (.int p3), .val (.int p4), .val (.int (6 : Int32)), .val (.ref b1), .unset, .unset, .unset] [(.int (6 : Int32))])) _
    refine XS.ifNo X1.here hx rfl (hb hby at_14) rfl ((if0 _ _).trans (tlt (by decide : (0 : Int32) < (6 : Int32))).2.2.2) ?_
    show Steps p.tables e below (T1.setTop (mkF m 17 #[.val (.int p1), .val (.int p2), .val (.int p3), .val (.int p4), .val (.int (6 : Int32)), .val (.ref b1), .unset, .unset, .unset] [])) _
    refine own_blk X1 hx bl0_17_3 (own_hb hby bd0_17_3) (pc' := 21) (Ls' := #[.val (.int p1), .val (.int p2), .val (.int p3), .val (.int p4), .val (.int (6 : Int32)), .val (.ref b1), .unset, .unset, .unset]) (st' := [(.int p2), (.int (0 : Int32)), (.ref b1)]) rfl ?_
    show Steps p.tables e below (T1.setTop (mkF m 21 #[.val (.int p1), .val (.int p2), .val (.int p3), .val (.int p4), .val (.int (6 : Int32)), .val (.ref b1), .unset, .unset, .unset] [(.int p2), (.int (0 : Int32)), (.ref b1)])) _
    refine st3 _ ?_
    show Steps p.tables e below (T3.setTop (mkF m 22 #[.val (.int p1), .val (.int p2), .val (.int p3), .val (.int p4), .val (.int (6 : Int32)), .val (.ref b1), .unset, .unset, .unset] [])) _
    refine own_blk X3 hx bl0_22_2 (own_hb hby bd0_22_2) (pc' := 25) (Ls' := #[.val (.int p1), .val (.int p2), .val (.int p3), .val (.int p4), .val (.int (6 : Int32)), .val (.ref b1), .unset, .unset, .unset]) (st' := [(.int (1 : Int32)), (.int (6 : Int32))]) rfl ?_
    show Steps p.tables e below (T3.setTop (mkF m 25 #[.val (.int p1), .val (.int p2), .val (.int p3), .val (.int p4), .val (.int (6 : Int32)), .val (.ref b1), .unset, .unset, .unset] [(.int (1 : Int32)), (.int (6 : Int32))])) _
    refine XS.icmpNo X3.here hx rfl (hb hby at_25) rfl (tlt (by decide : (1 : Int32) < (6 : Int32))).2.2.2 ?_
    show Steps p.tables e below (T3.setTop (mkF m 28 #[.val (.int p1), .val (.int p2), .val (.int p3), .val (.int p4), .val (.int (6 : Int32)), .val (.ref b1), .unset, .unset, .unset] [])) _
    refine own_blk X3 hx bl0_28_3 (own_hb hby bd0_28_3) (pc' := 32) (Ls' := #[.val (.int p1), .val (.int p2), .val (.int p3), .val (.int p4), .val (.int (6 : Int32)), .val (.ref b1), .unset, .unset, .unset]) (st' := [(.int p3), (.int (1 : Int32)), (.ref b1)]) rfl ?_
    show Steps p.tables e below (T3.setTop (mkF m 32 #[.val (.int p1), .val (.int p2), .val (.int p3), .val (.int p4), .val (.int (6 : Int32)), .val (.ref b1), .unset, .unset, .unset] [(.int p3), (.int (1 : Int32)), (.ref b1)])) _
    refine st5 _ ?_
    show Steps p.tables e below (T5.setTop (mkF m 33 #[.val (.int p1), .val (.int p2), .val (.int p3), .val (.int p4), .val (.int (6 : Int32)), .val (.ref b1), .unset, .unset, .unset] [])) _
    refine own_blk X5 hx bl0_33_2 (own_hb hby bd0_33_2) (pc' := 36) (Ls' := #[.val (.int p1), .val (.int p2), .val (.int p3), .val (.int p4), .val (.int (6 : Int32)), .val (.ref b1), .unset, .unset, .unset]) (st' := [(.int (2 : Int32)), (.int (6 : Int32))]) rfl ?_
    show Steps p.tables e below (T5.setTop (mkF m 36 #[.val (.int p1), .val (.int p2), .val (.int p3), .val (.int p4), .val (.int (6 : Int32)), .val (.ref b1), .unset, .unset, .unset] [(.int (2 : Int32)), (.int (6 : Int32))])) _
    refine XS.icmpNo X5.here hx rfl (hb hby at_36) rfl (tlt (by decide : (2 : Int32) < (6 : Int32))).2.2.2 ?_
    show Steps p.tables e below (T5.setTop (mkF m 39 #[.val (.int p1), .val (.int p2), .val (.int p3), .val (.int p4), .val (.int (6 : Int32)), .val (.ref b1), .unset, .unset, .unset] [])) _
    refine own_blk X5 hx bl0_39_3 (own_hb hby bd0_39_3) (pc' := 43) (Ls' := #[.val (.int p1), .val (.int p2), .val (.int p3), .val (.int p4), .val (.int (6 : Int32)), .val (.ref b1), .unset, .unset, .unset]) (st' := [(.int p4), (.int (2 : Int32)), (.ref b1)]) rfl ?_
    show Steps p.tables e below (T5.setTop (mkF m 43 #[.val (.int p1), .val (.int p2), .val (.int p3), .val (.int p4), .val (.int (6 : Int32)), .val (.ref b1), .unset, .unset, .unset] [(.int p4), (.int (2 : Int32)), (.ref b1)])) _
    refine st7 _ ?_
    show Steps p.tables e below (T7.setTop (mkF m 44 #[.val (.int p1), .val (.int p2), .val (.int p3), .val (.int p4), .val (.int (6 : Int32)), .val (.ref b1), .unset, .unset, .unset] [])) _
    refine own_blk X7 hx bl0_44_2 (own_hb hby bd0_44_2) (pc' := 47) (Ls' := #[.val (.int p1), .val (.int p2), .val (.int p3), .val (.int p4), .val (.int (6 : Int32)), .val (.ref b1), .unset, .unset, .unset]) (st' := [(.int (3 : Int32)), (.int (6 : Int32))]) rfl ?_
    show Steps p.tables e below (T7.setTop (mkF m 47 #[.val (.int p1), .val (.int p2), .val (.int p3), .val (.int p4), .val (.int (6 : Int32)), .val (.ref b1), .unset, .unset, .unset] [(.int (3 : Int32)), (.int (6 : Int32))])) _
    refine XS.icmpNo X7.here hx rfl (hb hby at_47) rfl (tlt (by decide : (3 : Int32) < (6 : Int32))).2.2.2 ?_
    show Steps p.tables e below (T7.setTop (mkF m 50 #[.val (.int p1), .val (.int p2), .val (.int p3), .val (.int p4), .val (.int (6 : Int32)), .val (.ref b1), .unset, .unset, .unset] [])) _
    refine own_blk X7 hx bl0_50_5 (own_hb hby bd0_50_5) (pc' := 56) (Ls' := #[.val (.int p1), .val (.int p2), .val (.int p3), .val (.int p4), .val (.int (6 : Int32)), .val (.ref b1), .unset, .unset, .unset]) (st' := [(.int (p2 ^^^ p3)), (.int (3 : Int32)), (.ref b1)]) rfl ?_
    show Steps p.tables e below (T7.setTop (mkF m 56 #[.val (.int p1), .val (.int p2), .val (.int p3), .val (.int p4), .val (.int (6 : Int32)), .val (.ref b1), .unset, .unset, .unset] [(.int (p2 ^^^ p3)), (.int (3 : Int32)), (.ref b1)])) _
    refine st9 _ ?_
    show Steps p.tables e below (T9.setTop (mkF m 57 #[.val (.int p1), .val (.int p2), .val (.int p3), .val (.int p4), .val (.int (6 : Int32)), .val (.ref b1), .unset, .unset, .unset] [])) _
    refine own_blk X9 hx bl0_57_2 (own_hb hby bd0_57_2) (pc' := 60) (Ls' := #[.val (.int p1), .val (.int p2), .val (.int p3), .val (.int p4), .val (.int (6 : Int32)), .val (.ref b1), .unset, .unset, .unset]) (st' := [(.int (4 : Int32)), (.int (6 : Int32))]) rfl ?_
    show Steps p.tables e below (T9.setTop (mkF m 60 #[.val (.int p1), .val (.int p2), .val (.int p3), .val (.int p4), .val (.int (6 : Int32)), .val (.ref b1), .unset, .unset, .unset] [(.int (4 : Int32)), (.int (6 : Int32))])) _
    refine XS.icmpNo X9.here hx rfl (hb hby at_60) rfl (tlt (by decide : (4 : Int32) < (6 : Int32))).2.2.2 ?_
    show Steps p.tables e below (T9.setTop (mkF m 63 #[.val (.int p1), .val (.int p2), .val (.int p3), .val (.int p4), .val (.int (6 : Int32)), .val (.ref b1), .unset, .unset, .unset] [])) _
    refine own_blk X9 hx bl0_63_5 (own_hb hby bd0_63_5) (pc' := 69) (Ls' := #[.val (.int p1), .val (.int p2), .val (.int p3), .val (.int p4), .val (.int (6 : Int32)), .val (.ref b1), .unset, .unset, .unset]) (st' := [(.int (p3 - p4)), (.int (4 : Int32)), (.ref b1)]) rfl ?_
    show Steps p.tables e below (T9.setTop (mkF m 69 #[.val (.int p1), .val (.int p2), .val (.int p3), .val (.int p4), .val (.int (6 : Int32)), .val (.ref b1), .unset, .unset, .unset] [(.int (p3 - p4)), (.int (4 : Int32)), (.ref b1)])) _
    refine st11 _ ?_
    show Steps p.tables e below (T11.setTop (mkF m 70 #[.val (.int p1), .val (.int p2), .val (.int p3), .val (.int p4), .val (.int (6 : Int32)), .val (.ref b1), .unset, .unset, .unset] [])) _
    refine own_blk X11 hx bl0_70_2 (own_hb hby bd0_70_2) (pc' := 73) (Ls' := #[.val (.int p1), .val (.int p2), .val (.int p3), .val (.int p4), .val (.int (6 : Int32)), .val (.ref b1), .unset, .unset, .unset]) (st' := [(.int (5 : Int32)), (.int (6 : Int32))]) rfl ?_
    show Steps p.tables e below (T11.setTop (mkF m 73 #[.val (.int p1), .val (.int p2), .val (.int p3), .val (.int p4), .val (.int (6 : Int32)), .val (.ref b1), .unset, .unset, .unset] [(.int (5 : Int32)), (.int (6 : Int32))])) _
    refine XS.icmpNo X11.here hx rfl (hb hby at_73) rfl (tlt (by decide : (5 : Int32) < (6 : Int32))).2.2.2 ?_
    show Steps p.tables e below (T11.setTop (mkF m 76 #[.val (.int p1), .val (.int p2), .val (.int p3), .val (.int p4), .val (.int (6 : Int32)), .val (.ref b1), .unset, .unset, .unset] [])) _
    refine own_blk X11 hx bl0_76_5 (own_hb hby bd0_76_5) (pc' := 82) (Ls' := #[.val (.int p1), .val (.int p2), .val (.int p3), .val (.int p4), .val (.int (6 : Int32)), .val (.ref b1), .unset, .unset, .unset]) (st' := [(.int (p2 ^^^ (-1 : Int32))), (.int (5 : Int32)), (.ref b1)]) rfl ?_
    show Steps p.tables e below (T11.setTop (mkF m 82 #[.val (.int p1), .val (.int p2), .val (.int p3), .val (.int p4), .val (.int (6 : Int32)), .val (.ref b1), .unset, .unset, .unset] [(.int (p2 ^^^ (-1 : Int32))), (.int (5 : Int32)), (.ref b1)])) _
    refine st13 _ ?_
    show Steps p.tables e below (T13.setTop (mkF m 83 #[.val (.int p1), .val (.int p2), .val (.int p3), .val (.int p4), .val (.int (6 : Int32)), .val (.ref b1), .unset, .unset, .unset] [])) _
    refine own_blk X13 hx bl0_83_2 (own_hb hby bd0_83_2) (pc' := 87) (Ls' := #[.val (.int p1), .val (.int p2), .val (.int p3), .val (.int p4), .val (.int (6 : Int32)), .val (.ref b1), .unset, .unset, .unset]) (st' := [(.int (6 : Int32)), (.int (6 : Int32))]) rfl ?_
    show Steps p.tables e below (T13.setTop (mkF m 87 #[.val (.int p1), .val (.int p2), .val (.int p3), .val (.int p4), .val (.int (6 : Int32)), .val (.ref b1), .unset, .unset, .unset] [(.int (6 : Int32)), (.int (6 : Int32))])) _
    refine XS.icmpYes X13.here hx rfl (pc0 := 87) (pc' := 99) rfl (hb hby at_87) rfl (flt (by decide : ¬ ((6 : Int32) < (6 : Int32)))).2.2.2 (by decide) (by decide) ?_
    show Steps p.tables e below (T13.setTop (mkF m 99 #[.val (.int p1), .val (.int p2), .val (.int p3), .val (.int p4), .val (.int (6 : Int32)), .val (.ref b1), .unset, .unset, .unset] [])) _
    refine own_blk X13 hx bl0_99_1 (own_hb hby bd0_99_1) (pc' := 101) (Ls' := #[.val (.int p1), .val (.int p2), .val (.int p3), .val (.int p4), .val (.int (6 : Int32)), .val (.ref b1), .unset, .unset, .unset]) (st' := [(.ref b1)]) rfl ?_
    show Steps p.tables e below (T13.setTop (mkF m 101 #[.val (.int p1), .val (.int p2), .val (.int p3), .val (.int p4), .val (.int (6 : Int32)), .val (.ref b1), .unset, .unset, .unset] [(.ref b1)])) _
    refine st15 _ ?_
    show Steps p.tables e below (T15.setTop (mkF m 104 #[.val (.int p1), .val (.int p2), .val (.int p3), .val (.int p4), .val (.int (6 : Int32)), .val (.ref b1), .unset, .unset, .unset] [(.ref b15)])) _
    refine own_blk X15 hx bl0_104_2 (own_hb hby bd0_104_2) (pc' := 108) (Ls' := #[.val (.int p1), .val (.int p2), .val (.int p3), .val (.int p4), .val (.int (6 : Int32)), .val (.ref b1), .val (.ref b15), .unset, .unset]) (st' := [(.ref b15)]) rfl ?_
    show Steps p.tables e below (T15.setTop (mkF m 108 #[.val (.int p1), .val (.int p2), .val (.int p3), .val (.int p4), .val (.int (6 : Int32)), .val (.ref b1), .val (.ref b15), .unset, .unset] [(.ref b15)])) _
    refine XS.ifnonnullYes X15.here hx rfl (pc0 := 108) (pc' := 113) rfl (hb hby at_108) rfl (by decide) (by decide) ?_
    show Steps p.tables e below (T15.setTop (mkF m 113 #[.val (.int p1), .val (.int p2), .val (.int p3), .val (.int p4), .val (.int (6 : Int32)), .val (.ref b1), .val (.ref b15), .unset, .unset] [])) _
    refine own_blk X15 hx bl0_113_1 (own_hb hby bd0_113_1) (pc' := 115) (Ls' := #[.val (.int p1), .val (.int p2), .val (.int p3), .val (.int p4), .val (.int (6 : Int32)), .val (.ref b1), .val (.ref b15), .unset, .unset]) (st' := [(.ref b15)]) rfl ?_
    show Steps p.tables e below (T15.setTop (mkF m 115 #[.val (.int p1), .val (.int p2), .val (.int p3), .val (.int p4), .val (.int (6 : Int32)), .val (.ref b1), .val (.ref b15), .unset, .unset] [(.ref b15)])) _
    refine X15.arraylength hx Ar17.1 (State.isArrayOf_alike hZ.alike Ar17.2.1) (g := (mkF m 115 #[.val (.int p1), .val (.int p2), .val (.int p3), .val (.int p4), .val (.int (6 : Int32)), .val (.ref b1), .val (.ref b15), .unset, .unset] [(.ref b15)])) rfl rfl (hb hby at_115) _ ?_
    rw [len_of S17 N17_]
    show Steps p.tables e below (T15.setTop (mkF m 116 #[.val (.int p1), .val (.int p2), .val (.int p3), .val (.int p4), .val (.int (6 : Int32)), .val (.ref b1), .val (.ref b15), .unset, .unset] [(.int (7 : Int32))])) _
    refine own_blk X15 hx bl0_116_3 (own_hb hby bd0_116_3) (pc' := 120) (Ls' := #[.val (.int p1), .val (.int p2), .val (.int p3), .val (.int p4), .val (.int (6 : Int32)), .val (.ref b1), .val (.ref b15), .unset, .unset]) (st' := [(.int (7 : Int32)), (.int (7 : Int32))]) rfl ?_
    show Steps p.tables e below (T15.setTop (mkF m 120 #[.val (.int p1), .val (.int p2), .val (.int p3), .val (.int p4), .val (.int (6 : Int32)), .val (.ref b1), .val (.ref b15), .unset, .unset] [(.int (7 : Int32)), (.int (7 : Int32))])) _
    refine XS.icmpYes X15.here hx rfl (pc0 := 120) (pc' := 125) rfl (hb hby at_120) rfl (teq (by decide : (7 : Int32) = (7 : Int32))).1 (by decide) (by decide) ?_
    show Steps p.tables e below (T15.setTop (mkF m 125 #[.val (.int p1), .val (.int p2), .val (.int p3), .val (.int p4), .val (.int (6 : Int32)), .val (.ref b1), .val (.ref b15), .unset, .unset] [])) _
    refine own_blk X15 hx bl0_125_2 (own_hb hby bd0_125_2) (pc' := 128) (Ls' := #[.val (.int p1), .val (.int p2), .val (.int p3), .val (.int p4), .val (.int (6 : Int32)), .val (.ref b1), .val (.ref b15), .unset, .unset]) (st' := [(.int (0 : Int32)), (.ref b15)]) rfl ?_
    show Steps p.tables e below (T15.setTop (mkF m 128 #[.val (.int p1), .val (.int p2), .val (.int p3), .val (.int p4), .val (.int (6 : Int32)), .val (.ref b1), .val (.ref b15), .unset, .unset] [(.int (0 : Int32)), (.ref b15)])) _
    refine st18 _ ?_
    show Steps p.tables e below (T18.setTop (mkF m 131 #[.val (.int p1), .val (.int p2), .val (.int p3), .val (.int p4), .val (.int (6 : Int32)), .val (.ref b1), .val (.ref b15), .unset, .unset] [(.int (1 : Int32))])) _
    refine XS.ifNo X18.here hx rfl (hb hby at_131) rfl ((if0 _ _).trans (feq (by decide : ¬ ((1 : Int32) = (0 : Int32)))).1) ?_
    show Steps p.tables e below (T18.setTop (mkF m 134 #[.val (.int p1), .val (.int p2), .val (.int p3), .val (.int p4), .val (.int (6 : Int32)), .val (.ref b1), .val (.ref b15), .unset, .unset] [])) _
    refine own_blk X18 hx bl0_134_2 (own_hb hby bd0_134_2) (pc' := 137) (Ls' := #[.val (.int p1), .val (.int p2), .val (.int p3), .val (.int p4), .val (.int (6 : Int32)), .val (.ref b1), .val (.ref b15), .unset, .unset]) (st' := [(.int (1 : Int32)), (.ref b15)]) rfl ?_
    show Steps p.tables e below (T18.setTop (mkF m 137 #[.val (.int p1), .val (.int p2), .val (.int p3), .val (.int p4), .val (.int (6 : Int32)), .val (.ref b1), .val (.ref b15), .unset, .unset] [(.int (1 : Int32)), (.ref b15)])) _
    refine st19 _ ?_
    show Steps p.tables e below (T19.setTop (mkF m 140 #[.val (.int p1), .val (.int p2), .val (.int p3), .val (.int p4), .val (.int (6 : Int32)), .val (.ref b1), .val (.ref b15), .unset, .unset] [(.int (1 : Int32))])) _
    refine XS.ifNo X19.here hx rfl (hb hby at_140) rfl ((if0 _ _).trans (feq (by decide : ¬ ((1 : Int32) = (0 : Int32)))).1) ?_
    show Steps p.tables e below (T19.setTop (mkF m 143 #[.val (.int p1), .val (.int p2), .val (.int p3), .val (.int p4), .val (.int (6 : Int32)), .val (.ref b1), .val (.ref b15), .unset, .unset] [])) _
    refine own_blk X19 hx bl0_143_2 (own_hb hby bd0_143_2) (pc' := 146) (Ls' := #[.val (.int p1), .val (.int p2), .val (.int p3), .val (.int p4), .val (.int (6 : Int32)), .val (.ref b1), .val (.ref b15), .unset, .unset]) (st' := [(.int (2 : Int32)), (.ref b15)]) rfl ?_
    show Steps p.tables e below (T19.setTop (mkF m 146 #[.val (.int p1), .val (.int p2), .val (.int p3), .val (.int p4), .val (.int (6 : Int32)), .val (.ref b1), .val (.ref b15), .unset, .unset] [(.int (2 : Int32)), (.ref b15)])) _
    refine st20 _ ?_
    show Steps p.tables e below (T20.setTop (mkF m 149 #[.val (.int p1), .val (.int p2), .val (.int p3), .val (.int p4), .val (.int (6 : Int32)), .val (.ref b1), .val (.ref b15), .unset, .unset] [(.int (1 : Int32))])) _
    refine XS.ifNo X20.here hx rfl (hb hby at_149) rfl ((if0 _ _).trans (feq (by decide : ¬ ((1 : Int32) = (0 : Int32)))).1) ?_
    show Steps p.tables e below (T20.setTop (mkF m 152 #[.val (.int p1), .val (.int p2), .val (.int p3), .val (.int p4), .val (.int (6 : Int32)), .val (.ref b1), .val (.ref b15), .unset, .unset] [])) _
    refine own_blk X20 hx bl0_152_2 (own_hb hby bd0_152_2) (pc' := 155) (Ls' := #[.val (.int p1), .val (.int p2), .val (.int p3), .val (.int p4), .val (.int (6 : Int32)), .val (.ref b1), .val (.ref b15), .unset, .unset]) (st' := [(.int (3 : Int32)), (.ref b15)]) rfl ?_
    show Steps p.tables e below (T20.setTop (mkF m 155 #[.val (.int p1), .val (.int p2), .val (.int p3), .val (.int p4), .val (.int (6 : Int32)), .val (.ref b1), .val (.ref b15), .unset, .unset] [(.int (3 : Int32)), (.ref b15)])) _
    refine st21 _ ?_
    show Steps p.tables e below (T21.setTop (mkF m 158 #[.val (.int p1), .val (.int p2), .val (.int p3), .val (.int p4), .val (.int (6 : Int32)), .val (.ref b1), .val (.ref b15), .unset, .unset] [(.int (1 : Int32))])) _
    refine XS.ifNo X21.here hx rfl (hb hby at_158) rfl ((if0 _ _).trans (feq (by decide : ¬ ((1 : Int32) = (0 : Int32)))).1) ?_
    show Steps p.tables e below (T21.setTop (mkF m 161 #[.val (.int p1), .val (.int p2), .val (.int p3), .val (.int p4), .val (.int (6 : Int32)), .val (.ref b1), .val (.ref b15), .unset, .unset] [])) _
    refine own_blk X21 hx bl0_161_2 (own_hb hby bd0_161_2) (pc' := 164) (Ls' := #[.val (.int p1), .val (.int p2), .val (.int p3), .val (.int p4), .val (.int (6 : Int32)), .val (.ref b1), .val (.ref b15), .unset, .unset]) (st' := [(.int (4 : Int32)), (.ref b15)]) rfl ?_
    show Steps p.tables e below (T21.setTop (mkF m 164 #[.val (.int p1), .val (.int p2), .val (.int p3), .val (.int p4), .val (.int (6 : Int32)), .val (.ref b1), .val (.ref b15), .unset, .unset] [(.int (4 : Int32)), (.ref b15)])) _
    refine st22 _ ?_
    show Steps p.tables e below (T22.setTop (mkF m 167 #[.val (.int p1), .val (.int p2), .val (.int p3), .val (.int p4), .val (.int (6 : Int32)), .val (.ref b1), .val (.ref b15), .unset, .unset] [(.int (1 : Int32))])) _
    refine XS.ifNo X22.here hx rfl (hb hby at_167) rfl ((if0 _ _).trans (feq (by decide : ¬ ((1 : Int32) = (0 : Int32)))).1) ?_
    show Steps p.tables e below (T22.setTop (mkF m 170 #[.val (.int p1), .val (.int p2), .val (.int p3), .val (.int p4), .val (.int (6 : Int32)), .val (.ref b1), .val (.ref b15), .unset, .unset] [])) _
    refine own_blk X22 hx bl0_170_2 (own_hb hby bd0_170_2) (pc' := 173) (Ls' := #[.val (.int p1), .val (.int p2), .val (.int p3), .val (.int p4), .val (.int (6 : Int32)), .val (.ref b1), .val (.ref b15), .unset, .unset]) (st' := [(.int (5 : Int32)), (.ref b15)]) rfl ?_
    show Steps p.tables e below (T22.setTop (mkF m 173 #[.val (.int p1), .val (.int p2), .val (.int p3), .val (.int p4), .val (.int (6 : Int32)), .val (.ref b1), .val (.ref b15), .unset, .unset] [(.int (5 : Int32)), (.ref b15)])) _
    refine st23 _ ?_
    show Steps p.tables e below (T23.setTop (mkF m 176 #[.val (.int p1), .val (.int p2), .val (.int p3), .val (.int p4), .val (.int (6 : Int32)), .val (.ref b1), .val (.ref b15), .unset, .unset] [(.int (1 : Int32))])) _
    refine XS.ifNo X23.here hx rfl (hb hby at_176) rfl ((if0 _ _).trans (feq (by decide : ¬ ((1 : Int32) = (0 : Int32)))).1) ?_
    show Steps p.tables e below (T23.setTop (mkF m 179 #[.val (.int p1), .val (.int p2), .val (.int p3), .val (.int p4), .val (.int (6 : Int32)), .val (.ref b1), .val (.ref b15), .unset, .unset] [])) _
    refine own_blk X23 hx bl0_179_2 (own_hb hby bd0_179_2) (pc' := 183) (Ls' := #[.val (.int p1), .val (.int p2), .val (.int p3), .val (.int p4), .val (.int (6 : Int32)), .val (.ref b1), .val (.ref b15), .unset, .unset]) (st' := [(.int (6 : Int32)), (.ref b15)]) rfl ?_
    show Steps p.tables e below (T23.setTop (mkF m 183 #[.val (.int p1), .val (.int p2), .val (.int p3), .val (.int p4), .val (.int (6 : Int32)), .val (.ref b1), .val (.ref b15), .unset, .unset] [(.int (6 : Int32)), (.ref b15)])) _
    refine st24 _ ?_
    show Steps p.tables e below (T24.setTop (mkF m 186 #[.val (.int p1), .val (.int p2), .val (.int p3), .val (.int p4), .val (.int (6 : Int32)), .val (.ref b1), .val (.ref b15), .unset, .unset] [(.int (1 : Int32))])) _
    refine XS.ifNo X24.here hx rfl (hb hby at_186) rfl ((if0 _ _).trans (feq (by decide : ¬ ((1 : Int32) = (0 : Int32)))).1) ?_
    show Steps p.tables e below (T24.setTop (mkF m 189 #[.val (.int p1), .val (.int p2), .val (.int p3), .val (.int p4), .val (.int (6 : Int32)), .val (.ref b1), .val (.ref b15), .unset, .unset] [])) _
    refine own_blk X24 hx bl0_189_2 (own_hb hby bd0_189_2) (pc' := 193) (Ls' := #[.val (.int p1), .val (.int p2), .val (.int p3), .val (.int p4), .val (.int (6 : Int32)), .val (.ref b1), .val (.ref b15), .unset, .unset]) (st' := [(.int (7 : Int32)), (.ref b15)]) rfl ?_
    show Steps p.tables e below (T24.setTop (mkF m 193 #[.val (.int p1), .val (.int p2), .val (.int p3), .val (.int p4), .val (.int (6 : Int32)), .val (.ref b1), .val (.ref b15), .unset, .unset] [(.int (7 : Int32)), (.ref b15)])) _
    refine st25 _ ?_
    show Steps p.tables e below (T25.setTop (mkF m 196 #[.val (.int p1), .val (.int p2), .val (.int p3), .val (.int p4), .val (.int (6 : Int32)), .val (.ref b1), .val (.ref b15), .unset, .unset] [(.int (1 : Int32))])) _
    refine XS.ifNo X25.here hx rfl (hb hby at_196) rfl ((if0 _ _).trans (feq (by decide : ¬ ((1 : Int32) = (0 : Int32)))).1) ?_
    show Steps p.tables e below (T25.setTop (mkF m 199 #[.val (.int p1), .val (.int p2), .val (.int p3), .val (.int p4), .val (.int (6 : Int32)), .val (.ref b1), .val (.ref b15), .unset, .unset] [])) _
    refine own_blk X25 hx bl0_199_4 (own_hb hby bd0_199_4) (pc' := 208) (Ls' := #[.val (.int p1), .val (.int p2), .val (.int p3), .val (.int p4), .val (.int (6 : Int32)), .val (.ref b1), .val (.ref b15), .val (.int (1 : Int32)), .unset]) (st' := [(.ref b1)]) rfl ?_
    show Steps p.tables e below (T25.setTop (mkF m 208 #[.val (.int p1), .val (.int p2), .val (.int p3), .val (.int p4), .val (.int (6 : Int32)), .val (.ref b1), .val (.ref b15), .val (.int (1 : Int32)), .unset] [(.ref b1)])) _
    refine X25.arraylength hx (by rw [e25]; exact Ar27.1) (State.isArrayOf_alike hZ.alike Ar27.2.1) (g := (mkF m 208 #[.val (.int p1), .val (.int p2), .val (.int p3), .val (.int p4), .val (.int (6 : Int32)), .val (.ref b1), .val (.ref b15), .val (.int (1 : Int32)), .unset] [(.ref b1)])) rfl rfl (hb hby at_208) _ ?_
    rw [len_of S27 N27_]
    show Steps p.tables e below (T25.setTop (mkF m 209 #[.val (.int p1), .val (.int p2), .val (.int p3), .val (.int p4), .val (.int (6 : Int32)), .val (.ref b1), .val (.ref b15), .val (.int (1 : Int32)), .unset] [(.int (6 : Int32))])) _
    refine own_blk X25 hx bl0_209_1 (own_hb hby bd0_209_1) (pc' := 211) (Ls' := #[.val (.int p1), .val (.int p2), .val (.int p3), .val (.int p4), .val (.int (6 : Int32)), .val (.ref b1), .val (.ref b15), .val (.int (1 : Int32)), .unset]) (st' := [(.int (6 : Int32)), (.int (6 : Int32))]) rfl ?_
    show Steps p.tables e below (T25.setTop (mkF m 211 #[.val (.int p1), .val (.int p2), .val (.int p3), .val (.int p4), .val (.int (6 : Int32)), .val (.ref b1), .val (.ref b15), .val (.int (1 : Int32)), .unset] [(.int (6 : Int32)), (.int (6 : Int32))])) _
    refine XS.icmpNo X25.here hx rfl (hb hby at_211) rfl (teq (by decide : (6 : Int32) = (6 : Int32))).2 ?_
    show Steps p.tables e below (T25.setTop (mkF m 214 #[.val (.int p1), .val (.int p2), .val (.int p3), .val (.int p4), .val (.int (6 : Int32)), .val (.ref b1), .val (.ref b15), .val (.int (1 : Int32)), .unset] [])) _
    refine own_blk X25 hx bl0_214_3 (own_hb hby bd0_214_3) (pc' := 218) (Ls' := #[.val (.int p1), .val (.int p2), .val (.int p3), .val (.int p4), .val (.int (6 : Int32)), .val (.ref b1), .val (.ref b15), .val (.int (1 : Int32)), .unset]) (st' := [(.int p2), (.int (0 : Int32)), (.ref b1)]) rfl ?_
    show Steps p.tables e below (T25.setTop (mkF m 218 #[.val (.int p1), .val (.int p2), .val (.int p3), .val (.int p4), .val (.int (6 : Int32)), .val (.ref b1), .val (.ref b15), .val (.int (1 : Int32)), .unset] [(.int p2), (.int (0 : Int32)), (.ref b1)])) _
    refine st28 _ ?_
    show Steps p.tables e below (T28.setTop (mkF m 221 #[.val (.int p1), .val (.int p2), .val (.int p3), .val (.int p4), .val (.int (6 : Int32)), .val (.ref b1), .val (.ref b15), .val (.int (1 : Int32)), .unset] [(.int (1 : Int32))])) _
    refine XS.ifNo X28.here hx rfl (hb hby at_221) rfl ((if0 _ _).trans (feq (by decide : ¬ ((1 : Int32) = (0 : Int32)))).1) ?_
    show Steps p.tables e below (T28.setTop (mkF m 224 #[.val (.int p1), .val (.int p2), .val (.int p3), .val (.int p4), .val (.int (6 : Int32)), .val (.ref b1), .val (.ref b15), .val (.int (1 : Int32)), .unset] [])) _
    refine own_blk X28 hx bl0_224_3 (own_hb hby bd0_224_3) (pc' := 228) (Ls' := #[.val (.int p1), .val (.int p2), .val (.int p3), .val (.int p4), .val (.int (6 : Int32)), .val (.ref b1), .val (.ref b15), .val (.int (1 : Int32)), .unset]) (st' := [(.int p3), (.int (1 : Int32)), (.ref b1)]) rfl ?_
    show Steps p.tables e below (T28.setTop (mkF m 228 #[.val (.int p1), .val (.int p2), .val (.int p3), .val (.int p4), .val (.int (6 : Int32)), .val (.ref b1), .val (.ref b15), .val (.int (1 : Int32)), .unset] [(.int p3), (.int (1 : Int32)), (.ref b1)])) _
    refine st29 _ ?_
    show Steps p.tables e below (T29.setTop (mkF m 231 #[.val (.int p1), .val (.int p2), .val (.int p3), .val (.int p4), .val (.int (6 : Int32)), .val (.ref b1), .val (.ref b15), .val (.int (1 : Int32)), .unset] [(.int (1 : Int32))])) _
    refine XS.ifNo X29.here hx rfl (hb hby at_231) rfl ((if0 _ _).trans (feq (by decide : ¬ ((1 : Int32) = (0 : Int32)))).1) ?_
    show Steps p.tables e below (T29.setTop (mkF m 234 #[.val (.int p1), .val (.int p2), .val (.int p3), .val (.int p4), .val (.int (6 : Int32)), .val (.ref b1), .val (.ref b15), .val (.int (1 : Int32)), .unset] [])) _
    refine own_blk X29 hx bl0_234_3 (own_hb hby bd0_234_3) (pc' := 238) (Ls' := #[.val (.int p1), .val (.int p2), .val (.int p3), .val (.int p4), .val (.int (6 : Int32)), .val (.ref b1), .val (.ref b15), .val (.int (1 : Int32)), .unset]) (st' := [(.int p4), (.int (2 : Int32)), (.ref b1)]) rfl ?_
    show Steps p.tables e below (T29.setTop (mkF m 238 #[.val (.int p1), .val (.int p2), .val (.int p3), .val (.int p4), .val (.int (6 : Int32)), .val (.ref b1), .val (.ref b15), .val (.int (1 : Int32)), .unset] [(.int p4), (.int (2 : Int32)), (.ref b1)])) _
    refine st30 _ ?_
    show Steps p.tables e below (T30.setTop (mkF m 241 #[.val (.int p1), .val (.int p2), .val (.int p3), .val (.int p4), .val (.int (6 : Int32)), .val (.ref b1), .val (.ref b15), .val (.int (1 : Int32)), .unset] [(.int (1 : Int32))])) _
    refine XS.ifNo X30.here hx rfl (hb hby at_241) rfl ((if0 _ _).trans (feq (by decide : ¬ ((1 : Int32) = (0 : Int32)))).1) ?_
    show Steps p.tables e below (T30.setTop (mkF m 244 #[.val (.int p1), .val (.int p2), .val (.int p3), .val (.int p4), .val (.int (6 : Int32)), .val (.ref b1), .val (.ref b15), .val (.int (1 : Int32)), .unset] [])) _
    refine own_blk X30 hx bl0_244_5 (own_hb hby bd0_244_5) (pc' := 250) (Ls' := #[.val (.int p1), .val (.int p2), .val (.int p3), .val (.int p4), .val (.int (6 : Int32)), .val (.ref b1), .val (.ref b15), .val (.int (1 : Int32)), .unset]) (st' := [(.int (p2 ^^^ p3)), (.int (3 : Int32)), (.ref b1)]) rfl ?_
    show Steps p.tables e below (T30.setTop (mkF m 250 #[.val (.int p1), .val (.int p2), .val (.int p3), .val (.int p4), .val (.int (6 : Int32)), .val (.ref b1), .val (.ref b15), .val (.int (1 : Int32)), .unset] [(.int (p2 ^^^ p3)), (.int (3 : Int32)), (.ref b1)])) _
    refine st31 _ ?_
    show Steps p.tables e below (T31.setTop (mkF m 253 #[.val (.int p1), .val (.int p2), .val (.int p3), .val (.int p4), .val (.int (6 : Int32)), .val (.ref b1), .val (.ref b15), .val (.int (1 : Int32)), .unset] [(.int (1 : Int32))])) _
    refine XS.ifNo X31.here hx rfl (hb hby at_253) rfl ((if0 _ _).trans (feq (by decide : ¬ ((1 : Int32) = (0 : Int32)))).1) ?_
    show Steps p.tables e below (T31.setTop (mkF m 256 #[.val (.int p1), .val (.int p2), .val (.int p3), .val (.int p4), .val (.int (6 : Int32)), .val (.ref b1), .val (.ref b15), .val (.int (1 : Int32)), .unset] [])) _
    refine own_blk X31 hx bl0_256_5 (own_hb hby bd0_256_5) (pc' := 262) (Ls' := #[.val (.int p1), .val (.int p2), .val (.int p3), .val (.int p4), .val (.int (6 : Int32)), .val (.ref b1), .val (.ref b15), .val (.int (1 : Int32)), .unset]) (st' := [(.int (p3 - p4)), (.int (4 : Int32)), (.ref b1)]) rfl ?_
    show Steps p.tables e below (T31.setTop (mkF m 262 #[.val (.int p1), .val (.int p2), .val (.int p3), .val (.int p4), .val (.int (6 : Int32)), .val (.ref b1), .val (.ref b15), .val (.int (1 : Int32)), .unset] [(.int (p3 - p4)), (.int (4 : Int32)), (.ref b1)])) _
    refine st32 _ ?_
    show Steps p.tables e below (T32.setTop (mkF m 265 #[.val (.int p1), .val (.int p2), .val (.int p3), .val (.int p4), .val (.int (6 : Int32)), .val (.ref b1), .val (.ref b15), .val (.int (1 : Int32)), .unset] [(.int (1 : Int32))])) _
    refine XS.ifNo X32.here hx rfl (hb hby at_265) rfl ((if0 _ _).trans (feq (by decide : ¬ ((1 : Int32) = (0 : Int32)))).1) ?_
    show Steps p.tables e below (T32.setTop (mkF m 268 #[.val (.int p1), .val (.int p2), .val (.int p3), .val (.int p4), .val (.int (6 : Int32)), .val (.ref b1), .val (.ref b15), .val (.int (1 : Int32)), .unset] [])) _
    refine own_blk X32 hx bl0_268_5 (own_hb hby bd0_268_5) (pc' := 274) (Ls' := #[.val (.int p1), .val (.int p2), .val (.int p3), .val (.int p4), .val (.int (6 : Int32)), .val (.ref b1), .val (.ref b15), .val (.int (1 : Int32)), .unset]) (st' := [(.int (p2 ^^^ (-1 : Int32))), (.int (5 : Int32)), (.ref b1)]) rfl ?_
    show Steps p.tables e below (T32.setTop (mkF m 274 #[.val (.int p1), .val (.int p2), .val (.int p3), .val (.int p4), .val (.int (6 : Int32)), .val (.ref b1), .val (.ref b15), .val (.int (1 : Int32)), .unset] [(.int (p2 ^^^ (-1 : Int32))), (.int (5 : Int32)), (.ref b1)])) _
    refine st33 _ ?_
    show Steps p.tables e below (T33.setTop (mkF m 277 #[.val (.int p1), .val (.int p2), .val (.int p3), .val (.int p4), .val (.int (6 : Int32)), .val (.ref b1), .val (.ref b15), .val (.int (1 : Int32)), .unset] [(.int (1 : Int32))])) _
    refine XS.ifNo X33.here hx rfl (hb hby at_277) rfl ((if0 _ _).trans (feq (by decide : ¬ ((1 : Int32) = (0 : Int32)))).1) ?_
    show Steps p.tables e below (T33.setTop (mkF m 280 #[.val (.int p1), .val (.int p2), .val (.int p3), .val (.int p4), .val (.int (6 : Int32)), .val (.ref b1), .val (.ref b15), .val (.int (1 : Int32)), .unset] [])) _
    refine own_blk X33 hx bl0_280_5 (own_hb hby bd0_280_5) (pc' := 288) (Ls' := #[.val (.int p1), .val (.int p2), .val (.int p3), .val (.int p4), .val (.int (6 : Int32)), .val (.ref b1), .val (.ref b15), .val (.int (1 : Int32)), .unset]) (st' := [(.int (p4 * (31 : Int32))), (.int (6 : Int32)), (.ref b1)]) rfl ?_
    show Steps p.tables e below (T33.setTop (mkF m 288 #[.val (.int p1), .val (.int p2), .val (.int p3), .val (.int p4), .val (.int (6 : Int32)), .val (.ref b1), .val (.ref b15), .val (.int (1 : Int32)), .unset] [(.int (p4 * (31 : Int32))), (.int (6 : Int32)), (.ref b1)])) _
    refine st34 _ ?_
    show Steps p.tables e below (T34.setTop (mkF m 291 #[.val (.int p1), .val (.int p2), .val (.int p3), .val (.int p4), .val (.int (6 : Int32)), .val (.ref b1), .val (.ref b15), .val (.int (1 : Int32)), .unset] [(.int (1 : Int32))])) _
    refine XS.ifNo X34.here hx rfl (hb hby at_291) rfl ((if0 _ _).trans (feq (by decide : ¬ ((1 : Int32) = (0 : Int32)))).1) ?_
    show Steps p.tables e below (T34.setTop (mkF m 294 #[.val (.int p1), .val (.int p2), .val (.int p3), .val (.int p4), .val (.int (6 : Int32)), .val (.ref b1), .val (.ref b15), .val (.int (1 : Int32)), .unset] [])) _
    refine own_blk X34 hx bl0_294_4 (own_hb hby bd0_294_4) (pc' := 303) (Ls' := #[.val (.int p1), .val (.int p2), .val (.int p3), .val (.int p4), .val (.int (6 : Int32)), .val (.ref b1), .val (.ref b15), .val (.int (1 : Int32)), .val (.int (1 : Int32))]) (st' := [(.int (1 : Int32))]) rfl ?_
    show Steps p.tables e below (T34.setTop (mkF m 303 #[.val (.int p1), .val (.int p2), .val (.int p3), .val (.int p4), .val (.int (6 : Int32)), .val (.ref b1), .val (.ref b15), .val (.int (1 : Int32)), .val (.int (1 : Int32))] [(.int (1 : Int32))])) _
    refine XS.ifNo X34.here hx rfl (hb hby at_303) rfl ((if0 _ _).trans (feq (by decide : ¬ ((1 : Int32) = (0 : Int32)))).1) ?_
    show Steps p.tables e below (T34.setTop (mkF m 306 #[.val (.int p1), .val (.int p2), .val (.int p3), .val (.int p4), .val (.int (6 : Int32)), .val (.ref b1), .val (.ref b15), .val (.int (1 : Int32)), .val (.int (1 : Int32))] [])) _
    refine own_blk X34 hx bl0_306_1 (own_hb hby bd0_306_1) (pc' := 308) (Ls' := #[.val (.int p1), .val (.int p2), .val (.int p3), .val (.int p4), .val (.int (6 : Int32)), .val (.ref b1), .val (.ref b15), .val (.int (1 : Int32)), .val (.int (1 : Int32))]) (st' := [(.int (1 : Int32))]) rfl ?_
    show Steps p.tables e below (T34.setTop (mkF m 308 #[.val (.int p1), .val (.int p2), .val (.int p3), .val (.int p4), .val (.int (6 : Int32)), .val (.ref b1), .val (.ref b15), .val (.int (1 : Int32)), .val (.int (1 : Int32))] [(.int (1 : Int32))])) _
    refine XS.ifNo X34.here hx rfl (hb hby at_308) rfl ((if0 _ _).trans (feq (by decide : ¬ ((1 : Int32) = (0 : Int32)))).1) ?_
    show Steps p.tables e below (T34.setTop (mkF m 311 #[.val (.int p1), .val (.int p2), .val (.int p3), .val (.int p4), .val (.int (6 : Int32)), .val (.ref b1), .val (.ref b15), .val (.int (1 : Int32)), .val (.int (1 : Int32))] [])) _
    refine own_blk X34 hx bl0_311_2 (own_hb hby bd0_311_2) (pc' := 316) (Ls' := #[.val (.int p1), .val (.int p2), .val (.int p3), .val (.int p4), .val (.int (6 : Int32)), .val (.ref b1), .val (.ref b15), .val (.int (1 : Int32)), .val (.int (1 : Int32))]) (st' := [(.int (1 : Int32))]) rfl ?_
    show Steps p.tables e below (T34.setTop (mkF m 316 #[.val (.int p1), .val (.int p2), .val (.int p3), .val (.int p4), .val (.int (6 : Int32)), .val (.ref b1), .val (.ref b15), .val (.int (1 : Int32)), .val (.int (1 : Int32))] [(.int (1 : Int32))])) _
    exact retN X34 hx (t := .boolean) Bd.returns (by simp) (hb hby at_316) hr
  · show Q0_6 Z p1 p2 p3 p4 h0 n0 _ T34.heap _
    rw [e34]
    exact ⟨by rw [f0_6], N34⟩

def Q1_7 (Z : State) (a1 : Addr) (k_a1 : ClassId) (vs1 : List Value) (h0 : Heap) (n0 : Nat) (v : Option Value) (h : Heap) (L : List Loc) : Prop := ∃ (b : Addr) (k : ClassId), v = some (.ref b) ∧ Fr n0 L ∧ Keep h0 h [] ∧ n0 ≤ b ∧ h0.size ≤ b ∧ Arv Z h b k .int (8 : Int32) [(.int (0 : Int32)), (.int (1 : Int32)), (.int (2 : Int32)), (.int (3 : Int32)), (.int (4 : Int32)), (.int (5 : Int32)), (.int (6 : Int32)), (.int (7 : Int32))] (.int (0 : Int32))
set_option maxRecDepth 65536 in
set_option maxHeartbeats 40000000 in
theorem rm1_7 (l : Launch) (Z : State) (a0 : Array Value) (hw : ∀ d ∈ tables_1, d.before a0 Z = true) (ws : List Jvm.Cond) (a1 : Addr) (k_a1 : ClassId) (vs1 : List Value) (h0 : Heap) (n0 : Nat) (Z0 : n0 ≤ h0.size) (V_a1 : Arv Z h0 a1 k_a1 .int (7 : Int32) vs1 (.int (0 : Int32))) :
    MetFree l (⟨"com/example/varel/varel/text/EditDistance", "start", "([I)[I"⟩ : MethodName) (head1 (Jvm.Cond.code (⟨"com/example/varel/varel/text/EditDistance", "start", "([I)[I"⟩ : MethodName) prog_54_method_4_code 3 (some (.array .int)) :: ws) ({ frames := 0, cells := 1, slots := 8, locals := 0 } : Room)) (fun a U => a = #[(.ref a1)] ∧ Z.Warmed39 U.vm ∧ U.heap = h0) (fun _ _ _ _ _ => True) (fun _ U o U' => ∃ v L, o = .returned v ∧ Q1_7 Z a1 k_a1 vs1 h0 n0 v U'.heap L ∧ FrameEnd U o U' L ({ frames := 0, cells := 1, slots := 8, locals := 0 } : Room).cells ({ frames := 0, cells := 1, slots := 8, locals := 0 } : Room).slots) := by
  refine MetFree.of_bodySF (plainFor_of_name pn_1) hisR ?_
  intro p e s m args below meth c s₁ Bd hml0 hP hK
  obtain ⟨rfl, hZ, hh⟩ := hP
  have hx := Bd.exec
  have hby := Bd.bytes
  have hml : c.maxLocals = 3 := hml0
  have hown : s.vm.findClass "com/example/varel/varel/text/EditDistance" = some m.cls := findClass_of_methodNamed Bd.named
  have hnm := (name_of_methodNamed Bd.named Bd.method).1
  have X0 : Stand p l e ({ frames := 0, cells := 1, slots := 8, locals := 0 } : Room) s m #[(.ref a1)] below meth c s₁ [] 0 0 := Stand.of_body Bd
  have e0 : s₁.heap = h0 := by rw [← hh, Bd.state]; rfl
  have N0 := Fr.nil n0
  have pre0 : ∀ t, Steps p.tables e below (s₁.setTop (mkF m 0 #[.val (.ref a1), .unset, .unset] [])) t → Steps p.tables e below (s₁.setTop (entryFrame m #[(.ref a1)] 3)) t := fun t k => castTop (ef_1 m a1) k
  obtain ⟨cl1, Ar1, qq1, S1, N1_, H1, G1⟩ := id V_a1
  obtain ⟨T2, h2, k2, X2, e2, E2, A2, st2⟩ := newP X0 hx hZ (hw _ (List.mem_of_getElem? (i := 0) rfl)) e0 (g := (mkF m 4 #[.val (.ref a1), .unset, .unset] [(.int (8 : Int32))])) rfl (hb hby d1_4) rfl (by decide) (cap := 8) (by decide) (by decide) (by decide) (by decide)
  obtain ⟨b2, g2⟩ : ∃ z, z = h0.size := ⟨_, rfl⟩
  rw [← g2] at A2 st2
  have ne_a1_b2 : a1 ≠ b2 := Nat.ne_of_lt (Nat.lt_of_lt_of_le V_a1.lt (Nat.le_of_eq g2.symm))
  have g_b2 : n0 ≤ b2 := Nat.le_trans Z0 (Nat.le_of_eq g2.symm)
  have sz_b2 : h0.size ≤ b2 := Nat.le_trans (Keep.refl h0 []).1 (Nat.le_of_eq g2.symm)
  have zs3 : n0 ≤ h2.size := Nat.le_trans Z0 E2.1
  have kp4 : Keep h0 h2 [] := (Keep.refl h0 []).ext E2
  have V_b2 : Arv Z h2 b2 k2 .int (8 : Int32) [(.int (0 : Int32)), (.int (0 : Int32)), (.int (0 : Int32)), (.int (0 : Int32)), (.int (0 : Int32)), (.int (0 : Int32)), (.int (0 : Int32)), (.int (0 : Int32))] (.int (0 : Int32)) := (Arv.new A2 (by decide)).pad (pad_rep [] (.int (0 : Int32)) 8)
  have fa5 : Arv Z h2 a1 k_a1 .int (7 : Int32) vs1 (.int (0 : Int32)) := (V_a1.ext E2)
  obtain ⟨cl6, Ar6, qq6, S6, N6_, H6, G6⟩ := id fa5
  obtain ⟨cl7, Ar7, qq7, S7, N7_, H7, G7⟩ := id V_b2
  have hin7 : ¬ ((0 : Int32) < 0 ∨ cl7.slots.size ≤ ((0 : Int32)).toNatClampNeg) := inb_of S7 ⟨by decide, by decide⟩
  obtain ⟨T7, h7, X7, e7, W7, st7⟩ := stI X2 hx hZ e2 Ar7 (j := (0 : Int32)) hin7 (g := (mkF m 18 #[.val (.ref a1), .val (.ref b2), .val (.int (0 : Int32))] [(.int (0 : Int32)), (.int (0 : Int32)), (.ref b2)])) rfl rfl (hb hby d1_18)
  have V7 : Arv Z h7 b2 k2 .int (8 : Int32) [(.int (0 : Int32)), (.int (0 : Int32)), (.int (0 : Int32)), (.int (0 : Int32)), (.int (0 : Int32)), (.int (0 : Int32)), (.int (0 : Int32)), (.int (0 : Int32))] (.int (0 : Int32)) := Arv.set Ar7 qq7 S7 N7_ H7 G7 rfl W7 0 rfl (Nat.le_of_ble_eq_true rfl)
  have zs8 : n0 ≤ h7.size := Nat.le_trans zs3 (Keep.of_wr W7).1
  have kp9 : Keep h0 h7 [] := kp4.wr W7 (Or.inr sz_b2)
  have N7 := Fr.snoc X7 N0 g_b2
  have fa10 : Arv Z h7 a1 k_a1 .int (7 : Int32) vs1 (.int (0 : Int32)) := (fa5.other W7 ne_a1_b2)
  obtain ⟨cl11, Ar11, qq11, S11, N11_, H11, G11⟩ := id fa10
  obtain ⟨cl12, Ar12, qq12, S12, N12_, H12, G12⟩ := id V7
  have hin12 : ¬ ((1 : Int32) < 0 ∨ cl12.slots.size ≤ ((1 : Int32)).toNatClampNeg) := inb_of S12 ⟨by decide, by decide⟩
  obtain ⟨T12, h12, X12, e12, W12, st12⟩ := stI X7 hx hZ e7 Ar12 (j := (1 : Int32)) hin12 (g := (mkF m 18 #[.val (.ref a1), .val (.ref b2), .val (.int (1 : Int32))] [(.int (1 : Int32)), (.int (1 : Int32)), (.ref b2)])) rfl rfl (hb hby d1_18)
  have V12 : Arv Z h12 b2 k2 .int (8 : Int32) [(.int (0 : Int32)), (.int (1 : Int32)), (.int (0 : Int32)), (.int (0 : Int32)), (.int (0 : Int32)), (.int (0 : Int32)), (.int (0 : Int32)), (.int (0 : Int32))] (.int (0 : Int32)) := Arv.set Ar12 qq12 S12 N12_ H12 G12 rfl W12 1 rfl (Nat.le_of_ble_eq_true rfl)
  have zs13 : n0 ≤ h12.size := Nat.le_trans zs8 (Keep.of_wr W12).1
  have kp14 : Keep h0 h12 [] := kp9.wr W12 (Or.inr sz_b2)
  have N12 := Fr.snoc X12 N7 g_b2
  have fa15 : Arv Z h12 a1 k_a1 .int (7 : Int32) vs1 (.int (0 : Int32)) := (fa10.other W12 ne_a1_b2)
  obtain ⟨cl16, Ar16, qq16, S16, N16_, H16, G16⟩ := id fa15
  obtain ⟨cl17, Ar17, qq17, S17, N17_, H17, G17⟩ := id V12
  have hin17 : ¬ ((2 : Int32) < 0 ∨ cl17.slots.size ≤ ((2 : Int32)).toNatClampNeg) := inb_of S17 ⟨by decide, by decide⟩
  obtain ⟨T17, h17, X17, e17, W17, st17⟩ := stI X12 hx hZ e12 Ar17 (j := (2 : Int32)) hin17 (g := (mkF m 18 #[.val (.ref a1), .val (.ref b2), .val (.int (2 : Int32))] [(.int (2 : Int32)), (.int (2 : Int32)), (.ref b2)])) rfl rfl (hb hby d1_18)
  have V17 : Arv Z h17 b2 k2 .int (8 : Int32) [(.int (0 : Int32)), (.int (1 : Int32)), (.int (2 : Int32)), (.int (0 : Int32)), (.int (0 : Int32)), (.int (0 : Int32)), (.int (0 : Int32)), (.int (0 : Int32))] (.int (0 : Int32)) := Arv.set Ar17 qq17 S17 N17_ H17 G17 rfl W17 2 rfl (Nat.le_of_ble_eq_true rfl)
  have zs18 : n0 ≤ h17.size := Nat.le_trans zs13 (Keep.of_wr W17).1
  have kp19 : Keep h0 h17 [] := kp14.wr W17 (Or.inr sz_b2)
  have N17 := Fr.snoc X17 N12 g_b2
  have fa20 : Arv Z h17 a1 k_a1 .int (7 : Int32) vs1 (.int (0 : Int32)) := (fa15.other W17 ne_a1_b2)
  obtain ⟨cl21, Ar21, qq21, S21, N21_, H21, G21⟩ := id fa20
  obtain ⟨cl22, Ar22, qq22, S22, N22_, H22, G22⟩ := id V17
  have hin22 : ¬ ((3 : Int32) < 0 ∨ cl22.slots.size ≤ ((3 : Int32)).toNatClampNeg) := inb_of S22 ⟨by decide, by decide⟩
  obtain ⟨T22, h22, X22, e22, W22, st22⟩ := stI X17 hx hZ e17 Ar22 (j := (3 : Int32)) hin22 (g := (mkF m 18 #[.val (.ref a1), .val (.ref b2), .val (.int (3 : Int32))] [(.int (3 : Int32)), (.int (3 : Int32)), (.ref b2)])) rfl rfl (hb hby d1_18)
  have V22 : Arv Z h22 b2 k2 .int (8 : Int32) [(.int (0 : Int32)), (.int (1 : Int32)), (.int (2 : Int32)), (.int (3 : Int32)), (.int (0 : Int32)), (.int (0 : Int32)), (.int (0 : Int32)), (.int (0 : Int32))] (.int (0 : Int32)) := Arv.set Ar22 qq22 S22 N22_ H22 G22 rfl W22 3 rfl (Nat.le_of_ble_eq_true rfl)
  have zs23 : n0 ≤ h22.size := Nat.le_trans zs18 (Keep.of_wr W22).1
  have kp24 : Keep h0 h22 [] := kp19.wr W22 (Or.inr sz_b2)
  have N22 := Fr.snoc X22 N17 g_b2
  have fa25 : Arv Z h22 a1 k_a1 .int (7 : Int32) vs1 (.int (0 : Int32)) := (fa20.other W22 ne_a1_b2)
  obtain ⟨cl26, Ar26, qq26, S26, N26_, H26, G26⟩ := id fa25
  obtain ⟨cl27, Ar27, qq27, S27, N27_, H27, G27⟩ := id V22
  have hin27 : ¬ ((4 : Int32) < 0 ∨ cl27.slots.size ≤ ((4 : Int32)).toNatClampNeg) := inb_of S27 ⟨by decide, by decide⟩
  obtain ⟨T27, h27, X27, e27, W27, st27⟩ := stI X22 hx hZ e22 Ar27 (j := (4 : Int32)) hin27 (g := (mkF m 18 #[.val (.ref a1), .val (.ref b2), .val (.int (4 : Int32))] [(.int (4 : Int32)), (.int (4 : Int32)), (.ref b2)])) rfl rfl (hb hby d1_18)
  have V27 : Arv Z h27 b2 k2 .int (8 : Int32) [(.int (0 : Int32)), (.int (1 : Int32)), (.int (2 : Int32)), (.int (3 : Int32)), (.int (4 : Int32)), (.int (0 : Int32)), (.int (0 : Int32)), (.int (0 : Int32))] (.int (0 : Int32)) := Arv.set Ar27 qq27 S27 N27_ H27 G27 rfl W27 4 rfl (Nat.le_of_ble_eq_true rfl)
  have zs28 : n0 ≤ h27.size := Nat.le_trans zs23 (Keep.of_wr W27).1
  have kp29 : Keep h0 h27 [] := kp24.wr W27 (Or.inr sz_b2)
  have N27 := Fr.snoc X27 N22 g_b2
  have fa30 : Arv Z h27 a1 k_a1 .int (7 : Int32) vs1 (.int (0 : Int32)) := (fa25.other W27 ne_a1_b2)
  obtain ⟨cl31, Ar31, qq31, S31, N31_, H31, G31⟩ := id fa30
  obtain ⟨cl32, Ar32, qq32, S32, N32_, H32, G32⟩ := id V27
  have hin32 : ¬ ((5 : Int32) < 0 ∨ cl32.slots.size ≤ ((5 : Int32)).toNatClampNeg) := inb_of S32 ⟨by decide, by decide⟩
  obtain ⟨T32, h32, X32, e32, W32, st32⟩ := stI X27 hx hZ e27 Ar32 (j := (5 : Int32)) hin32 (g := (mkF m 18 #[.val (.ref a1), .val (.ref b2), .val (.int (5 : Int32))] [(.int (5 : Int32)), (.int (5 : Int32)), (.ref b2)])) rfl rfl (hb hby d1_18)
  have V32 : Arv Z h32 b2 k2 .int (8 : Int32) [(.int (0 : Int32)), (.int (1 : Int32)), (.int (2 : Int32)), (.int (3 : Int32)), (.int (4 : Int32)), (.int (5 : Int32)), (.int (0 : Int32)), (.int (0 : Int32))] (.int (0 : Int32)) := Arv.set Ar32 qq32 S32 N32_ H32 G32 rfl W32 5 rfl (Nat.le_of_ble_eq_true rfl)
  have zs33 : n0 ≤ h32.size := Nat.le_trans zs28 (Keep.of_wr W32).1
  have kp34 : Keep h0 h32 [] := kp29.wr W32 (Or.inr sz_b2)
  have N32 := Fr.snoc X32 N27 g_b2
  have fa35 : Arv Z h32 a1 k_a1 .int (7 : Int32) vs1 (.int (0 : Int32)) := (fa30.other W32 ne_a1_b2)
  obtain ⟨cl36, Ar36, qq36, S36, N36_, H36, G36⟩ := id fa35
  obtain ⟨cl37, Ar37, qq37, S37, N37_, H37, G37⟩ := id V32
  have hin37 : ¬ ((6 : Int32) < 0 ∨ cl37.slots.size ≤ ((6 : Int32)).toNatClampNeg) := inb_of S37 ⟨by decide, by decide⟩
  obtain ⟨T37, h37, X37, e37, W37, st37⟩ := stI X32 hx hZ e32 Ar37 (j := (6 : Int32)) hin37 (g := (mkF m 18 #[.val (.ref a1), .val (.ref b2), .val (.int (6 : Int32))] [(.int (6 : Int32)), (.int (6 : Int32)), (.ref b2)])) rfl rfl (hb hby d1_18)
  have V37 : Arv Z h37 b2 k2 .int (8 : Int32) [(.int (0 : Int32)), (.int (1 : Int32)), (.int (2 : Int32)), (.int (3 : Int32)), (.int (4 : Int32)), (.int (5 : Int32)), (.int (6 : Int32)), (.int (0 : Int32))] (.int (0 : Int32)) := Arv.set Ar37 qq37 S37 N37_ H37 G37 rfl W37 6 rfl (Nat.le_of_ble_eq_true rfl)
  have zs38 : n0 ≤ h37.size := Nat.le_trans zs33 (Keep.of_wr W37).1
  have kp39 : Keep h0 h37 [] := kp34.wr W37 (Or.inr sz_b2)
  have N37 := Fr.snoc X37 N32 g_b2
  have fa40 : Arv Z h37 a1 k_a1 .int (7 : Int32) vs1 (.int (0 : Int32)) := (fa35.other W37 ne_a1_b2)
  obtain ⟨cl41, Ar41, qq41, S41, N41_, H41, G41⟩ := id fa40
  obtain ⟨cl42, Ar42, qq42, S42, N42_, H42, G42⟩ := id V37
  have hin42 : ¬ ((7 : Int32) < 0 ∨ cl42.slots.size ≤ ((7 : Int32)).toNatClampNeg) := inb_of S42 ⟨by decide, by decide⟩
  obtain ⟨T42, h42, X42, e42, W42, st42⟩ := stI X37 hx hZ e37 Ar42 (j := (7 : Int32)) hin42 (g := (mkF m 18 #[.val (.ref a1), .val (.ref b2), .val (.int (7 : Int32))] [(.int (7 : Int32)), (.int (7 : Int32)), (.ref b2)])) rfl rfl (hb hby d1_18)
  have V42 : Arv Z h42 b2 k2 .int (8 : Int32) [(.int (0 : Int32)), (.int (1 : Int32)), (.int (2 : Int32)), (.int (3 : Int32)), (.int (4 : Int32)), (.int (5 : Int32)), (.int (6 : Int32)), (.int (7 : Int32))] (.int (0 : Int32)) := Arv.set Ar42 qq42 S42 N42_ H42 G42 rfl W42 7 rfl (Nat.le_of_ble_eq_true rfl)
  have zs43 : n0 ≤ h42.size := Nat.le_trans zs38 (Keep.of_wr W42).1
  have kp44 : Keep h0 h42 [] := kp39.wr W42 (Or.inr sz_b2)
  have N42 := Fr.snoc X42 N37 g_b2
  have fa45 : Arv Z h42 a1 k_a1 .int (7 : Int32) vs1 (.int (0 : Int32)) := (fa40.other W42 ne_a1_b2)
  obtain ⟨cl46, Ar46, qq46, S46, N46_, H46, G46⟩ := id fa45
  obtain ⟨fs, hr, hrun, hended, hW, hsame⟩ := X42.leave (v := some (.ref b2)) (fun h => by rw [Bd.returns] at h; cases h)
  refine ⟨_, _, pre0 _ ?_, hrun, hended, _, _, rfl, ?_, ⟨_, rfl⟩, hW, hsame.mono (by decide) (by decide)⟩
  · show Steps p.tables e below (s₁.setTop (mkF m 0 #[.val (.ref a1), .unset, .unset] [])) _
    refine own_blk X0 hx bl1_0_1 (own_hb hby bd1_0_1) (pc' := 1) (Ls' := #[.val (.ref a1), .unset, .unset]) (st' := [(.ref a1)]) rfl ?_
    show Steps p.tables e below (s₁.setTop (mkF m 1 #[.val (.ref a1), .unset, .unset] [(.ref a1)])) _
    refine X0.arraylength hx (by rw [e0]; exact Ar1.1) (State.isArrayOf_alike hZ.alike Ar1.2.1) (g := (mkF m 1 #[.val (.ref a1), .unset, .unset] [(.ref a1)])) rfl rfl (hb hby d1_1) _ ?_
    rw [len_of S1 N1_]
    show Steps p.tables e below (s₁.setTop (mkF m 2 #[.val (.ref a1), .unset, .unset] [(.int (7 : Int32))])) _
    refine own_blk X0 hx bl1_2_2 (own_hb hby bd1_2_2) (pc' := 4) (Ls' := #[.val (.ref a1), .unset, .unset]) (st' := [(.int (8 : Int32))]) rfl ?_
    show Steps p.tables e below (s₁.setTop (mkF m 4 #[.val (.ref a1), .unset, .unset] [(.int (8 : Int32))])) _
    refine st2 _ ?_
    show Steps p.tables e below (T2.setTop (mkF m 6 #[.val (.ref a1), .unset, .unset] [(.ref b2)])) _
    refine own_blk X2 hx bl1_6_5 (own_hb hby bd1_6_5) (pc' := 11) (Ls' := #[.val (.ref a1), .val (.ref b2), .val (.int (0 : Int32))]) (st' := [(.ref a1), (.int (0 : Int32))]) rfl ?_
    show Steps p.tables e below (T2.setTop (mkF m 11 #[.val (.ref a1), .val (.ref b2), .val (.int (0 : Int32))] [(.ref a1), (.int (0 : Int32))])) _
    refine X2.arraylength hx (by rw [e2]; exact Ar6.1) (State.isArrayOf_alike hZ.alike Ar6.2.1) (g := (mkF m 11 #[.val (.ref a1), .val (.ref b2), .val (.int (0 : Int32))] [(.ref a1), (.int (0 : Int32))])) rfl rfl (hb hby d1_11) _ ?_
    rw [len_of S6 N6_]
    show Steps p.tables e below (T2.setTop (mkF m 12 #[.val (.ref a1), .val (.ref b2), .val (.int (0 : Int32))] [(.int (7 : Int32)), (.int (0 : Int32))])) _
    refine XS.icmpNo X2.here hx rfl (hb hby d1_12) rfl (flt (by decide : ¬ ((7 : Int32) < (0 : Int32)))).2.2.1 ?_
    show Steps p.tables e below (T2.setTop (mkF m 15 #[.val (.ref a1), .val (.ref b2), .val (.int (0 : Int32))] [])) _
    refine own_blk X2 hx bl1_15_3 (own_hb hby bd1_15_3) (pc' := 18) (Ls' := #[.val (.ref a1), .val (.ref b2), .val (.int (0 : Int32))]) (st' := [(.int (0 : Int32)), (.int (0 : Int32)), (.ref b2)]) rfl ?_
    show Steps p.tables e below (T2.setTop (mkF m 18 #[.val (.ref a1), .val (.ref b2), .val (.int (0 : Int32))] [(.int (0 : Int32)), (.int (0 : Int32)), (.ref b2)])) _
    refine st7 _ ?_
    show Steps p.tables e below (T7.setTop (mkF m 19 #[.val (.ref a1), .val (.ref b2), .val (.int (0 : Int32))] [])) _
    refine own_blk X7 hx bl1_19_4 (own_hb hby bd1_19_4) (pc' := 11) (Ls' := #[.val (.ref a1), .val (.ref b2), .val (.int (1 : Int32))]) (st' := [(.ref a1), (.int (1 : Int32))]) rfl ?_
    show Steps p.tables e below (T7.setTop (mkF m 11 #[.val (.ref a1), .val (.ref b2), .val (.int (1 : Int32))] [(.ref a1), (.int (1 : Int32))])) _
    refine X7.arraylength hx (by rw [e7]; exact Ar11.1) (State.isArrayOf_alike hZ.alike Ar11.2.1) (g := (mkF m 11 #[.val (.ref a1), .val (.ref b2), .val (.int (1 : Int32))] [(.ref a1), (.int (1 : Int32))])) rfl rfl (hb hby d1_11) _ ?_
    rw [len_of S11 N11_]
    show Steps p.tables e below (T7.setTop (mkF m 12 #[.val (.ref a1), .val (.ref b2), .val (.int (1 : Int32))] [(.int (7 : Int32)), (.int (1 : Int32))])) _
    refine XS.icmpNo X7.here hx rfl (hb hby d1_12) rfl (flt (by decide : ¬ ((7 : Int32) < (1 : Int32)))).2.2.1 ?_
    show Steps p.tables e below (T7.setTop (mkF m 15 #[.val (.ref a1), .val (.ref b2), .val (.int (1 : Int32))] [])) _
    refine own_blk X7 hx bl1_15_3 (own_hb hby bd1_15_3) (pc' := 18) (Ls' := #[.val (.ref a1), .val (.ref b2), .val (.int (1 : Int32))]) (st' := [(.int (1 : Int32)), (.int (1 : Int32)), (.ref b2)]) rfl ?_
    show Steps p.tables e below (T7.setTop (mkF m 18 #[.val (.ref a1), .val (.ref b2), .val (.int (1 : Int32))] [(.int (1 : Int32)), (.int (1 : Int32)), (.ref b2)])) _
    refine st12 _ ?_
    show Steps p.tables e below (T12.setTop (mkF m 19 #[.val (.ref a1), .val (.ref b2), .val (.int (1 : Int32))] [])) _
    refine own_blk X12 hx bl1_19_4 (own_hb hby bd1_19_4) (pc' := 11) (Ls' := #[.val (.ref a1), .val (.ref b2), .val (.int (2 : Int32))]) (st' := [(.ref a1), (.int (2 : Int32))]) rfl ?_
    show Steps p.tables e below (T12.setTop (mkF m 11 #[.val (.ref a1), .val (.ref b2), .val (.int (2 : Int32))] [(.ref a1), (.int (2 : Int32))])) _
    refine X12.arraylength hx (by rw [e12]; exact Ar16.1) (State.isArrayOf_alike hZ.alike Ar16.2.1) (g := (mkF m 11 #[.val (.ref a1), .val (.ref b2), .val (.int (2 : Int32))] [(.ref a1), (.int (2 : Int32))])) rfl rfl (hb hby d1_11) _ ?_
    rw [len_of S16 N16_]
    show Steps p.tables e below (T12.setTop (mkF m 12 #[.val (.ref a1), .val (.ref b2), .val (.int (2 : Int32))] [(.int (7 : Int32)), (.int (2 : Int32))])) _
    refine XS.icmpNo X12.here hx rfl (hb hby d1_12) rfl (flt (by decide : ¬ ((7 : Int32) < (2 : Int32)))).2.2.1 ?_
    show Steps p.tables e below (T12.setTop (mkF m 15 #[.val (.ref a1), .val (.ref b2), .val (.int (2 : Int32))] [])) _
    refine own_blk X12 hx bl1_15_3 (own_hb hby bd1_15_3) (pc' := 18) (Ls' := #[.val (.ref a1), .val (.ref b2), .val (.int (2 : Int32))]) (st' := [(.int (2 : Int32)), (.int (2 : Int32)), (.ref b2)]) rfl ?_
    show Steps p.tables e below (T12.setTop (mkF m 18 #[.val (.ref a1), .val (.ref b2), .val (.int (2 : Int32))] [(.int (2 : Int32)), (.int (2 : Int32)), (.ref b2)])) _
    refine st17 _ ?_
    show Steps p.tables e below (T17.setTop (mkF m 19 #[.val (.ref a1), .val (.ref b2), .val (.int (2 : Int32))] [])) _
    refine own_blk X17 hx bl1_19_4 (own_hb hby bd1_19_4) (pc' := 11) (Ls' := #[.val (.ref a1), .val (.ref b2), .val (.int (3 : Int32))]) (st' := [(.ref a1), (.int (3 : Int32))]) rfl ?_
    show Steps p.tables e below (T17.setTop (mkF m 11 #[.val (.ref a1), .val (.ref b2), .val (.int (3 : Int32))] [(.ref a1), (.int (3 : Int32))])) _
    refine X17.arraylength hx (by rw [e17]; exact Ar21.1) (State.isArrayOf_alike hZ.alike Ar21.2.1) (g := (mkF m 11 #[.val (.ref a1), .val (.ref b2), .val (.int (3 : Int32))] [(.ref a1), (.int (3 : Int32))])) rfl rfl (hb hby d1_11) _ ?_
    rw [len_of S21 N21_]
    show Steps p.tables e below (T17.setTop (mkF m 12 #[.val (.ref a1), .val (.ref b2), .val (.int (3 : Int32))] [(.int (7 : Int32)), (.int (3 : Int32))])) _
    refine XS.icmpNo X17.here hx rfl (hb hby d1_12) rfl (flt (by decide : ¬ ((7 : Int32) < (3 : Int32)))).2.2.1 ?_
    show Steps p.tables e below (T17.setTop (mkF m 15 #[.val (.ref a1), .val (.ref b2), .val (.int (3 : Int32))] [])) _
    refine own_blk X17 hx bl1_15_3 (own_hb hby bd1_15_3) (pc' := 18) (Ls' := #[.val (.ref a1), .val (.ref b2), .val (.int (3 : Int32))]) (st' := [(.int (3 : Int32)), (.int (3 : Int32)), (.ref b2)]) rfl ?_
    show Steps p.tables e below (T17.setTop (mkF m 18 #[.val (.ref a1), .val (.ref b2), .val (.int (3 : Int32))] [(.int (3 : Int32)), (.int (3 : Int32)), (.ref b2)])) _
    refine st22 _ ?_
    show Steps p.tables e below (T22.setTop (mkF m 19 #[.val (.ref a1), .val (.ref b2), .val (.int (3 : Int32))] [])) _
    refine own_blk X22 hx bl1_19_4 (own_hb hby bd1_19_4) (pc' := 11) (Ls' := #[.val (.ref a1), .val (.ref b2), .val (.int (4 : Int32))]) (st' := [(.ref a1), (.int (4 : Int32))]) rfl ?_
    show Steps p.tables e below (T22.setTop (mkF m 11 #[.val (.ref a1), .val (.ref b2), .val (.int (4 : Int32))] [(.ref a1), (.int (4 : Int32))])) _
    refine X22.arraylength hx (by rw [e22]; exact Ar26.1) (State.isArrayOf_alike hZ.alike Ar26.2.1) (g := (mkF m 11 #[.val (.ref a1), .val (.ref b2), .val (.int (4 : Int32))] [(.ref a1), (.int (4 : Int32))])) rfl rfl (hb hby d1_11) _ ?_
    rw [len_of S26 N26_]
    show Steps p.tables e below (T22.setTop (mkF m 12 #[.val (.ref a1), .val (.ref b2), .val (.int (4 : Int32))] [(.int (7 : Int32)), (.int (4 : Int32))])) _
    refine XS.icmpNo X22.here hx rfl (hb hby d1_12) rfl (flt (by decide : ¬ ((7 : Int32) < (4 : Int32)))).2.2.1 ?_
    show Steps p.tables e below (T22.setTop (mkF m 15 #[.val (.ref a1), .val (.ref b2), .val (.int (4 : Int32))] [])) _
    refine own_blk X22 hx bl1_15_3 (own_hb hby bd1_15_3) (pc' := 18) (Ls' := #[.val (.ref a1), .val (.ref b2), .val (.int (4 : Int32))]) (st' := [(.int (4 : Int32)), (.int (4 : Int32)), (.ref b2)]) rfl ?_
    show Steps p.tables e below (T22.setTop (mkF m 18 #[.val (.ref a1), .val (.ref b2), .val (.int (4 : Int32))] [(.int (4 : Int32)), (.int (4 : Int32)), (.ref b2)])) _
    refine st27 _ ?_
    show Steps p.tables e below (T27.setTop (mkF m 19 #[.val (.ref a1), .val (.ref b2), .val (.int (4 : Int32))] [])) _
    refine own_blk X27 hx bl1_19_4 (own_hb hby bd1_19_4) (pc' := 11) (Ls' := #[.val (.ref a1), .val (.ref b2), .val (.int (5 : Int32))]) (st' := [(.ref a1), (.int (5 : Int32))]) rfl ?_
    show Steps p.tables e below (T27.setTop (mkF m 11 #[.val (.ref a1), .val (.ref b2), .val (.int (5 : Int32))] [(.ref a1), (.int (5 : Int32))])) _
    refine X27.arraylength hx (by rw [e27]; exact Ar31.1) (State.isArrayOf_alike hZ.alike Ar31.2.1) (g := (mkF m 11 #[.val (.ref a1), .val (.ref b2), .val (.int (5 : Int32))] [(.ref a1), (.int (5 : Int32))])) rfl rfl (hb hby d1_11) _ ?_
    rw [len_of S31 N31_]
    show Steps p.tables e below (T27.setTop (mkF m 12 #[.val (.ref a1), .val (.ref b2), .val (.int (5 : Int32))] [(.int (7 : Int32)), (.int (5 : Int32))])) _
    refine XS.icmpNo X27.here hx rfl (hb hby d1_12) rfl (flt (by decide : ¬ ((7 : Int32) < (5 : Int32)))).2.2.1 ?_
    show Steps p.tables e below (T27.setTop (mkF m 15 #[.val (.ref a1), .val (.ref b2), .val (.int (5 : Int32))] [])) _
    refine own_blk X27 hx bl1_15_3 (own_hb hby bd1_15_3) (pc' := 18) (Ls' := #[.val (.ref a1), .val (.ref b2), .val (.int (5 : Int32))]) (st' := [(.int (5 : Int32)), (.int (5 : Int32)), (.ref b2)]) rfl ?_
    show Steps p.tables e below (T27.setTop (mkF m 18 #[.val (.ref a1), .val (.ref b2), .val (.int (5 : Int32))] [(.int (5 : Int32)), (.int (5 : Int32)), (.ref b2)])) _
    refine st32 _ ?_
    show Steps p.tables e below (T32.setTop (mkF m 19 #[.val (.ref a1), .val (.ref b2), .val (.int (5 : Int32))] [])) _
    refine own_blk X32 hx bl1_19_4 (own_hb hby bd1_19_4) (pc' := 11) (Ls' := #[.val (.ref a1), .val (.ref b2), .val (.int (6 : Int32))]) (st' := [(.ref a1), (.int (6 : Int32))]) rfl ?_
    show Steps p.tables e below (T32.setTop (mkF m 11 #[.val (.ref a1), .val (.ref b2), .val (.int (6 : Int32))] [(.ref a1), (.int (6 : Int32))])) _
    refine X32.arraylength hx (by rw [e32]; exact Ar36.1) (State.isArrayOf_alike hZ.alike Ar36.2.1) (g := (mkF m 11 #[.val (.ref a1), .val (.ref b2), .val (.int (6 : Int32))] [(.ref a1), (.int (6 : Int32))])) rfl rfl (hb hby d1_11) _ ?_
    rw [len_of S36 N36_]
    show Steps p.tables e below (T32.setTop (mkF m 12 #[.val (.ref a1), .val (.ref b2), .val (.int (6 : Int32))] [(.int (7 : Int32)), (.int (6 : Int32))])) _
    refine XS.icmpNo X32.here hx rfl (hb hby d1_12) rfl (flt (by decide : ¬ ((7 : Int32) < (6 : Int32)))).2.2.1 ?_
    show Steps p.tables e below (T32.setTop (mkF m 15 #[.val (.ref a1), .val (.ref b2), .val (.int (6 : Int32))] [])) _
    refine own_blk X32 hx bl1_15_3 (own_hb hby bd1_15_3) (pc' := 18) (Ls' := #[.val (.ref a1), .val (.ref b2), .val (.int (6 : Int32))]) (st' := [(.int (6 : Int32)), (.int (6 : Int32)), (.ref b2)]) rfl ?_
    show Steps p.tables e below (T32.setTop (mkF m 18 #[.val (.ref a1), .val (.ref b2), .val (.int (6 : Int32))] [(.int (6 : Int32)), (.int (6 : Int32)), (.ref b2)])) _
    refine st37 _ ?_
    show Steps p.tables e below (T37.setTop (mkF m 19 #[.val (.ref a1), .val (.ref b2), .val (.int (6 : Int32))] [])) _
    refine own_blk X37 hx bl1_19_4 (own_hb hby bd1_19_4) (pc' := 11) (Ls' := #[.val (.ref a1), .val (.ref b2), .val (.int (7 : Int32))]) (st' := [(.ref a1), (.int (7 : Int32))]) rfl ?_
    show Steps p.tables e below (T37.setTop (mkF m 11 #[.val (.ref a1), .val (.ref b2), .val (.int (7 : Int32))] [(.ref a1), (.int (7 : Int32))])) _
    refine X37.arraylength hx (by rw [e37]; exact Ar41.1) (State.isArrayOf_alike hZ.alike Ar41.2.1) (g := (mkF m 11 #[.val (.ref a1), .val (.ref b2), .val (.int (7 : Int32))] [(.ref a1), (.int (7 : Int32))])) rfl rfl (hb hby d1_11) _ ?_
    rw [len_of S41 N41_]
    show Steps p.tables e below (T37.setTop (mkF m 12 #[.val (.ref a1), .val (.ref b2), .val (.int (7 : Int32))] [(.int (7 : Int32)), (.int (7 : Int32))])) _
    refine XS.icmpNo X37.here hx rfl (hb hby d1_12) rfl (flt (by decide : ¬ ((7 : Int32) < (7 : Int32)))).2.2.1 ?_
    show Steps p.tables e below (T37.setTop (mkF m 15 #[.val (.ref a1), .val (.ref b2), .val (.int (7 : Int32))] [])) _
    refine own_blk X37 hx bl1_15_3 (own_hb hby bd1_15_3) (pc' := 18) (Ls' := #[.val (.ref a1), .val (.ref b2), .val (.int (7 : Int32))]) (st' := [(.int (7 : Int32)), (.int (7 : Int32)), (.ref b2)]) rfl ?_
    show Steps p.tables e below (T37.setTop (mkF m 18 #[.val (.ref a1), .val (.ref b2), .val (.int (7 : Int32))] [(.int (7 : Int32)), (.int (7 : Int32)), (.ref b2)])) _
    refine st42 _ ?_
    show Steps p.tables e below (T42.setTop (mkF m 19 #[.val (.ref a1), .val (.ref b2), .val (.int (7 : Int32))] [])) _
    refine own_blk X42 hx bl1_19_4 (own_hb hby bd1_19_4) (pc' := 11) (Ls' := #[.val (.ref a1), .val (.ref b2), .val (.int (8 : Int32))]) (st' := [(.ref a1), (.int (8 : Int32))]) rfl ?_
    show Steps p.tables e below (T42.setTop (mkF m 11 #[.val (.ref a1), .val (.ref b2), .val (.int (8 : Int32))] [(.ref a1), (.int (8 : Int32))])) _
    refine X42.arraylength hx (by rw [e42]; exact Ar46.1) (State.isArrayOf_alike hZ.alike Ar46.2.1) (g := (mkF m 11 #[.val (.ref a1), .val (.ref b2), .val (.int (8 : Int32))] [(.ref a1), (.int (8 : Int32))])) rfl rfl (hb hby d1_11) _ ?_
    rw [len_of S46 N46_]
    show Steps p.tables e below (T42.setTop (mkF m 12 #[.val (.ref a1), .val (.ref b2), .val (.int (8 : Int32))] [(.int (7 : Int32)), (.int (8 : Int32))])) _
    refine XS.icmpYes X42.here hx rfl (pc0 := 12) (pc' := 25) rfl (hb hby d1_12) rfl (tlt (by decide : (7 : Int32) < (8 : Int32))).2.2.1 (by decide) (by decide) ?_
    show Steps p.tables e below (T42.setTop (mkF m 25 #[.val (.ref a1), .val (.ref b2), .val (.int (8 : Int32))] [])) _
    refine own_blk X42 hx bl1_25_1 (own_hb hby bd1_25_1) (pc' := 26) (Ls' := #[.val (.ref a1), .val (.ref b2), .val (.int (8 : Int32))]) (st' := [(.ref b2)]) rfl ?_
    show Steps p.tables e below (T42.setTop (mkF m 26 #[.val (.ref a1), .val (.ref b2), .val (.int (8 : Int32))] [(.ref b2)])) _
    jvm_step X42.here [X42.here.top, hx, (hb hby d1_26), X42.method', Bd.returns, Value.isRef, FieldType.isReference]
    first | (intro acts; rw [hr _ acts rfl rfl rfl]) | rw [hr _ _ rfl rfl rfl]
    exact Steps.refl _
  · show Q1_7 Z a1 k_a1 vs1 h0 n0 _ T42.heap _
    rw [e42]
    exact ⟨b2, k2, rfl, N42, kp44, g_b2, sz_b2, V42⟩
def bl0_90_5 : List (Nat × Instr × Nat) := [(90, .aload 5, 2), (92, .bipush 6, 2), (94, .iload_n 3, 1), (95, .bipush 31, 2), (97, .imul, 1)]
theorem bd0_90_5 : own_dec code bl0_90_5 = true := by decide +kernel

def f0_7 (p1 : Int32) (p2 : Int32) (p3 : Int32) (p4 : Int32) : Int32 := (1 : Int32)
def Q0_7 (Z : State) (p1 : Int32) (p2 : Int32) (p3 : Int32) (p4 : Int32) (h0 : Heap) (n0 : Nat) (v : Option Value) (h : Heap) (L : List Loc) : Prop := v = some (.int (f0_7 p1 p2 p3 p4)) ∧ Fr n0 L
set_option maxRecDepth 65536 in
set_option maxHeartbeats 40000000 in
theorem rm0_7 (l : Launch) (Z : State) (a0 : Array Value) (hw : ∀ d ∈ tables_1, d.before a0 Z = true) (ws : List Jvm.Cond) (p1 : Int32) (p2 : Int32) (p3 : Int32) (p4 : Int32) (h0 : Heap) (n0 : Nat) (Z0 : n0 ≤ h0.size) (hn : (p1 &&& (7 : Int32)) = (7 : Int32)) :
    MetFree l x (head1 (Jvm.Cond.code x code maxLocals ret :: ws) room_1) (fun a U => a = #[(.int p1), (.int p2), (.int p3), (.int p4)] ∧ Z.Warmed39 U.vm ∧ U.heap = h0) (fun _ _ _ _ _ => True) (fun _ U o U' => ∃ v L, o = .returned v ∧ Q0_7 Z p1 p2 p3 p4 h0 n0 v U'.heap L ∧ FrameEnd U o U' L room_1.cells room_1.slots) := by
  refine MetFree.of_bodySF (plainFor_of_name pn_0) hisR ?_
  intro p e s m args below meth c s₁ Bd hml0 hP hK
  obtain ⟨rfl, hZ, hh⟩ := hP
  have hx := Bd.exec
  have hby := Bd.bytes
  have hml : c.maxLocals = 9 := hml0
  have hown : s.vm.findClass "com/example/varel/varel/text/EditDistanceStartPinLaw" = some m.cls := findClass_of_methodNamed Bd.named
  have hnm := (name_of_methodNamed Bd.named Bd.method).1
  have X0 : Stand p l e room_1 s m #[(.int p1), (.int p2), (.int p3), (.int p4)] below meth c s₁ [] 0 0 := Stand.of_body Bd
  have e0 : s₁.heap = h0 := by rw [← hh, Bd.state]; rfl
  have N0 := Fr.nil n0
  have pre0 : ∀ t, Steps p.tables e below (s₁.setTop (mkF m 0 #[.val (.int p1), .val (.int p2), .val (.int p3), .val (.int p4), .unset, .unset, .unset, .unset, .unset] [])) t → Steps p.tables e below (s₁.setTop (entryFrame m #[(.int p1), (.int p2), (.int p3), (.int p4)] maxLocals)) t := fun t k => castTop (ef_0 m p1 p2 p3 p4) k
  obtain ⟨T1, h1, k1, X1, e1, E1, A1, st1⟩ := newP X0 hx hZ (hw _ (List.mem_of_getElem? (i := 0) rfl)) e0 (g := (mkF m 8 #[.val (.int p1), .val (.int p2), .val (.int p3), .val (.int p4), .val (.int (7 : Int32)), .unset, .unset, .unset, .unset] [(.int (7 : Int32))])) rfl (hb hby at_8) rfl (by decide) (cap := 7) (by decide) (by decide) (by decide) (by decide)
  obtain ⟨b1, g1⟩ : ∃ z, z = h0.size := ⟨_, rfl⟩
  rw [← g1] at A1 st1
  have g_b1 : n0 ≤ b1 := Nat.le_trans Z0 (Nat.le_of_eq g1.symm)
  have zs2 : n0 ≤ h1.size := Nat.le_trans Z0 E1.1
  have V_b1 : Arv Z h1 b1 k1 .int (7 : Int32) [(.int (0 : Int32)), (.int (0 : Int32)), (.int (0 : Int32)), (.int (0 : Int32)), (.int (0 : Int32)), (.int (0 : Int32)), (.int (0 : Int32))] (.int (0 : Int32)) := (Arv.new A1 (by decide)).pad (pad_rep [] (.int (0 : Int32)) 7)
  obtain ⟨cl3, Ar3, qq3, S3, N3_, H3, G3⟩ := id V_b1
  have hin3 : ¬ ((0 : Int32) < 0 ∨ cl3.slots.size ≤ ((0 : Int32)).toNatClampNeg) := inb_of S3 ⟨by decide, by decide⟩
  obtain ⟨T3, h3, X3, e3, W3, st3⟩ := stI X1 hx hZ e1 Ar3 (j := (0 : Int32)) hin3 (g := (mkF m 21 #[.val (.int p1), .val (.int p2), .val (.int p3), .val (.int p4), .val (.int (7 : Int32)), .val (.ref b1), .unset, .unset, .unset] [(.int p2), (.int (0 : Int32)), (.ref b1)])) rfl rfl (hb hby at_21)
  have V3 : Arv Z h3 b1 k1 .int (7 : Int32) [(.int p2), (.int (0 : Int32)), (.int (0 : Int32)), (.int (0 : Int32)), (.int (0 : Int32)), (.int (0 : Int32)), (.int (0 : Int32))] (.int (0 : Int32)) := Arv.set Ar3 qq3 S3 N3_ H3 G3 rfl W3 0 rfl (Nat.le_of_ble_eq_true rfl)
  have zs4 : n0 ≤ h3.size := Nat.le_trans zs2 (Keep.of_wr W3).1
  have N3 := Fr.snoc X3 N0 g_b1
  obtain ⟨cl5, Ar5, qq5, S5, N5_, H5, G5⟩ := id V3
  have hin5 : ¬ ((1 : Int32) < 0 ∨ cl5.slots.size ≤ ((1 : Int32)).toNatClampNeg) := inb_of S5 ⟨by decide, by decide⟩
  obtain ⟨T5, h5, X5, e5, W5, st5⟩ := stI X3 hx hZ e3 Ar5 (j := (1 : Int32)) hin5 (g := (mkF m 32 #[.val (.int p1), .val (.int p2), .val (.int p3), .val (.int p4), .val (.int (7 : Int32)), .val (.ref b1), .unset, .unset, .unset] [(.int p3), (.int (1 : Int32)), (.ref b1)])) rfl rfl (hb hby at_32)
  have V5 : Arv Z h5 b1 k1 .int (7 : Int32) [(.int p2), (.int p3), (.int (0 : Int32)), (.int (0 : Int32)), (.int (0 : Int32)), (.int (0 : Int32)), (.int (0 : Int32))] (.int (0 : Int32)) := Arv.set Ar5 qq5 S5 N5_ H5 G5 rfl W5 1 rfl (Nat.le_of_ble_eq_true rfl)
  have zs6 : n0 ≤ h5.size := Nat.le_trans zs4 (Keep.of_wr W5).1
  have N5 := Fr.snoc X5 N3 g_b1
  obtain ⟨cl7, Ar7, qq7, S7, N7_, H7, G7⟩ := id V5
  have hin7 : ¬ ((2 : Int32) < 0 ∨ cl7.slots.size ≤ ((2 : Int32)).toNatClampNeg) := inb_of S7 ⟨by decide, by decide⟩
  obtain ⟨T7, h7, X7, e7, W7, st7⟩ := stI X5 hx hZ e5 Ar7 (j := (2 : Int32)) hin7 (g := (mkF m 43 #[.val (.int p1), .val (.int p2), .val (.int p3), .val (.int p4), .val (.int (7 : Int32)), .val (.ref b1), .unset, .unset, .unset] [(.int p4), (.int (2 : Int32)), (.ref b1)])) rfl rfl (hb hby at_43)
  have V7 : Arv Z h7 b1 k1 .int (7 : Int32) [(.int p2), (.int p3), (.int p4), (.int (0 : Int32)), (.int (0 : Int32)), (.int (0 : Int32)), (.int (0 : Int32))] (.int (0 : Int32)) := Arv.set Ar7 qq7 S7 N7_ H7 G7 rfl W7 2 rfl (Nat.le_of_ble_eq_true rfl)
  have zs8 : n0 ≤ h7.size := Nat.le_trans zs6 (Keep.of_wr W7).1
  have N7 := Fr.snoc X7 N5 g_b1
  obtain ⟨cl9, Ar9, qq9, S9, N9_, H9, G9⟩ := id V7
  have hin9 : ¬ ((3 : Int32) < 0 ∨ cl9.slots.size ≤ ((3 : Int32)).toNatClampNeg) := inb_of S9 ⟨by decide, by decide⟩
  obtain ⟨T9, h9, X9, e9, W9, st9⟩ := stI X7 hx hZ e7 Ar9 (j := (3 : Int32)) hin9 (g := (mkF m 56 #[.val (.int p1), .val (.int p2), .val (.int p3), .val (.int p4), .val (.int (7 : Int32)), .val (.ref b1), .unset, .unset, .unset] [(.int (p2 ^^^ p3)), (.int (3 : Int32)), (.ref b1)])) rfl rfl (hb hby at_56)
  have V9 : Arv Z h9 b1 k1 .int (7 : Int32) [(.int p2), (.int p3), (.int p4), (.int (p2 ^^^ p3)), (.int (0 : Int32)), (.int (0 : Int32)), (.int (0 : Int32))] (.int (0 : Int32)) := Arv.set Ar9 qq9 S9 N9_ H9 G9 rfl W9 3 rfl (Nat.le_of_ble_eq_true rfl)
  have zs10 : n0 ≤ h9.size := Nat.le_trans zs8 (Keep.of_wr W9).1
  have N9 := Fr.snoc X9 N7 g_b1
  obtain ⟨cl11, Ar11, qq11, S11, N11_, H11, G11⟩ := id V9
  have hin11 : ¬ ((4 : Int32) < 0 ∨ cl11.slots.size ≤ ((4 : Int32)).toNatClampNeg) := inb_of S11 ⟨by decide, by decide⟩
  obtain ⟨T11, h11, X11, e11, W11, st11⟩ := stI X9 hx hZ e9 Ar11 (j := (4 : Int32)) hin11 (g := (mkF m 69 #[.val (.int p1), .val (.int p2), .val (.int p3), .val (.int p4), .val (.int (7 : Int32)), .val (.ref b1), .unset, .unset, .unset] [(.int (p3 - p4)), (.int (4 : Int32)), (.ref b1)])) rfl rfl (hb hby at_69)
  have V11 : Arv Z h11 b1 k1 .int (7 : Int32) [(.int p2), (.int p3), (.int p4), (.int (p2 ^^^ p3)), (.int (p3 - p4)), (.int (0 : Int32)), (.int (0 : Int32))] (.int (0 : Int32)) := Arv.set Ar11 qq11 S11 N11_ H11 G11 rfl W11 4 rfl (Nat.le_of_ble_eq_true rfl)
  have zs12 : n0 ≤ h11.size := Nat.le_trans zs10 (Keep.of_wr W11).1
  have N11 := Fr.snoc X11 N9 g_b1
  obtain ⟨cl13, Ar13, qq13, S13, N13_, H13, G13⟩ := id V11
  have hin13 : ¬ ((5 : Int32) < 0 ∨ cl13.slots.size ≤ ((5 : Int32)).toNatClampNeg) := inb_of S13 ⟨by decide, by decide⟩
  obtain ⟨T13, h13, X13, e13, W13, st13⟩ := stI X11 hx hZ e11 Ar13 (j := (5 : Int32)) hin13 (g := (mkF m 82 #[.val (.int p1), .val (.int p2), .val (.int p3), .val (.int p4), .val (.int (7 : Int32)), .val (.ref b1), .unset, .unset, .unset] [(.int (p2 ^^^ (-1 : Int32))), (.int (5 : Int32)), (.ref b1)])) rfl rfl (hb hby at_82)
  have V13 : Arv Z h13 b1 k1 .int (7 : Int32) [(.int p2), (.int p3), (.int p4), (.int (p2 ^^^ p3)), (.int (p3 - p4)), (.int (p2 ^^^ (-1 : Int32))), (.int (0 : Int32))] (.int (0 : Int32)) := Arv.set Ar13 qq13 S13 N13_ H13 G13 rfl W13 5 rfl (Nat.le_of_ble_eq_true rfl)
  have zs14 : n0 ≤ h13.size := Nat.le_trans zs12 (Keep.of_wr W13).1
  have N13 := Fr.snoc X13 N11 g_b1
  obtain ⟨cl15, Ar15, qq15, S15, N15_, H15, G15⟩ := id V13
  have hin15 : ¬ ((6 : Int32) < 0 ∨ cl15.slots.size ≤ ((6 : Int32)).toNatClampNeg) := inb_of S15 ⟨by decide, by decide⟩
  obtain ⟨T15, h15, X15, e15, W15, st15⟩ := stI X13 hx hZ e13 Ar15 (j := (6 : Int32)) hin15 (g := (mkF m 98 #[.val (.int p1), .val (.int p2), .val (.int p3), .val (.int p4), .val (.int (7 : Int32)), .val (.ref b1), .unset, .unset, .unset] [(.int (p4 * (31 : Int32))), (.int (6 : Int32)), (.ref b1)])) rfl rfl (hb hby at_98)
  have V15 : Arv Z h15 b1 k1 .int (7 : Int32) [(.int p2), (.int p3), (.int p4), (.int (p2 ^^^ p3)), (.int (p3 - p4)), (.int (p2 ^^^ (-1 : Int32))), (.int (p4 * (31 : Int32)))] (.int (0 : Int32)) := Arv.set Ar15 qq15 S15 N15_ H15 G15 rfl W15 6 rfl (Nat.le_of_ble_eq_true rfl)
  have zs16 : n0 ≤ h15.size := Nat.le_trans zs14 (Keep.of_wr W15).1
  have N15 := Fr.snoc X15 N13 g_b1
  obtain ⟨_, T17, Lc17, X17, hQ17, st17⟩ := own_callS X15 hx hZ (y := (⟨"com/example/varel/varel/text/EditDistance", "start", "([I)[I"⟩ : MethodName)) hown (hw _ (List.mem_of_getElem? (i := 1) rfl)) (hw _ (List.mem_of_getElem? (i := 2) rfl)) (hw _ (List.mem_of_getElem? (i := 3) rfl)) (hw _ (List.mem_of_getElem? (i := 4) rfl)) (by decide) (W := 0) (argsL := [(.ref b1)]) (rest := []) (rm1_7 l Z a0 hw [] b1 k1 [(.int p2), (.int p3), (.int p4), (.int (p2 ^^^ p3)), (.int (p3 - p4)), (.int (p2 ^^^ (-1 : Int32))), (.int (p4 * (31 : Int32)))] h15 n0 zs16 V15) (by decide) (by decide) (c' := 2) (s' := 15) rfl rfl (by decide) (by decide) e15 (g := (mkF m 101 #[.val (.int p1), .val (.int p2), .val (.int p3), .val (.int p4), .val (.int (7 : Int32)), .val (.ref b1), .unset, .unset, .unset] [(.ref b1)])) rfl (by rw [hml]; rfl) (lenOf pd_0_0 rfl) rfl (by show 2 * 0 + _ ≤ _; exact Nat.le_of_eq rfl) (hb hby at_101)
  obtain ⟨b17, kk17, rfl, N17q, K17, g_b17, szz17, V_b17⟩ := hQ17
  have N17 := Fr.app N15 N17q
  have ne_b1_b17 : b1 ≠ b17 := Nat.ne_of_lt (Nat.lt_of_lt_of_le V15.lt szz17)
  have zs18 : n0 ≤ T17.heap.size := Nat.le_trans zs16 K17.1
  obtain ⟨cl19, Ar19, qq19, S19, N19_, H19, G19⟩ := id V_b17
  obtain ⟨_, T20, Lc20, X20, hQ20, st20⟩ := own_callS X17 hx hZ (y := (⟨"com/example/varel/varel/text/EditDistanceStartPinLaw", "at", "([II)Z"⟩ : MethodName)) hown (hw _ (List.mem_of_getElem? (i := 5) rfl)) (hw _ (List.mem_of_getElem? (i := 6) rfl)) (hw _ (List.mem_of_getElem? (i := 7) rfl)) (hw _ (List.mem_of_getElem? (i := 8) rfl)) (by decide) (W := 0) (argsL := [(.ref b17), (.int (0 : Int32))]) (rest := []) (rm2 l Z a0 hw [] b17 (0 : Int32) (0 : Int32) kk17 [(.int (0 : Int32)), (.int (1 : Int32)), (.int (2 : Int32)), (.int (3 : Int32)), (.int (4 : Int32)), (.int (5 : Int32)), (.int (6 : Int32)), (.int (7 : Int32))] (8 : Int32) T17.heap n0 zs18 V_b17 (by decide) (fun _ => rfl)) (by decide) (by decide) (c' := 2) (s' := 15) rfl rfl (by decide) (by decide) rfl (g := (mkF m 128 #[.val (.int p1), .val (.int p2), .val (.int p3), .val (.int p4), .val (.int (7 : Int32)), .val (.ref b1), .val (.ref b17), .unset, .unset] [(.int (0 : Int32)), (.ref b17)])) rfl (by rw [hml]; rfl) (lenOf pd_0_1 rfl) rfl (by show 2 * 0 + _ ≤ _; exact Nat.le_of_eq rfl) (hb hby at_128)
  obtain ⟨hv20, N20q, e20⟩ := hQ20
  have N20 := Fr.app N17 N20q
  rw [f2, if_pos (by decide : (0 : Int32) < (8 : Int32)), if_pos (by decide : (0 : Int32) = (0 : Int32))] at hv20
  subst hv20
  obtain ⟨_, T21, Lc21, X21, hQ21, st21⟩ := own_callS X20 hx hZ (y := (⟨"com/example/varel/varel/text/EditDistanceStartPinLaw", "at", "([II)Z"⟩ : MethodName)) hown (hw _ (List.mem_of_getElem? (i := 5) rfl)) (hw _ (List.mem_of_getElem? (i := 6) rfl)) (hw _ (List.mem_of_getElem? (i := 7) rfl)) (hw _ (List.mem_of_getElem? (i := 8) rfl)) (by decide) (W := 0) (argsL := [(.ref b17), (.int (1 : Int32))]) (rest := []) (rm2 l Z a0 hw [] b17 (1 : Int32) (1 : Int32) kk17 [(.int (0 : Int32)), (.int (1 : Int32)), (.int (2 : Int32)), (.int (3 : Int32)), (.int (4 : Int32)), (.int (5 : Int32)), (.int (6 : Int32)), (.int (7 : Int32))] (8 : Int32) T17.heap n0 zs18 V_b17 (by decide) (fun _ => rfl)) (by decide) (by decide) (c' := 2) (s' := 15) rfl rfl (by decide) (by decide) e20 (g := (mkF m 137 #[.val (.int p1), .val (.int p2), .val (.int p3), .val (.int p4), .val (.int (7 : Int32)), .val (.ref b1), .val (.ref b17), .unset, .unset] [(.int (1 : Int32)), (.ref b17)])) rfl (by rw [hml]; rfl) (lenOf pd_0_1 rfl) rfl (by show 2 * 0 + _ ≤ _; exact Nat.le_of_eq rfl) (hb hby at_137)
  obtain ⟨hv21, N21q, e21⟩ := hQ21
  have N21 := Fr.app N20 N21q
  rw [f2, if_pos (by decide : (1 : Int32) < (8 : Int32)), if_pos (by decide : (1 : Int32) = (1 : Int32))] at hv21
  subst hv21
  obtain ⟨_, T22, Lc22, X22, hQ22, st22⟩ := own_callS X21 hx hZ (y := (⟨"com/example/varel/varel/text/EditDistanceStartPinLaw", "at", "([II)Z"⟩ : MethodName)) hown (hw _ (List.mem_of_getElem? (i := 5) rfl)) (hw _ (List.mem_of_getElem? (i := 6) rfl)) (hw _ (List.mem_of_getElem? (i := 7) rfl)) (hw _ (List.mem_of_getElem? (i := 8) rfl)) (by decide) (W := 0) (argsL := [(.ref b17), (.int (2 : Int32))]) (rest := []) (rm2 l Z a0 hw [] b17 (2 : Int32) (2 : Int32) kk17 [(.int (0 : Int32)), (.int (1 : Int32)), (.int (2 : Int32)), (.int (3 : Int32)), (.int (4 : Int32)), (.int (5 : Int32)), (.int (6 : Int32)), (.int (7 : Int32))] (8 : Int32) T17.heap n0 zs18 V_b17 (by decide) (fun _ => rfl)) (by decide) (by decide) (c' := 2) (s' := 15) rfl rfl (by decide) (by decide) e21 (g := (mkF m 146 #[.val (.int p1), .val (.int p2), .val (.int p3), .val (.int p4), .val (.int (7 : Int32)), .val (.ref b1), .val (.ref b17), .unset, .unset] [(.int (2 : Int32)), (.ref b17)])) rfl (by rw [hml]; rfl) (lenOf pd_0_1 rfl) rfl (by show 2 * 0 + _ ≤ _; exact Nat.le_of_eq rfl) (hb hby at_146)
  obtain ⟨hv22, N22q, e22⟩ := hQ22
  have N22 := Fr.app N21 N22q
  rw [f2, if_pos (by decide : (2 : Int32) < (8 : Int32)), if_pos (by decide : (2 : Int32) = (2 : Int32))] at hv22
  subst hv22
  obtain ⟨_, T23, Lc23, X23, hQ23, st23⟩ := own_callS X22 hx hZ (y := (⟨"com/example/varel/varel/text/EditDistanceStartPinLaw", "at", "([II)Z"⟩ : MethodName)) hown (hw _ (List.mem_of_getElem? (i := 5) rfl)) (hw _ (List.mem_of_getElem? (i := 6) rfl)) (hw _ (List.mem_of_getElem? (i := 7) rfl)) (hw _ (List.mem_of_getElem? (i := 8) rfl)) (by decide) (W := 0) (argsL := [(.ref b17), (.int (3 : Int32))]) (rest := []) (rm2 l Z a0 hw [] b17 (3 : Int32) (3 : Int32) kk17 [(.int (0 : Int32)), (.int (1 : Int32)), (.int (2 : Int32)), (.int (3 : Int32)), (.int (4 : Int32)), (.int (5 : Int32)), (.int (6 : Int32)), (.int (7 : Int32))] (8 : Int32) T17.heap n0 zs18 V_b17 (by decide) (fun _ => rfl)) (by decide) (by decide) (c' := 2) (s' := 15) rfl rfl (by decide) (by decide) e22 (g := (mkF m 155 #[.val (.int p1), .val (.int p2), .val (.int p3), .val (.int p4), .val (.int (7 : Int32)), .val (.ref b1), .val (.ref b17), .unset, .unset] [(.int (3 : Int32)), (.ref b17)])) rfl (by rw [hml]; rfl) (lenOf pd_0_1 rfl) rfl (by show 2 * 0 + _ ≤ _; exact Nat.le_of_eq rfl) (hb hby at_155)
  obtain ⟨hv23, N23q, e23⟩ := hQ23
  have N23 := Fr.app N22 N23q
  rw [f2, if_pos (by decide : (3 : Int32) < (8 : Int32)), if_pos (by decide : (3 : Int32) = (3 : Int32))] at hv23
  subst hv23
  obtain ⟨_, T24, Lc24, X24, hQ24, st24⟩ := own_callS X23 hx hZ (y := (⟨"com/example/varel/varel/text/EditDistanceStartPinLaw", "at", "([II)Z"⟩ : MethodName)) hown (hw _ (List.mem_of_getElem? (i := 5) rfl)) (hw _ (List.mem_of_getElem? (i := 6) rfl)) (hw _ (List.mem_of_getElem? (i := 7) rfl)) (hw _ (List.mem_of_getElem? (i := 8) rfl)) (by decide) (W := 0) (argsL := [(.ref b17), (.int (4 : Int32))]) (rest := []) (rm2 l Z a0 hw [] b17 (4 : Int32) (4 : Int32) kk17 [(.int (0 : Int32)), (.int (1 : Int32)), (.int (2 : Int32)), (.int (3 : Int32)), (.int (4 : Int32)), (.int (5 : Int32)), (.int (6 : Int32)), (.int (7 : Int32))] (8 : Int32) T17.heap n0 zs18 V_b17 (by decide) (fun _ => rfl)) (by decide) (by decide) (c' := 2) (s' := 15) rfl rfl (by decide) (by decide) e23 (g := (mkF m 164 #[.val (.int p1), .val (.int p2), .val (.int p3), .val (.int p4), .val (.int (7 : Int32)), .val (.ref b1), .val (.ref b17), .unset, .unset] [(.int (4 : Int32)), (.ref b17)])) rfl (by rw [hml]; rfl) (lenOf pd_0_1 rfl) rfl (by show 2 * 0 + _ ≤ _; exact Nat.le_of_eq rfl) (hb hby at_164)
  obtain ⟨hv24, N24q, e24⟩ := hQ24
  have N24 := Fr.app N23 N24q
  rw [f2, if_pos (by decide : (4 : Int32) < (8 : Int32)), if_pos (by decide : (4 : Int32) = (4 : Int32))] at hv24
  subst hv24
  obtain ⟨_, T25, Lc25, X25, hQ25, st25⟩ := own_callS X24 hx hZ (y := (⟨"com/example/varel/varel/text/EditDistanceStartPinLaw", "at", "([II)Z"⟩ : MethodName)) hown (hw _ (List.mem_of_getElem? (i := 5) rfl)) (hw _ (List.mem_of_getElem? (i := 6) rfl)) (hw _ (List.mem_of_getElem? (i := 7) rfl)) (hw _ (List.mem_of_getElem? (i := 8) rfl)) (by decide) (W := 0) (argsL := [(.ref b17), (.int (5 : Int32))]) (rest := []) (rm2 l Z a0 hw [] b17 (5 : Int32) (5 : Int32) kk17 [(.int (0 : Int32)), (.int (1 : Int32)), (.int (2 : Int32)), (.int (3 : Int32)), (.int (4 : Int32)), (.int (5 : Int32)), (.int (6 : Int32)), (.int (7 : Int32))] (8 : Int32) T17.heap n0 zs18 V_b17 (by decide) (fun _ => rfl)) (by decide) (by decide) (c' := 2) (s' := 15) rfl rfl (by decide) (by decide) e24 (g := (mkF m 173 #[.val (.int p1), .val (.int p2), .val (.int p3), .val (.int p4), .val (.int (7 : Int32)), .val (.ref b1), .val (.ref b17), .unset, .unset] [(.int (5 : Int32)), (.ref b17)])) rfl (by rw [hml]; rfl) (lenOf pd_0_1 rfl) rfl (by show 2 * 0 + _ ≤ _; exact Nat.le_of_eq rfl) (hb hby at_173)
  obtain ⟨hv25, N25q, e25⟩ := hQ25
  have N25 := Fr.app N24 N25q
  rw [f2, if_pos (by decide : (5 : Int32) < (8 : Int32)), if_pos (by decide : (5 : Int32) = (5 : Int32))] at hv25
  subst hv25
  obtain ⟨_, T26, Lc26, X26, hQ26, st26⟩ := own_callS X25 hx hZ (y := (⟨"com/example/varel/varel/text/EditDistanceStartPinLaw", "at", "([II)Z"⟩ : MethodName)) hown (hw _ (List.mem_of_getElem? (i := 5) rfl)) (hw _ (List.mem_of_getElem? (i := 6) rfl)) (hw _ (List.mem_of_getElem? (i := 7) rfl)) (hw _ (List.mem_of_getElem? (i := 8) rfl)) (by decide) (W := 0) (argsL := [(.ref b17), (.int (6 : Int32))]) (rest := []) (rm2 l Z a0 hw [] b17 (6 : Int32) (6 : Int32) kk17 [(.int (0 : Int32)), (.int (1 : Int32)), (.int (2 : Int32)), (.int (3 : Int32)), (.int (4 : Int32)), (.int (5 : Int32)), (.int (6 : Int32)), (.int (7 : Int32))] (8 : Int32) T17.heap n0 zs18 V_b17 (by decide) (fun _ => rfl)) (by decide) (by decide) (c' := 2) (s' := 15) rfl rfl (by decide) (by decide) e25 (g := (mkF m 183 #[.val (.int p1), .val (.int p2), .val (.int p3), .val (.int p4), .val (.int (7 : Int32)), .val (.ref b1), .val (.ref b17), .unset, .unset] [(.int (6 : Int32)), (.ref b17)])) rfl (by rw [hml]; rfl) (lenOf pd_0_1 rfl) rfl (by show 2 * 0 + _ ≤ _; exact Nat.le_of_eq rfl) (hb hby at_183)
  obtain ⟨hv26, N26q, e26⟩ := hQ26
  have N26 := Fr.app N25 N26q
  rw [f2, if_pos (by decide : (6 : Int32) < (8 : Int32)), if_pos (by decide : (6 : Int32) = (6 : Int32))] at hv26
  subst hv26
  obtain ⟨_, T27, Lc27, X27, hQ27, st27⟩ := own_callS X26 hx hZ (y := (⟨"com/example/varel/varel/text/EditDistanceStartPinLaw", "at", "([II)Z"⟩ : MethodName)) hown (hw _ (List.mem_of_getElem? (i := 5) rfl)) (hw _ (List.mem_of_getElem? (i := 6) rfl)) (hw _ (List.mem_of_getElem? (i := 7) rfl)) (hw _ (List.mem_of_getElem? (i := 8) rfl)) (by decide) (W := 0) (argsL := [(.ref b17), (.int (7 : Int32))]) (rest := []) (rm2 l Z a0 hw [] b17 (7 : Int32) (7 : Int32) kk17 [(.int (0 : Int32)), (.int (1 : Int32)), (.int (2 : Int32)), (.int (3 : Int32)), (.int (4 : Int32)), (.int (5 : Int32)), (.int (6 : Int32)), (.int (7 : Int32))] (8 : Int32) T17.heap n0 zs18 V_b17 (by decide) (fun _ => rfl)) (by decide) (by decide) (c' := 2) (s' := 15) rfl rfl (by decide) (by decide) e26 (g := (mkF m 193 #[.val (.int p1), .val (.int p2), .val (.int p3), .val (.int p4), .val (.int (7 : Int32)), .val (.ref b1), .val (.ref b17), .unset, .unset] [(.int (7 : Int32)), (.ref b17)])) rfl (by rw [hml]; rfl) (lenOf pd_0_1 rfl) rfl (by show 2 * 0 + _ ≤ _; exact Nat.le_of_eq rfl) (hb hby at_193)
  obtain ⟨hv27, N27q, e27⟩ := hQ27
  have N27 := Fr.app N26 N27q
  rw [f2, if_pos (by decide : (7 : Int32) < (8 : Int32)), if_pos (by decide : (7 : Int32) = (7 : Int32))] at hv27
  subst hv27
  have fa28 : Arv Z T17.heap b1 k1 .int (7 : Int32) [(.int p2), (.int p3), (.int p4), (.int (p2 ^^^ p3)), (.int (p3 - p4)), (.int (p2 ^^^ (-1 : Int32))), (.int (p4 * (31 : Int32)))] (.int (0 : Int32)) := (V15.keep K17 nin0)
  obtain ⟨cl29, Ar29, qq29, S29, N29_, H29, G29⟩ := id fa28
  obtain ⟨_, T30, Lc30, X30, hQ30, st30⟩ := own_callS X27 hx hZ (y := (⟨"com/example/varel/varel/text/EditDistanceStartPinLaw", "kept", "([III)Z"⟩ : MethodName)) hown (hw _ (List.mem_of_getElem? (i := 9) rfl)) (hw _ (List.mem_of_getElem? (i := 10) rfl)) (hw _ (List.mem_of_getElem? (i := 7) rfl)) (hw _ (List.mem_of_getElem? (i := 11) rfl)) (by decide) (W := 0) (argsL := [(.ref b1), (.int (0 : Int32)), (.int p2)]) (rest := []) (rm3 l Z a0 hw [] b1 (0 : Int32) p2 p2 k1 [(.int p2), (.int p3), (.int p4), (.int (p2 ^^^ p3)), (.int (p3 - p4)), (.int (p2 ^^^ (-1 : Int32))), (.int (p4 * (31 : Int32)))] (7 : Int32) T17.heap n0 zs18 fa28 (by decide) (fun _ => rfl)) (by decide) (by decide) (c' := 2) (s' := 15) rfl rfl (by decide) (by decide) e27 (g := (mkF m 218 #[.val (.int p1), .val (.int p2), .val (.int p3), .val (.int p4), .val (.int (7 : Int32)), .val (.ref b1), .val (.ref b17), .val (.int (1 : Int32)), .unset] [(.int p2), (.int (0 : Int32)), (.ref b1)])) rfl (by rw [hml]; rfl) (lenOf pd_0_2 rfl) rfl (by show 2 * 0 + _ ≤ _; exact Nat.le_of_eq rfl) (hb hby at_218)
  obtain ⟨hv30, N30q, e30⟩ := hQ30
  have N30 := Fr.app N27 N30q
  rw [f3, if_pos (by decide : (0 : Int32) < (7 : Int32)), if_pos (rfl : p2 = p2)] at hv30
  subst hv30
  obtain ⟨_, T31, Lc31, X31, hQ31, st31⟩ := own_callS X30 hx hZ (y := (⟨"com/example/varel/varel/text/EditDistanceStartPinLaw", "kept", "([III)Z"⟩ : MethodName)) hown (hw _ (List.mem_of_getElem? (i := 9) rfl)) (hw _ (List.mem_of_getElem? (i := 10) rfl)) (hw _ (List.mem_of_getElem? (i := 7) rfl)) (hw _ (List.mem_of_getElem? (i := 11) rfl)) (by decide) (W := 0) (argsL := [(.ref b1), (.int (1 : Int32)), (.int p3)]) (rest := []) (rm3 l Z a0 hw [] b1 (1 : Int32) p3 p3 k1 [(.int p2), (.int p3), (.int p4), (.int (p2 ^^^ p3)), (.int (p3 - p4)), (.int (p2 ^^^ (-1 : Int32))), (.int (p4 * (31 : Int32)))] (7 : Int32) T17.heap n0 zs18 fa28 (by decide) (fun _ => rfl)) (by decide) (by decide) (c' := 2) (s' := 15) rfl rfl (by decide) (by decide) e30 (g := (mkF m 228 #[.val (.int p1), .val (.int p2), .val (.int p3), .val (.int p4), .val (.int (7 : Int32)), .val (.ref b1), .val (.ref b17), .val (.int (1 : Int32)), .unset] [(.int p3), (.int (1 : Int32)), (.ref b1)])) rfl (by rw [hml]; rfl) (lenOf pd_0_2 rfl) rfl (by show 2 * 0 + _ ≤ _; exact Nat.le_of_eq rfl) (hb hby at_228)
  obtain ⟨hv31, N31q, e31⟩ := hQ31
  have N31 := Fr.app N30 N31q
  rw [f3, if_pos (by decide : (1 : Int32) < (7 : Int32)), if_pos (rfl : p3 = p3)] at hv31
  subst hv31
  obtain ⟨_, T32, Lc32, X32, hQ32, st32⟩ := own_callS X31 hx hZ (y := (⟨"com/example/varel/varel/text/EditDistanceStartPinLaw", "kept", "([III)Z"⟩ : MethodName)) hown (hw _ (List.mem_of_getElem? (i := 9) rfl)) (hw _ (List.mem_of_getElem? (i := 10) rfl)) (hw _ (List.mem_of_getElem? (i := 7) rfl)) (hw _ (List.mem_of_getElem? (i := 11) rfl)) (by decide) (W := 0) (argsL := [(.ref b1), (.int (2 : Int32)), (.int p4)]) (rest := []) (rm3 l Z a0 hw [] b1 (2 : Int32) p4 p4 k1 [(.int p2), (.int p3), (.int p4), (.int (p2 ^^^ p3)), (.int (p3 - p4)), (.int (p2 ^^^ (-1 : Int32))), (.int (p4 * (31 : Int32)))] (7 : Int32) T17.heap n0 zs18 fa28 (by decide) (fun _ => rfl)) (by decide) (by decide) (c' := 2) (s' := 15) rfl rfl (by decide) (by decide) e31 (g := (mkF m 238 #[.val (.int p1), .val (.int p2), .val (.int p3), .val (.int p4), .val (.int (7 : Int32)), .val (.ref b1), .val (.ref b17), .val (.int (1 : Int32)), .unset] [(.int p4), (.int (2 : Int32)), (.ref b1)])) rfl (by rw [hml]; rfl) (lenOf pd_0_2 rfl) rfl (by show 2 * 0 + _ ≤ _; exact Nat.le_of_eq rfl) (hb hby at_238)
  obtain ⟨hv32, N32q, e32⟩ := hQ32
  have N32 := Fr.app N31 N32q
  rw [f3, if_pos (by decide : (2 : Int32) < (7 : Int32)), if_pos (rfl : p4 = p4)] at hv32
  subst hv32
  obtain ⟨_, T33, Lc33, X33, hQ33, st33⟩ := own_callS X32 hx hZ (y := (⟨"com/example/varel/varel/text/EditDistanceStartPinLaw", "kept", "([III)Z"⟩ : MethodName)) hown (hw _ (List.mem_of_getElem? (i := 9) rfl)) (hw _ (List.mem_of_getElem? (i := 10) rfl)) (hw _ (List.mem_of_getElem? (i := 7) rfl)) (hw _ (List.mem_of_getElem? (i := 11) rfl)) (by decide) (W := 0) (argsL := [(.ref b1), (.int (3 : Int32)), (.int (p2 ^^^ p3))]) (rest := []) (rm3 l Z a0 hw [] b1 (3 : Int32) (p2 ^^^ p3) (p2 ^^^ p3) k1 [(.int p2), (.int p3), (.int p4), (.int (p2 ^^^ p3)), (.int (p3 - p4)), (.int (p2 ^^^ (-1 : Int32))), (.int (p4 * (31 : Int32)))] (7 : Int32) T17.heap n0 zs18 fa28 (by decide) (fun _ => rfl)) (by decide) (by decide) (c' := 2) (s' := 15) rfl rfl (by decide) (by decide) e32 (g := (mkF m 250 #[.val (.int p1), .val (.int p2), .val (.int p3), .val (.int p4), .val (.int (7 : Int32)), .val (.ref b1), .val (.ref b17), .val (.int (1 : Int32)), .unset] [(.int (p2 ^^^ p3)), (.int (3 : Int32)), (.ref b1)])) rfl (by rw [hml]; rfl) (lenOf pd_0_2 rfl) rfl (by show 2 * 0 + _ ≤ _; exact Nat.le_of_eq rfl) (hb hby at_250)
  obtain ⟨hv33, N33q, e33⟩ := hQ33
  have N33 := Fr.app N32 N33q
  rw [f3, if_pos (by decide : (3 : Int32) < (7 : Int32)), if_pos (rfl : (p2 ^^^ p3) = (p2 ^^^ p3))] at hv33
  subst hv33
  obtain ⟨_, T34, Lc34, X34, hQ34, st34⟩ := own_callS X33 hx hZ (y := (⟨"com/example/varel/varel/text/EditDistanceStartPinLaw", "kept", "([III)Z"⟩ : MethodName)) hown (hw _ (List.mem_of_getElem? (i := 9) rfl)) (hw _ (List.mem_of_getElem? (i := 10) rfl)) (hw _ (List.mem_of_getElem? (i := 7) rfl)) (hw _ (List.mem_of_getElem? (i := 11) rfl)) (by decide) (W := 0) (argsL := [(.ref b1), (.int (4 : Int32)), (.int (p3 - p4))]) (rest := []) (rm3 l Z a0 hw [] b1 (4 : Int32) (p3 - p4) (p3 - p4) k1 [(.int p2), (.int p3), (.int p4), (.int (p2 ^^^ p3)), (.int (p3 - p4)), (.int (p2 ^^^ (-1 : Int32))), (.int (p4 * (31 : Int32)))] (7 : Int32) T17.heap n0 zs18 fa28 (by decide) (fun _ => rfl)) (by decide) (by decide) (c' := 2) (s' := 15) rfl rfl (by decide) (by decide) e33 (g := (mkF m 262 #[.val (.int p1), .val (.int p2), .val (.int p3), .val (.int p4), .val (.int (7 : Int32)), .val (.ref b1), .val (.ref b17), .val (.int (1 : Int32)), .unset] [(.int (p3 - p4)), (.int (4 : Int32)), (.ref b1)])) rfl (by rw [hml]; rfl) (lenOf pd_0_2 rfl) rfl (by show 2 * 0 + _ ≤ _; exact Nat.le_of_eq rfl) (hb hby at_262)
  obtain ⟨hv34, N34q, e34⟩ := hQ34
  have N34 := Fr.app N33 N34q
  rw [f3, if_pos (by decide : (4 : Int32) < (7 : Int32)), if_pos (rfl : (p3 - p4) = (p3 - p4))] at hv34
  subst hv34
  obtain ⟨_, T35, Lc35, X35, hQ35, st35⟩ := own_callS X34 hx hZ (y := (⟨"com/example/varel/varel/text/EditDistanceStartPinLaw", "kept", "([III)Z"⟩ : MethodName)) hown (hw _ (List.mem_of_getElem? (i := 9) rfl)) (hw _ (List.mem_of_getElem? (i := 10) rfl)) (hw _ (List.mem_of_getElem? (i := 7) rfl)) (hw _ (List.mem_of_getElem? (i := 11) rfl)) (by decide) (W := 0) (argsL := [(.ref b1), (.int (5 : Int32)), (.int (p2 ^^^ (-1 : Int32)))]) (rest := []) (rm3 l Z a0 hw [] b1 (5 : Int32) (p2 ^^^ (-1 : Int32)) (p2 ^^^ (-1 : Int32)) k1 [(.int p2), (.int p3), (.int p4), (.int (p2 ^^^ p3)), (.int (p3 - p4)), (.int (p2 ^^^ (-1 : Int32))), (.int (p4 * (31 : Int32)))] (7 : Int32) T17.heap n0 zs18 fa28 (by decide) (fun _ => rfl)) (by decide) (by decide) (c' := 2) (s' := 15) rfl rfl (by decide) (by decide) e34 (g := (mkF m 274 #[.val (.int p1), .val (.int p2), .val (.int p3), .val (.int p4), .val (.int (7 : Int32)), .val (.ref b1), .val (.ref b17), .val (.int (1 : Int32)), .unset] [(.int (p2 ^^^ (-1 : Int32))), (.int (5 : Int32)), (.ref b1)])) rfl (by rw [hml]; rfl) (lenOf pd_0_2 rfl) rfl (by show 2 * 0 + _ ≤ _; exact Nat.le_of_eq rfl) (hb hby at_274)
  obtain ⟨hv35, N35q, e35⟩ := hQ35
  have N35 := Fr.app N34 N35q
  rw [f3, if_pos (by decide : (5 : Int32) < (7 : Int32)), if_pos (rfl : (p2 ^^^ (-1 : Int32)) = (p2 ^^^ (-1 : Int32)))] at hv35
  subst hv35
  obtain ⟨_, T36, Lc36, X36, hQ36, st36⟩ := own_callS X35 hx hZ (y := (⟨"com/example/varel/varel/text/EditDistanceStartPinLaw", "kept", "([III)Z"⟩ : MethodName)) hown (hw _ (List.mem_of_getElem? (i := 9) rfl)) (hw _ (List.mem_of_getElem? (i := 10) rfl)) (hw _ (List.mem_of_getElem? (i := 7) rfl)) (hw _ (List.mem_of_getElem? (i := 11) rfl)) (by decide) (W := 0) (argsL := [(.ref b1), (.int (6 : Int32)), (.int (p4 * (31 : Int32)))]) (rest := []) (rm3 l Z a0 hw [] b1 (6 : Int32) (p4 * (31 : Int32)) (p4 * (31 : Int32)) k1 [(.int p2), (.int p3), (.int p4), (.int (p2 ^^^ p3)), (.int (p3 - p4)), (.int (p2 ^^^ (-1 : Int32))), (.int (p4 * (31 : Int32)))] (7 : Int32) T17.heap n0 zs18 fa28 (by decide) (fun _ => rfl)) (by decide) (by decide) (c' := 2) (s' := 15) rfl rfl (by decide) (by decide) e35 (g := (mkF m 288 #[.val (.int p1), .val (.int p2), .val (.int p3), .val (.int p4), .val (.int (7 : Int32)), .val (.ref b1), .val (.ref b17), .val (.int (1 : Int32)), .unset] [(.int (p4 * (31 : Int32))), (.int (6 : Int32)), (.ref b1)])) rfl (by rw [hml]; rfl) (lenOf pd_0_2 rfl) rfl (by show 2 * 0 + _ ≤ _; exact Nat.le_of_eq rfl) (hb hby at_288)
  obtain ⟨hv36, N36q, e36⟩ := hQ36
  have N36 := Fr.app N35 N36q
  rw [f3, if_pos (by decide : (6 : Int32) < (7 : Int32)), if_pos (rfl : (p4 * (31 : Int32)) = (p4 * (31 : Int32)))] at hv36
  subst hv36
  obtain ⟨fs, hr, hrun, hended, hW, hsame⟩ := X36.leave (v := some (.int (1 : Int32))) (fun h => by rw [Bd.returns] at h; cases h)
  refine ⟨_, _, pre0 _ ?_, hrun, hended, _, _, rfl, ?_, ⟨_, rfl⟩, hW, hsame.mono (by decide) (by decide)⟩
  · show Steps p.tables e below (s₁.setTop (mkF m 0 #[.val (.int p1), .val (.int p2), .val (.int p3), .val (.int p4), .unset, .unset, .unset, .unset, .unset] [])) _
    refine own_blk X0 hx bl0_0_3 (own_hb hby bd0_0_3) (pc' := 4) (Ls' := #[.val (.int p1), .val (.int p2), .val (.int p3), .val (.int p4), .unset, .unset, .unset, .unset, .unset]) (st' := [(.int (p1 &&& (7 : Int32)))]) rfl ?_
    show Steps p.tables e below (s₁.setTop (mkF m 4 #[.val (.int p1), .val (.int p2), .val (.int p3), .val (.int p4), .unset, .unset, .unset, .unset, .unset] [(.int (p1 &&& (7 : Int32)))])) _
    rw [hn]
    show Steps p.tables e below (s₁.setTop (mkF m 4 #[.val (.int p1), .val (.int p2), .val (.int p3), .val (.int p4), .unset, .unset, .unset, .unset, .unset] [(.int (7 : Int32))])) _
    refine own_blk X0 hx bl0_4_2 (own_hb hby bd0_4_2) (pc' := 8) (Ls' := #[.val (.int p1), .val (.int p2), .val (.int p3), .val (.int p4), .val (.int (7 : Int32)), .unset, .unset, .unset, .unset]) (st' := [(.int (7 : Int32))]) rfl ?_
    show Steps p.tables e below (s₁.setTop (mkF m 8 #[.val (.int p1), .val (.int p2), .val (.int p3), .val (.int p4), .val (.int (7 : Int32)), .unset, .unset, .unset, .unset] [(.int (7 : Int32))])) _
    refine st1 _ ?_
    show Steps p.tables e below (T1.setTop (mkF m 10 #[.val (.int p1), .val (.int p2), .val (.int p3), .val (.int p4), .val (.int (7 : Int32)), .unset, .unset, .unset, .unset] [(.ref b1)])) _
    refine own_blk X1 hx bl0_10_2 (own_hb hby bd0_10_2) (pc' := 14) (Ls' := #[.val (.int p1), .val (.int p2), .val (.int p3), .val (.int p4), .val (.int (7 : Int32)), .val (.ref b1), .unset, .unset, .unset]) (st' := [(.int (7 : Int32))]) rfl ?_
    show Steps p.tables e below (T1.setTop (mkF m 14 #[.val (.int p1), .val (.int p2), .val (.int p3), .val (.int p4), .val (.int (7 : Int32)), .val (.ref b1), .unset, .unset, .unset] [(.int (7 : Int32))])) _
    refine XS.ifNo X1.here hx rfl (hb hby at_14) rfl ((if0 _ _).trans (tlt (by decide : (0 : Int32) < (7 : Int32))).2.2.2) ?_
    show Steps p.tables e below (T1.setTop (mkF m 17 #[.val (.int p1), .val (.int p2), .val (.int p3), .val (.int p4), .val (.int (7 : Int32)), .val (.ref b1), .unset, .unset, .unset] [])) _
    refine own_blk X1 hx bl0_17_3 (own_hb hby bd0_17_3) (pc' := 21) (Ls' := #[.val (.int p1), .val (.int p2), .val (.int p3), .val (.int p4), .val (.int (7 : Int32)), .val (.ref b1), .unset, .unset, .unset]) (st' := [(.int p2), (.int (0 : Int32)), (.ref b1)]) rfl ?_
    show Steps p.tables e below (T1.setTop (mkF m 21 #[.val (.int p1), .val (.int p2), .val (.int p3), .val (.int p4), .val (.int (7 : Int32)), .val (.ref b1), .unset, .unset, .unset] [(.int p2), (.int (0 : Int32)), (.ref b1)])) _
    refine st3 _ ?_
    show Steps p.tables e below (T3.setTop (mkF m 22 #[.val (.int p1), .val (.int p2), .val (.int p3), .val (.int p4), .val (.int (7 : Int32)), .val (.ref b1), .unset, .unset, .unset] [])) _
    refine own_blk X3 hx bl0_22_2 (own_hb hby bd0_22_2) (pc' := 25) (Ls' := #[.val (.int p1), .val (.int p2), .val (.int p3), .val (.int p4), .val (.int (7 : Int32)), .val (.ref b1), .unset, .unset, .unset]) (st' := [(.int (1 : Int32)), (.int (7 : Int32))]) rfl ?_
    show Steps p.tables e below (T3.setTop (mkF m 25 #[.val (.int p1), .val (.int p2), .val (.int p3), .val (.int p4), .val (.int (7 : Int32)), .val (.ref b1), .unset, .unset, .unset] [(.int (1 : Int32)), (.int (7 : Int32))])) _
    refine XS.icmpNo X3.here hx rfl (hb hby at_25) rfl (tlt (by decide : (1 : Int32) < (7 : Int32))).2.2.2 ?_
    show Steps p.tables e below (T3.setTop (mkF m 28 #[.val (.int p1), .val (.int p2), .val (.int p3), .val (.int p4), .val (.int (7 : Int32)), .val (.ref b1), .unset, .unset, .unset] [])) _
    refine own_blk X3 hx bl0_28_3 (own_hb hby bd0_28_3) (pc' := 32) (Ls' := #[.val (.int p1), .val (.int p2), .val (.int p3), .val (.int p4), .val (.int (7 : Int32)), .val (.ref b1), .unset, .unset, .unset]) (st' := [(.int p3), (.int (1 : Int32)), (.ref b1)]) rfl ?_
    show Steps p.tables e below (T3.setTop (mkF m 32 #[.val (.int p1), .val (.int p2), .val (.int p3), .val (.int p4), .val (.int (7 : Int32)), .val (.ref b1), .unset, .unset, .unset] [(.int p3), (.int (1 : Int32)), (.ref b1)])) _
    refine st5 _ ?_
    show Steps p.tables e below (T5.setTop (mkF m 33 #[.val (.int p1), .val (.int p2), .val (.int p3), .val (.int p4), .val (.int (7 : Int32)), .val (.ref b1), .unset, .unset, .unset] [])) _
    refine own_blk X5 hx bl0_33_2 (own_hb hby bd0_33_2) (pc' := 36) (Ls' := #[.val (.int p1), .val (.int p2), .val (.int p3), .val (.int p4), .val (.int (7 : Int32)), .val (.ref b1), .unset, .unset, .unset]) (st' := [(.int (2 : Int32)), (.int (7 : Int32))]) rfl ?_
    show Steps p.tables e below (T5.setTop (mkF m 36 #[.val (.int p1), .val (.int p2), .val (.int p3), .val (.int p4), .val (.int (7 : Int32)), .val (.ref b1), .unset, .unset, .unset] [(.int (2 : Int32)), (.int (7 : Int32))])) _
    refine XS.icmpNo X5.here hx rfl (hb hby at_36) rfl (tlt (by decide : (2 : Int32) < (7 : Int32))).2.2.2 ?_
    show Steps p.tables e below (T5.setTop (mkF m 39 #[.val (.int p1), .val (.int p2), .val (.int p3), .val (.int p4), .val (.int (7 : Int32)), .val (.ref b1), .unset, .unset, .unset] [])) _
    refine own_blk X5 hx bl0_39_3 (own_hb hby bd0_39_3) (pc' := 43) (Ls' := #[.val (.int p1), .val (.int p2), .val (.int p3), .val (.int p4), .val (.int (7 : Int32)), .val (.ref b1), .unset, .unset, .unset]) (st' := [(.int p4), (.int (2 : Int32)), (.ref b1)]) rfl ?_
    show Steps p.tables e below (T5.setTop (mkF m 43 #[.val (.int p1), .val (.int p2), .val (.int p3), .val (.int p4), .val (.int (7 : Int32)), .val (.ref b1), .unset, .unset, .unset] [(.int p4), (.int (2 : Int32)), (.ref b1)])) _
    refine st7 _ ?_
    show Steps p.tables e below (T7.setTop (mkF m 44 #[.val (.int p1), .val (.int p2), .val (.int p3), .val (.int p4), .val (.int (7 : Int32)), .val (.ref b1), .unset, .unset, .unset] [])) _
    refine own_blk X7 hx bl0_44_2 (own_hb hby bd0_44_2) (pc' := 47) (Ls' := #[.val (.int p1), .val (.int p2), .val (.int p3), .val (.int p4), .val (.int (7 : Int32)), .val (.ref b1), .unset, .unset, .unset]) (st' := [(.int (3 : Int32)), (.int (7 : Int32))]) rfl ?_
    show Steps p.tables e below (T7.setTop (mkF m 47 #[.val (.int p1), .val (.int p2), .val (.int p3), .val (.int p4), .val (.int (7 : Int32)), .val (.ref b1), .unset, .unset, .unset] [(.int (3 : Int32)), (.int (7 : Int32))])) _
    refine XS.icmpNo X7.here hx rfl (hb hby at_47) rfl (tlt (by decide : (3 : Int32) < (7 : Int32))).2.2.2 ?_
    show Steps p.tables e below (T7.setTop (mkF m 50 #[.val (.int p1), .val (.int p2), .val (.int p3), .val (.int p4), .val (.int (7 : Int32)), .val (.ref b1), .unset, .unset, .unset] [])) _
    refine own_blk X7 hx bl0_50_5 (own_hb hby bd0_50_5) (pc' := 56) (Ls' := #[.val (.int p1), .val (.int p2), .val (.int p3), .val (.int p4), .val (.int (7 : Int32)), .val (.ref b1), .unset, .unset, .unset]) (st' := [(.int (p2 ^^^ p3)), (.int (3 : Int32)), (.ref b1)]) rfl ?_
    show Steps p.tables e below (T7.setTop (mkF m 56 #[.val (.int p1), .val (.int p2), .val (.int p3), .val (.int p4), .val (.int (7 : Int32)), .val (.ref b1), .unset, .unset, .unset] [(.int (p2 ^^^ p3)), (.int (3 : Int32)), (.ref b1)])) _
    refine st9 _ ?_
    show Steps p.tables e below (T9.setTop (mkF m 57 #[.val (.int p1), .val (.int p2), .val (.int p3), .val (.int p4), .val (.int (7 : Int32)), .val (.ref b1), .unset, .unset, .unset] [])) _
    refine own_blk X9 hx bl0_57_2 (own_hb hby bd0_57_2) (pc' := 60) (Ls' := #[.val (.int p1), .val (.int p2), .val (.int p3), .val (.int p4), .val (.int (7 : Int32)), .val (.ref b1), .unset, .unset, .unset]) (st' := [(.int (4 : Int32)), (.int (7 : Int32))]) rfl ?_
    show Steps p.tables e below (T9.setTop (mkF m 60 #[.val (.int p1), .val (.int p2), .val (.int p3), .val (.int p4), .val (.int (7 : Int32)), .val (.ref b1), .unset, .unset, .unset] [(.int (4 : Int32)), (.int (7 : Int32))])) _
    refine XS.icmpNo X9.here hx rfl (hb hby at_60) rfl (tlt (by decide : (4 : Int32) < (7 : Int32))).2.2.2 ?_
    show Steps p.tables e below (T9.setTop (mkF m 63 #[.val (.int p1), .val (.int p2), .val (.int p3), .val (.int p4), .val (.int (7 : Int32)), .val (.ref b1), .unset, .unset, .unset] [])) _
    refine own_blk X9 hx bl0_63_5 (own_hb hby bd0_63_5) (pc' := 69) (Ls' := #[.val (.int p1), .val (.int p2), .val (.int p3), .val (.int p4), .val (.int (7 : Int32)), .val (.ref b1), .unset, .unset, .unset]) (st' := [(.int (p3 - p4)), (.int (4 : Int32)), (.ref b1)]) rfl ?_
    show Steps p.tables e below (T9.setTop (mkF m 69 #[.val (.int p1), .val (.int p2), .val (.int p3), .val (.int p4), .val (.int (7 : Int32)), .val (.ref b1), .unset, .unset, .unset] [(.int (p3 - p4)), (.int (4 : Int32)), (.ref b1)])) _
    refine st11 _ ?_
    show Steps p.tables e below (T11.setTop (mkF m 70 #[.val (.int p1), .val (.int p2), .val (.int p3), .val (.int p4), .val (.int (7 : Int32)), .val (.ref b1), .unset, .unset, .unset] [])) _
    refine own_blk X11 hx bl0_70_2 (own_hb hby bd0_70_2) (pc' := 73) (Ls' := #[.val (.int p1), .val (.int p2), .val (.int p3), .val (.int p4), .val (.int (7 : Int32)), .val (.ref b1), .unset, .unset, .unset]) (st' := [(.int (5 : Int32)), (.int (7 : Int32))]) rfl ?_
    show Steps p.tables e below (T11.setTop (mkF m 73 #[.val (.int p1), .val (.int p2), .val (.int p3), .val (.int p4), .val (.int (7 : Int32)), .val (.ref b1), .unset, .unset, .unset] [(.int (5 : Int32)), (.int (7 : Int32))])) _
    refine XS.icmpNo X11.here hx rfl (hb hby at_73) rfl (tlt (by decide : (5 : Int32) < (7 : Int32))).2.2.2 ?_
    show Steps p.tables e below (T11.setTop (mkF m 76 #[.val (.int p1), .val (.int p2), .val (.int p3), .val (.int p4), .val (.int (7 : Int32)), .val (.ref b1), .unset, .unset, .unset] [])) _
    refine own_blk X11 hx bl0_76_5 (own_hb hby bd0_76_5) (pc' := 82) (Ls' := #[.val (.int p1), .val (.int p2), .val (.int p3), .val (.int p4), .val (.int (7 : Int32)), .val (.ref b1), .unset, .unset, .unset]) (st' := [(.int (p2 ^^^ (-1 : Int32))), (.int (5 : Int32)), (.ref b1)]) rfl ?_
    show Steps p.tables e below (T11.setTop (mkF m 82 #[.val (.int p1), .val (.int p2), .val (.int p3), .val (.int p4), .val (.int (7 : Int32)), .val (.ref b1), .unset, .unset, .unset] [(.int (p2 ^^^ (-1 : Int32))), (.int (5 : Int32)), (.ref b1)])) _
    refine st13 _ ?_
    show Steps p.tables e below (T13.setTop (mkF m 83 #[.val (.int p1), .val (.int p2), .val (.int p3), .val (.int p4), .val (.int (7 : Int32)), .val (.ref b1), .unset, .unset, .unset] [])) _
    refine own_blk X13 hx bl0_83_2 (own_hb hby bd0_83_2) (pc' := 87) (Ls' := #[.val (.int p1), .val (.int p2), .val (.int p3), .val (.int p4), .val (.int (7 : Int32)), .val (.ref b1), .unset, .unset, .unset]) (st' := [(.int (6 : Int32)), (.int (7 : Int32))]) rfl ?_
    show Steps p.tables e below (T13.setTop (mkF m 87 #[.val (.int p1), .val (.int p2), .val (.int p3), .val (.int p4), .val (.int (7 : Int32)), .val (.ref b1), .unset, .unset, .unset] [(.int (6 : Int32)), (.int (7 : Int32))])) _
    refine XS.icmpNo X13.here hx rfl (hb hby at_87) rfl (tlt (by decide : (6 : Int32) < (7 : Int32))).2.2.2 ?_
    show Steps p.tables e below (T13.setTop (mkF m 90 #[.val (.int p1), .val (.int p2), .val (.int p3), .val (.int p4), .val (.int (7 : Int32)), .val (.ref b1), .unset, .unset, .unset] [])) _
    refine own_blk X13 hx bl0_90_5 (own_hb hby bd0_90_5) (pc' := 98) (Ls' := #[.val (.int p1), .val (.int p2), .val (.int p3), .val (.int p4), .val (.int (7 : Int32)), .val (.ref b1), .unset, .unset, .unset]) (st' := [(.int (p4 * (31 : Int32))), (.int (6 : Int32)), (.ref b1)]) rfl ?_
    show Steps p.tables e below (T13.setTop (mkF m 98 #[.val (.int p1), .val (.int p2), .val (.int p3), .val (.int p4), .val (.int (7 : Int32)), .val (.ref b1), .unset, .unset, .unset] [(.int (p4 * (31 : Int32))), (.int (6 : Int32)), (.ref b1)])) _
    refine st15 _ ?_
    show Steps p.tables e below (T15.setTop (mkF m 99 #[.val (.int p1), .val (.int p2), .val (.int p3), .val (.int p4), .val (.int (7 : Int32)), .val (.ref b1), .unset, .unset, .unset] [])) _
    refine own_blk X15 hx bl0_99_1 (own_hb hby bd0_99_1) (pc' := 101) (Ls' := #[.val (.int p1), .val (.int p2), .val (.int p3), .val (.int p4), .val (.int (7 : Int32)), .val (.ref b1), .unset, .unset, .unset]) (st' := [(.ref b1)]) rfl ?_
    show Steps p.tables e below (T15.setTop (mkF m 101 #[.val (.int p1), .val (.int p2), .val (.int p3), .val (.int p4), .val (.int (7 : Int32)), .val (.ref b1), .unset, .unset, .unset] [(.ref b1)])) _
    refine st17 _ ?_
    show Steps p.tables e below (T17.setTop (mkF m 104 #[.val (.int p1), .val (.int p2), .val (.int p3), .val (.int p4), .val (.int (7 : Int32)), .val (.ref b1), .unset, .unset, .unset] [(.ref b17)])) _
    refine own_blk X17 hx bl0_104_2 (own_hb hby bd0_104_2) (pc' := 108) (Ls' := #[.val (.int p1), .val (.int p2), .val (.int p3), .val (.int p4), .val (.int (7 : Int32)), .val (.ref b1), .val (.ref b17), .unset, .unset]) (st' := [(.ref b17)]) rfl ?_
    show Steps p.tables e below (T17.setTop (mkF m 108 #[.val (.int p1), .val (.int p2), .val (.int p3), .val (.int p4), .val (.int (7 : Int32)), .val (.ref b1), .val (.ref b17), .unset, .unset] [(.ref b17)])) _
    refine XS.ifnonnullYes X17.here hx rfl (pc0 := 108) (pc' := 113) rfl (hb hby at_108) rfl (by decide) (by decide) ?_
    show Steps p.tables e below (T17.setTop (mkF m 113 #[.val (.int p1), .val (.int p2), .val (.int p3), .val (.int p4), .val (.int (7 : Int32)), .val (.ref b1), .val (.ref b17), .unset, .unset] [])) _
    refine own_blk X17 hx bl0_113_1 (own_hb hby bd0_113_1) (pc' := 115) (Ls' := #[.val (.int p1), .val (.int p2), .val (.int p3), .val (.int p4), .val (.int (7 : Int32)), .val (.ref b1), .val (.ref b17), .unset, .unset]) (st' := [(.ref b17)]) rfl ?_
    show Steps p.tables e below (T17.setTop (mkF m 115 #[.val (.int p1), .val (.int p2), .val (.int p3), .val (.int p4), .val (.int (7 : Int32)), .val (.ref b1), .val (.ref b17), .unset, .unset] [(.ref b17)])) _
    refine X17.arraylength hx Ar19.1 (State.isArrayOf_alike hZ.alike Ar19.2.1) (g := (mkF m 115 #[.val (.int p1), .val (.int p2), .val (.int p3), .val (.int p4), .val (.int (7 : Int32)), .val (.ref b1), .val (.ref b17), .unset, .unset] [(.ref b17)])) rfl rfl (hb hby at_115) _ ?_
    rw [len_of S19 N19_]
    show Steps p.tables e below (T17.setTop (mkF m 116 #[.val (.int p1), .val (.int p2), .val (.int p3), .val (.int p4), .val (.int (7 : Int32)), .val (.ref b1), .val (.ref b17), .unset, .unset] [(.int (8 : Int32))])) _
    refine own_blk X17 hx bl0_116_3 (own_hb hby bd0_116_3) (pc' := 120) (Ls' := #[.val (.int p1), .val (.int p2), .val (.int p3), .val (.int p4), .val (.int (7 : Int32)), .val (.ref b1), .val (.ref b17), .unset, .unset]) (st' := [(.int (8 : Int32)), (.int (8 : Int32))]) rfl ?_
    show Steps p.tables e below (T17.setTop (mkF m 120 #[.val (.int p1), .val (.int p2), .val (.int p3), .val (.int p4), .val (.int (7 : Int32)), .val (.ref b1), .val (.ref b17), .unset, .unset] [(.int (8 : Int32)), (.int (8 : Int32))])) _
    refine XS.icmpYes X17.here hx rfl (pc0 := 120) (pc' := 125) rfl (hb hby at_120) rfl (teq (by decide : (8 : Int32) = (8 : Int32))).1 (by decide) (by decide) ?_
    show Steps p.tables e below (T17.setTop (mkF m 125 #[.val (.int p1), .val (.int p2), .val (.int p3), .val (.int p4), .val (.int (7 : Int32)), .val (.ref b1), .val (.ref b17), .unset, .unset] [])) _
    refine own_blk X17 hx bl0_125_2 (own_hb hby bd0_125_2) (pc' := 128) (Ls' := #[.val (.int p1), .val (.int p2), .val (.int p3), .val (.int p4), .val (.int (7 : Int32)), .val (.ref b1), .val (.ref b17), .unset, .unset]) (st' := [(.int (0 : Int32)), (.ref b17)]) rfl ?_
    show Steps p.tables e below (T17.setTop (mkF m 128 #[.val (.int p1), .val (.int p2), .val (.int p3), .val (.int p4), .val (.int (7 : Int32)), .val (.ref b1), .val (.ref b17), .unset, .unset] [(.int (0 : Int32)), (.ref b17)])) _
    refine st20 _ ?_
    show Steps p.tables e below (T20.setTop (mkF m 131 #[.val (.int p1), .val (.int p2), .val (.int p3), .val (.int p4), .val (.int (7 : Int32)), .val (.ref b1), .val (.ref b17), .unset, .unset] [(.int (1 : Int32))])) _
    refine XS.ifNo X20.here hx rfl (hb hby at_131) rfl ((if0 _ _).trans (feq (by decide : ¬ ((1 : Int32) = (0 : Int32)))).1) ?_
    show Steps p.tables e below (T20.setTop (mkF m 134 #[.val (.int p1), .val (.int p2), .val (.int p3), .val (.int p4), .val (.int (7 : Int32)), .val (.ref b1), .val (.ref b17), .unset, .unset] [])) _
    refine own_blk X20 hx bl0_134_2 (own_hb hby bd0_134_2) (pc' := 137) (Ls' := #[.val (.int p1), .val (.int p2), .val (.int p3), .val (.int p4), .val (.int (7 : Int32)), .val (.ref b1), .val (.ref b17), .unset, .unset]) (st' := [(.int (1 : Int32)), (.ref b17)]) rfl ?_
    show Steps p.tables e below (T20.setTop (mkF m 137 #[.val (.int p1), .val (.int p2), .val (.int p3), .val (.int p4), .val (.int (7 : Int32)), .val (.ref b1), .val (.ref b17), .unset, .unset] [(.int (1 : Int32)), (.ref b17)])) _
    refine st21 _ ?_
    show Steps p.tables e below (T21.setTop (mkF m 140 #[.val (.int p1), .val (.int p2), .val (.int p3), .val (.int p4), .val (.int (7 : Int32)), .val (.ref b1), .val (.ref b17), .unset, .unset] [(.int (1 : Int32))])) _
    refine XS.ifNo X21.here hx rfl (hb hby at_140) rfl ((if0 _ _).trans (feq (by decide : ¬ ((1 : Int32) = (0 : Int32)))).1) ?_
    show Steps p.tables e below (T21.setTop (mkF m 143 #[.val (.int p1), .val (.int p2), .val (.int p3), .val (.int p4), .val (.int (7 : Int32)), .val (.ref b1), .val (.ref b17), .unset, .unset] [])) _
    refine own_blk X21 hx bl0_143_2 (own_hb hby bd0_143_2) (pc' := 146) (Ls' := #[.val (.int p1), .val (.int p2), .val (.int p3), .val (.int p4), .val (.int (7 : Int32)), .val (.ref b1), .val (.ref b17), .unset, .unset]) (st' := [(.int (2 : Int32)), (.ref b17)]) rfl ?_
    show Steps p.tables e below (T21.setTop (mkF m 146 #[.val (.int p1), .val (.int p2), .val (.int p3), .val (.int p4), .val (.int (7 : Int32)), .val (.ref b1), .val (.ref b17), .unset, .unset] [(.int (2 : Int32)), (.ref b17)])) _
    refine st22 _ ?_
    show Steps p.tables e below (T22.setTop (mkF m 149 #[.val (.int p1), .val (.int p2), .val (.int p3), .val (.int p4), .val (.int (7 : Int32)), .val (.ref b1), .val (.ref b17), .unset, .unset] [(.int (1 : Int32))])) _
    refine XS.ifNo X22.here hx rfl (hb hby at_149) rfl ((if0 _ _).trans (feq (by decide : ¬ ((1 : Int32) = (0 : Int32)))).1) ?_
    show Steps p.tables e below (T22.setTop (mkF m 152 #[.val (.int p1), .val (.int p2), .val (.int p3), .val (.int p4), .val (.int (7 : Int32)), .val (.ref b1), .val (.ref b17), .unset, .unset] [])) _
    refine own_blk X22 hx bl0_152_2 (own_hb hby bd0_152_2) (pc' := 155) (Ls' := #[.val (.int p1), .val (.int p2), .val (.int p3), .val (.int p4), .val (.int (7 : Int32)), .val (.ref b1), .val (.ref b17), .unset, .unset]) (st' := [(.int (3 : Int32)), (.ref b17)]) rfl ?_
    show Steps p.tables e below (T22.setTop (mkF m 155 #[.val (.int p1), .val (.int p2), .val (.int p3), .val (.int p4), .val (.int (7 : Int32)), .val (.ref b1), .val (.ref b17), .unset, .unset] [(.int (3 : Int32)), (.ref b17)])) _
    refine st23 _ ?_
    show Steps p.tables e below (T23.setTop (mkF m 158 #[.val (.int p1), .val (.int p2), .val (.int p3), .val (.int p4), .val (.int (7 : Int32)), .val (.ref b1), .val (.ref b17), .unset, .unset] [(.int (1 : Int32))])) _
    refine XS.ifNo X23.here hx rfl (hb hby at_158) rfl ((if0 _ _).trans (feq (by decide : ¬ ((1 : Int32) = (0 : Int32)))).1) ?_
    show Steps p.tables e below (T23.setTop (mkF m 161 #[.val (.int p1), .val (.int p2), .val (.int p3), .val (.int p4), .val (.int (7 : Int32)), .val (.ref b1), .val (.ref b17), .unset, .unset] [])) _
    refine own_blk X23 hx bl0_161_2 (own_hb hby bd0_161_2) (pc' := 164) (Ls' := #[.val (.int p1), .val (.int p2), .val (.int p3), .val (.int p4), .val (.int (7 : Int32)), .val (.ref b1), .val (.ref b17), .unset, .unset]) (st' := [(.int (4 : Int32)), (.ref b17)]) rfl ?_
    show Steps p.tables e below (T23.setTop (mkF m 164 #[.val (.int p1), .val (.int p2), .val (.int p3), .val (.int p4), .val (.int (7 : Int32)), .val (.ref b1), .val (.ref b17), .unset, .unset] [(.int (4 : Int32)), (.ref b17)])) _
    refine st24 _ ?_
    show Steps p.tables e below (T24.setTop (mkF m 167 #[.val (.int p1), .val (.int p2), .val (.int p3), .val (.int p4), .val (.int (7 : Int32)), .val (.ref b1), .val (.ref b17), .unset, .unset] [(.int (1 : Int32))])) _
    refine XS.ifNo X24.here hx rfl (hb hby at_167) rfl ((if0 _ _).trans (feq (by decide : ¬ ((1 : Int32) = (0 : Int32)))).1) ?_
    show Steps p.tables e below (T24.setTop (mkF m 170 #[.val (.int p1), .val (.int p2), .val (.int p3), .val (.int p4), .val (.int (7 : Int32)), .val (.ref b1), .val (.ref b17), .unset, .unset] [])) _
    refine own_blk X24 hx bl0_170_2 (own_hb hby bd0_170_2) (pc' := 173) (Ls' := #[.val (.int p1), .val (.int p2), .val (.int p3), .val (.int p4), .val (.int (7 : Int32)), .val (.ref b1), .val (.ref b17), .unset, .unset]) (st' := [(.int (5 : Int32)), (.ref b17)]) rfl ?_
    show Steps p.tables e below (T24.setTop (mkF m 173 #[.val (.int p1), .val (.int p2), .val (.int p3), .val (.int p4), .val (.int (7 : Int32)), .val (.ref b1), .val (.ref b17), .unset, .unset] [(.int (5 : Int32)), (.ref b17)])) _
    refine st25 _ ?_
    show Steps p.tables e below (T25.setTop (mkF m 176 #[.val (.int p1), .val (.int p2), .val (.int p3), .val (.int p4), .val (.int (7 : Int32)), .val (.ref b1), .val (.ref b17), .unset, .unset] [(.int (1 : Int32))])) _
    refine XS.ifNo X25.here hx rfl (hb hby at_176) rfl ((if0 _ _).trans (feq (by decide : ¬ ((1 : Int32) = (0 : Int32)))).1) ?_
    show Steps p.tables e below (T25.setTop (mkF m 179 #[.val (.int p1), .val (.int p2), .val (.int p3), .val (.int p4), .val (.int (7 : Int32)), .val (.ref b1), .val (.ref b17), .unset, .unset] [])) _
    refine own_blk X25 hx bl0_179_2 (own_hb hby bd0_179_2) (pc' := 183) (Ls' := #[.val (.int p1), .val (.int p2), .val (.int p3), .val (.int p4), .val (.int (7 : Int32)), .val (.ref b1), .val (.ref b17), .unset, .unset]) (st' := [(.int (6 : Int32)), (.ref b17)]) rfl ?_
    show Steps p.tables e below (T25.setTop (mkF m 183 #[.val (.int p1), .val (.int p2), .val (.int p3), .val (.int p4), .val (.int (7 : Int32)), .val (.ref b1), .val (.ref b17), .unset, .unset] [(.int (6 : Int32)), (.ref b17)])) _
    refine st26 _ ?_
    show Steps p.tables e below (T26.setTop (mkF m 186 #[.val (.int p1), .val (.int p2), .val (.int p3), .val (.int p4), .val (.int (7 : Int32)), .val (.ref b1), .val (.ref b17), .unset, .unset] [(.int (1 : Int32))])) _
    refine XS.ifNo X26.here hx rfl (hb hby at_186) rfl ((if0 _ _).trans (feq (by decide : ¬ ((1 : Int32) = (0 : Int32)))).1) ?_
    show Steps p.tables e below (T26.setTop (mkF m 189 #[.val (.int p1), .val (.int p2), .val (.int p3), .val (.int p4), .val (.int (7 : Int32)), .val (.ref b1), .val (.ref b17), .unset, .unset] [])) _
    refine own_blk X26 hx bl0_189_2 (own_hb hby bd0_189_2) (pc' := 193) (Ls' := #[.val (.int p1), .val (.int p2), .val (.int p3), .val (.int p4), .val (.int (7 : Int32)), .val (.ref b1), .val (.ref b17), .unset, .unset]) (st' := [(.int (7 : Int32)), (.ref b17)]) rfl ?_
    show Steps p.tables e below (T26.setTop (mkF m 193 #[.val (.int p1), .val (.int p2), .val (.int p3), .val (.int p4), .val (.int (7 : Int32)), .val (.ref b1), .val (.ref b17), .unset, .unset] [(.int (7 : Int32)), (.ref b17)])) _
    refine st27 _ ?_
    show Steps p.tables e below (T27.setTop (mkF m 196 #[.val (.int p1), .val (.int p2), .val (.int p3), .val (.int p4), .val (.int (7 : Int32)), .val (.ref b1), .val (.ref b17), .unset, .unset] [(.int (1 : Int32))])) _
    refine XS.ifNo X27.here hx rfl (hb hby at_196) rfl ((if0 _ _).trans (feq (by decide : ¬ ((1 : Int32) = (0 : Int32)))).1) ?_
    show Steps p.tables e below (T27.setTop (mkF m 199 #[.val (.int p1), .val (.int p2), .val (.int p3), .val (.int p4), .val (.int (7 : Int32)), .val (.ref b1), .val (.ref b17), .unset, .unset] [])) _
    refine own_blk X27 hx bl0_199_4 (own_hb hby bd0_199_4) (pc' := 208) (Ls' := #[.val (.int p1), .val (.int p2), .val (.int p3), .val (.int p4), .val (.int (7 : Int32)), .val (.ref b1), .val (.ref b17), .val (.int (1 : Int32)), .unset]) (st' := [(.ref b1)]) rfl ?_
    show Steps p.tables e below (T27.setTop (mkF m 208 #[.val (.int p1), .val (.int p2), .val (.int p3), .val (.int p4), .val (.int (7 : Int32)), .val (.ref b1), .val (.ref b17), .val (.int (1 : Int32)), .unset] [(.ref b1)])) _
    refine X27.arraylength hx (by rw [e27]; exact Ar29.1) (State.isArrayOf_alike hZ.alike Ar29.2.1) (g := (mkF m 208 #[.val (.int p1), .val (.int p2), .val (.int p3), .val (.int p4), .val (.int (7 : Int32)), .val (.ref b1), .val (.ref b17), .val (.int (1 : Int32)), .unset] [(.ref b1)])) rfl rfl (hb hby at_208) _ ?_
    rw [len_of S29 N29_]
    show Steps p.tables e below (T27.setTop (mkF m 209 #[.val (.int p1), .val (.int p2), .val (.int p3), .val (.int p4), .val (.int (7 : Int32)), .val (.ref b1), .val (.ref b17), .val (.int (1 : Int32)), .unset] [(.int (7 : Int32))])) _
    refine own_blk X27 hx bl0_209_1 (own_hb hby bd0_209_1) (pc' := 211) (Ls' := #[.val (.int p1), .val (.int p2), .val (.int p3), .val (.int p4), .val (.int (7 : Int32)), .val (.ref b1), .val (.ref b17), .val (.int (1 : Int32)), .unset]) (st' := [(.int (7 : Int32)), (.int (7 : Int32))]) rfl ?_
    show Steps p.tables e below (T27.setTop (mkF m 211 #[.val (.int p1), .val (.int p2), .val (.int p3), .val (.int p4), .val (.int (7 : Int32)), .val (.ref b1), .val (.ref b17), .val (.int (1 : Int32)), .unset] [(.int (7 : Int32)), (.int (7 : Int32))])) _
    refine XS.icmpNo X27.here hx rfl (hb hby at_211) rfl (teq (by decide : (7 : Int32) = (7 : Int32))).2 ?_
    show Steps p.tables e below (T27.setTop (mkF m 214 #[.val (.int p1), .val (.int p2), .val (.int p3), .val (.int p4), .val (.int (7 : Int32)), .val (.ref b1), .val (.ref b17), .val (.int (1 : Int32)), .unset] [])) _
    refine own_blk X27 hx bl0_214_3 (own_hb hby bd0_214_3) (pc' := 218) (Ls' := #[.val (.int p1), .val (.int p2), .val (.int p3), .val (.int p4), .val (.int (7 : Int32)), .val (.ref b1), .val (.ref b17), .val (.int (1 : Int32)), .unset]) (st' := [(.int p2), (.int (0 : Int32)), (.ref b1)]) rfl ?_
    show Steps p.tables e below (T27.setTop (mkF m 218 #[.val (.int p1), .val (.int p2), .val (.int p3), .val (.int p4), .val (.int (7 : Int32)), .val (.ref b1), .val (.ref b17), .val (.int (1 : Int32)), .unset] [(.int p2), (.int (0 : Int32)), (.ref b1)])) _
    refine st30 _ ?_
    show Steps p.tables e below (T30.setTop (mkF m 221 #[.val (.int p1), .val (.int p2), .val (.int p3), .val (.int p4), .val (.int (7 : Int32)), .val (.ref b1), .val (.ref b17), .val (.int (1 : Int32)), .unset] [(.int (1 : Int32))])) _
    refine XS.ifNo X30.here hx rfl (hb hby at_221) rfl ((if0 _ _).trans (feq (by decide : ¬ ((1 : Int32) = (0 : Int32)))).1) ?_
    show Steps p.tables e below (T30.setTop (mkF m 224 #[.val (.int p1), .val (.int p2), .val (.int p3), .val (.int p4), .val (.int (7 : Int32)), .val (.ref b1), .val (.ref b17), .val (.int (1 : Int32)), .unset] [])) _
    refine own_blk X30 hx bl0_224_3 (own_hb hby bd0_224_3) (pc' := 228) (Ls' := #[.val (.int p1), .val (.int p2), .val (.int p3), .val (.int p4), .val (.int (7 : Int32)), .val (.ref b1), .val (.ref b17), .val (.int (1 : Int32)), .unset]) (st' := [(.int p3), (.int (1 : Int32)), (.ref b1)]) rfl ?_
    show Steps p.tables e below (T30.setTop (mkF m 228 #[.val (.int p1), .val (.int p2), .val (.int p3), .val (.int p4), .val (.int (7 : Int32)), .val (.ref b1), .val (.ref b17), .val (.int (1 : Int32)), .unset] [(.int p3), (.int (1 : Int32)), (.ref b1)])) _
    refine st31 _ ?_
    show Steps p.tables e below (T31.setTop (mkF m 231 #[.val (.int p1), .val (.int p2), .val (.int p3), .val (.int p4), .val (.int (7 : Int32)), .val (.ref b1), .val (.ref b17), .val (.int (1 : Int32)), .unset] [(.int (1 : Int32))])) _
    refine XS.ifNo X31.here hx rfl (hb hby at_231) rfl ((if0 _ _).trans (feq (by decide : ¬ ((1 : Int32) = (0 : Int32)))).1) ?_
    show Steps p.tables e below (T31.setTop (mkF m 234 #[.val (.int p1), .val (.int p2), .val (.int p3), .val (.int p4), .val (.int (7 : Int32)), .val (.ref b1), .val (.ref b17), .val (.int (1 : Int32)), .unset] [])) _
    refine own_blk X31 hx bl0_234_3 (own_hb hby bd0_234_3) (pc' := 238) (Ls' := #[.val (.int p1), .val (.int p2), .val (.int p3), .val (.int p4), .val (.int (7 : Int32)), .val (.ref b1), .val (.ref b17), .val (.int (1 : Int32)), .unset]) (st' := [(.int p4), (.int (2 : Int32)), (.ref b1)]) rfl ?_
    show Steps p.tables e below (T31.setTop (mkF m 238 #[.val (.int p1), .val (.int p2), .val (.int p3), .val (.int p4), .val (.int (7 : Int32)), .val (.ref b1), .val (.ref b17), .val (.int (1 : Int32)), .unset] [(.int p4), (.int (2 : Int32)), (.ref b1)])) _
    refine st32 _ ?_
    show Steps p.tables e below (T32.setTop (mkF m 241 #[.val (.int p1), .val (.int p2), .val (.int p3), .val (.int p4), .val (.int (7 : Int32)), .val (.ref b1), .val (.ref b17), .val (.int (1 : Int32)), .unset] [(.int (1 : Int32))])) _
    refine XS.ifNo X32.here hx rfl (hb hby at_241) rfl ((if0 _ _).trans (feq (by decide : ¬ ((1 : Int32) = (0 : Int32)))).1) ?_
    show Steps p.tables e below (T32.setTop (mkF m 244 #[.val (.int p1), .val (.int p2), .val (.int p3), .val (.int p4), .val (.int (7 : Int32)), .val (.ref b1), .val (.ref b17), .val (.int (1 : Int32)), .unset] [])) _
    refine own_blk X32 hx bl0_244_5 (own_hb hby bd0_244_5) (pc' := 250) (Ls' := #[.val (.int p1), .val (.int p2), .val (.int p3), .val (.int p4), .val (.int (7 : Int32)), .val (.ref b1), .val (.ref b17), .val (.int (1 : Int32)), .unset]) (st' := [(.int (p2 ^^^ p3)), (.int (3 : Int32)), (.ref b1)]) rfl ?_
    show Steps p.tables e below (T32.setTop (mkF m 250 #[.val (.int p1), .val (.int p2), .val (.int p3), .val (.int p4), .val (.int (7 : Int32)), .val (.ref b1), .val (.ref b17), .val (.int (1 : Int32)), .unset] [(.int (p2 ^^^ p3)), (.int (3 : Int32)), (.ref b1)])) _
    refine st33 _ ?_
    show Steps p.tables e below (T33.setTop (mkF m 253 #[.val (.int p1), .val (.int p2), .val (.int p3), .val (.int p4), .val (.int (7 : Int32)), .val (.ref b1), .val (.ref b17), .val (.int (1 : Int32)), .unset] [(.int (1 : Int32))])) _
    refine XS.ifNo X33.here hx rfl (hb hby at_253) rfl ((if0 _ _).trans (feq (by decide : ¬ ((1 : Int32) = (0 : Int32)))).1) ?_
    show Steps p.tables e below (T33.setTop (mkF m 256 #[.val (.int p1), .val (.int p2), .val (.int p3), .val (.int p4), .val (.int (7 : Int32)), .val (.ref b1), .val (.ref b17), .val (.int (1 : Int32)), .unset] [])) _
    refine own_blk X33 hx bl0_256_5 (own_hb hby bd0_256_5) (pc' := 262) (Ls' := #[.val (.int p1), .val (.int p2), .val (.int p3), .val (.int p4), .val (.int (7 : Int32)), .val (.ref b1), .val (.ref b17), .val (.int (1 : Int32)), .unset]) (st' := [(.int (p3 - p4)), (.int (4 : Int32)), (.ref b1)]) rfl ?_
    show Steps p.tables e below (T33.setTop (mkF m 262 #[.val (.int p1), .val (.int p2), .val (.int p3), .val (.int p4), .val (.int (7 : Int32)), .val (.ref b1), .val (.ref b17), .val (.int (1 : Int32)), .unset] [(.int (p3 - p4)), (.int (4 : Int32)), (.ref b1)])) _
    refine st34 _ ?_
    show Steps p.tables e below (T34.setTop (mkF m 265 #[.val (.int p1), .val (.int p2), .val (.int p3), .val (.int p4), .val (.int (7 : Int32)), .val (.ref b1), .val (.ref b17), .val (.int (1 : Int32)), .unset] [(.int (1 : Int32))])) _
    refine XS.ifNo X34.here hx rfl (hb hby at_265) rfl ((if0 _ _).trans (feq (by decide : ¬ ((1 : Int32) = (0 : Int32)))).1) ?_
    show Steps p.tables e below (T34.setTop (mkF m 268 #[.val (.int p1), .val (.int p2), .val (.int p3), .val (.int p4), .val (.int (7 : Int32)), .val (.ref b1), .val (.ref b17), .val (.int (1 : Int32)), .unset] [])) _
    refine own_blk X34 hx bl0_268_5 (own_hb hby bd0_268_5) (pc' := 274) (Ls' := #[.val (.int p1), .val (.int p2), .val (.int p3), .val (.int p4), .val (.int (7 : Int32)), .val (.ref b1), .val (.ref b17), .val (.int (1 : Int32)), .unset]) (st' := [(.int (p2 ^^^ (-1 : Int32))), (.int (5 : Int32)), (.ref b1)]) rfl ?_
    show Steps p.tables e below (T34.setTop (mkF m 274 #[.val (.int p1), .val (.int p2), .val (.int p3), .val (.int p4), .val (.int (7 : Int32)), .val (.ref b1), .val (.ref b17), .val (.int (1 : Int32)), .unset] [(.int (p2 ^^^ (-1 : Int32))), (.int (5 : Int32)), (.ref b1)])) _
    refine st35 _ ?_
    show Steps p.tables e below (T35.setTop (mkF m 277 #[.val (.int p1), .val (.int p2), .val (.int p3), .val (.int p4), .val (.int (7 : Int32)), .val (.ref b1), .val (.ref b17), .val (.int (1 : Int32)), .unset] [(.int (1 : Int32))])) _
    refine XS.ifNo X35.here hx rfl (hb hby at_277) rfl ((if0 _ _).trans (feq (by decide : ¬ ((1 : Int32) = (0 : Int32)))).1) ?_
    show Steps p.tables e below (T35.setTop (mkF m 280 #[.val (.int p1), .val (.int p2), .val (.int p3), .val (.int p4), .val (.int (7 : Int32)), .val (.ref b1), .val (.ref b17), .val (.int (1 : Int32)), .unset] [])) _
    refine own_blk X35 hx bl0_280_5 (own_hb hby bd0_280_5) (pc' := 288) (Ls' := #[.val (.int p1), .val (.int p2), .val (.int p3), .val (.int p4), .val (.int (7 : Int32)), .val (.ref b1), .val (.ref b17), .val (.int (1 : Int32)), .unset]) (st' := [(.int (p4 * (31 : Int32))), (.int (6 : Int32)), (.ref b1)]) rfl ?_
    show Steps p.tables e below (T35.setTop (mkF m 288 #[.val (.int p1), .val (.int p2), .val (.int p3), .val (.int p4), .val (.int (7 : Int32)), .val (.ref b1), .val (.ref b17), .val (.int (1 : Int32)), .unset] [(.int (p4 * (31 : Int32))), (.int (6 : Int32)), (.ref b1)])) _
    refine st36 _ ?_
    show Steps p.tables e below (T36.setTop (mkF m 291 #[.val (.int p1), .val (.int p2), .val (.int p3), .val (.int p4), .val (.int (7 : Int32)), .val (.ref b1), .val (.ref b17), .val (.int (1 : Int32)), .unset] [(.int (1 : Int32))])) _
    refine XS.ifNo X36.here hx rfl (hb hby at_291) rfl ((if0 _ _).trans (feq (by decide : ¬ ((1 : Int32) = (0 : Int32)))).1) ?_
    show Steps p.tables e below (T36.setTop (mkF m 294 #[.val (.int p1), .val (.int p2), .val (.int p3), .val (.int p4), .val (.int (7 : Int32)), .val (.ref b1), .val (.ref b17), .val (.int (1 : Int32)), .unset] [])) _
    refine own_blk X36 hx bl0_294_4 (own_hb hby bd0_294_4) (pc' := 303) (Ls' := #[.val (.int p1), .val (.int p2), .val (.int p3), .val (.int p4), .val (.int (7 : Int32)), .val (.ref b1), .val (.ref b17), .val (.int (1 : Int32)), .val (.int (1 : Int32))]) (st' := [(.int (1 : Int32))]) rfl ?_
    show Steps p.tables e below (T36.setTop (mkF m 303 #[.val (.int p1), .val (.int p2), .val (.int p3), .val (.int p4), .val (.int (7 : Int32)), .val (.ref b1), .val (.ref b17), .val (.int (1 : Int32)), .val (.int (1 : Int32))] [(.int (1 : Int32))])) _
    refine XS.ifNo X36.here hx rfl (hb hby at_303) rfl ((if0 _ _).trans (feq (by decide : ¬ ((1 : Int32) = (0 : Int32)))).1) ?_
    show Steps p.tables e below (T36.setTop (mkF m 306 #[.val (.int p1), .val (.int p2), .val (.int p3), .val (.int p4), .val (.int (7 : Int32)), .val (.ref b1), .val (.ref b17), .val (.int (1 : Int32)), .val (.int (1 : Int32))] [])) _
    refine own_blk X36 hx bl0_306_1 (own_hb hby bd0_306_1) (pc' := 308) (Ls' := #[.val (.int p1), .val (.int p2), .val (.int p3), .val (.int p4), .val (.int (7 : Int32)), .val (.ref b1), .val (.ref b17), .val (.int (1 : Int32)), .val (.int (1 : Int32))]) (st' := [(.int (1 : Int32))]) rfl ?_
    show Steps p.tables e below (T36.setTop (mkF m 308 #[.val (.int p1), .val (.int p2), .val (.int p3), .val (.int p4), .val (.int (7 : Int32)), .val (.ref b1), .val (.ref b17), .val (.int (1 : Int32)), .val (.int (1 : Int32))] [(.int (1 : Int32))])) _
    refine XS.ifNo X36.here hx rfl (hb hby at_308) rfl ((if0 _ _).trans (feq (by decide : ¬ ((1 : Int32) = (0 : Int32)))).1) ?_
    show Steps p.tables e below (T36.setTop (mkF m 311 #[.val (.int p1), .val (.int p2), .val (.int p3), .val (.int p4), .val (.int (7 : Int32)), .val (.ref b1), .val (.ref b17), .val (.int (1 : Int32)), .val (.int (1 : Int32))] [])) _
    refine own_blk X36 hx bl0_311_2 (own_hb hby bd0_311_2) (pc' := 316) (Ls' := #[.val (.int p1), .val (.int p2), .val (.int p3), .val (.int p4), .val (.int (7 : Int32)), .val (.ref b1), .val (.ref b17), .val (.int (1 : Int32)), .val (.int (1 : Int32))]) (st' := [(.int (1 : Int32))]) rfl ?_
    show Steps p.tables e below (T36.setTop (mkF m 316 #[.val (.int p1), .val (.int p2), .val (.int p3), .val (.int p4), .val (.int (7 : Int32)), .val (.ref b1), .val (.ref b17), .val (.int (1 : Int32)), .val (.int (1 : Int32))] [(.int (1 : Int32))])) _
    exact retN X36 hx (t := .boolean) Bd.returns (by simp) (hb hby at_316) hr
  · show Q0_7 Z p1 p2 p3 p4 h0 n0 _ T36.heap _
    rw [e36]
    exact ⟨by rw [f0_7], N36⟩
theorem own_small {n : Nat} (P : Int32 → Prop) (h : ∀ i : Fin n, P (Int32.ofNat i.1)) {x : Int32} (h0 : ¬ x < 0) (h1 : x.toInt < n) : P x := by
  have e0 : (0 : Int32).toInt = 0 := by decide
  have hx : Int32.ofNat x.toNatClampNeg = x := (back32 h0).1
  have hp : 0 ≤ x.toInt := by rw [Int32.lt_iff_toInt_lt] at h0; omega
  have hlt : x.toNatClampNeg < n := by
    show x.toInt.toNat < n
    omega
  have q := h ⟨x.toNatClampNeg, hlt⟩
  rw [← hx]; exact q
theorem own_n7 (x : Int32) : (x &&& (7 : Int32)) = (0 : Int32) ∨ (x &&& (7 : Int32)) = (1 : Int32) ∨ (x &&& (7 : Int32)) = (2 : Int32) ∨ (x &&& (7 : Int32)) = (3 : Int32) ∨ (x &&& (7 : Int32)) = (4 : Int32) ∨ (x &&& (7 : Int32)) = (5 : Int32) ∨ (x &&& (7 : Int32)) = (6 : Int32) ∨ (x &&& (7 : Int32)) = (7 : Int32) := by
  have h := c_mask x 7 3 (by decide) (by decide)
  have e0 : (0 : Int32).toInt = 0 := by decide
  have h0 : ¬ (x &&& 7) < 0 := by rw [Int32.lt_iff_toInt_lt, h, e0]; omega
  exact own_small (n := 8) (fun u => u = (0 : Int32) ∨ u = (1 : Int32) ∨ u = (2 : Int32) ∨ u = (3 : Int32) ∨ u = (4 : Int32) ∨ u = (5 : Int32) ∨ u = (6 : Int32) ∨ u = (7 : Int32)) (by decide +kernel) h0 (by rw [h]; omega)
set_option maxRecDepth 65536 in
set_option maxHeartbeats 40000000 in
theorem comes_1 {Post : Tables → Env → Array Value → State → Outcome → State → Prop} (hpost : ∀ tb e args s v u, (limb_1_1.after args s (.returned v) u = true ∧ limb_1_2.after args s (.returned v) u = true ∧ True) → FrameEnd s (.returned v) u (Jvm.fieldLocs frame_1_writes args s ++ Jvm.arrayLocs frame_1_arrays args s ++ Jvm.staticLocs frame_1_statics s) 16 128 → Post tb e args s (.returned v) u) :
    ArmFor flags0 classFile x code maxLocals ret World_1 tables_1 room_1 Calls_1 rest_1 Pre_1 Post := by
  intro l hfl _ _ p e ha hc hk s m args below hf hA hF happ hP
  obtain ⟨hcalls, hrest, hpre⟩ := hP
  obtain ⟨-, -, -, hnamed, -, -, -, hat⟩ := (Spec.applies_iff hf).mp happ
  obtain ⟨hg, hn⟩ := and_e (Cond.before_iff.mp (show (Jvm.Cond.and given_1 narrow_1).before args s = true from hpre))
  obtain ⟨g1, g2⟩ := and_e hg
  obtain ⟨g3, g4⟩ := and_e g2
  obtain ⟨g5, g6⟩ := and_e g4
  obtain ⟨g7, g8⟩ := and_e g6
  obtain ⟨w0, w1, w2, w3, rfl⟩ : ∃ w0 w1 w2 w3 : Value, args = #[w0, w1, w2, w3] := by
    have hs : args.size = 4 := by simpa [Cond.value, given_1] using g1
    obtain ⟨L⟩ := args
    match L, hs with
    | [w0, w1, w2, w3], _ => exact ⟨w0, w1, w2, w3, rfl⟩
  have hw := fun d (hd : d ∈ tables_1) => atoms_spec (ws := Jvm.Cond.code x code maxLocals ret :: tables_1) hat d (List.mem_cons_of_mem _ hd)
  have hfit : Fit s := fun {y c} hc i hi => by
    obtain ⟨ha, rfl⟩ := Array.getElem?_eq_some_iff.mp hc
    have q := List.all_eq_true.mp ((Array.all_eq_true_iff_forall_mem.mp hF) _ (Array.getElem_mem ha)) i (List.mem_range.mpr hi)
    simpa [Array.getElem?_eq_getElem hi] using q
  obtain ⟨i0, ei0⟩ := is_v g3
  obtain rfl : w0 = (.int i0) := Option.some.inj ei0
  obtain ⟨i1, ei1⟩ := is_v g5
  obtain rfl : w1 = (.int i1) := Option.some.inj ei1
  obtain ⟨i2, ei2⟩ := is_v g7
  obtain rfl : w2 = (.int i2) := Option.some.inj ei2
  obtain ⟨i3, ei3⟩ := is_v g8
  obtain rfl : w3 = (.int i3) := Option.some.inj ei3
  rcases own_n7 i0 with hn7 | hn7 | hn7 | hn7 | hn7 | hn7 | hn7 | hn7
  · obtain ⟨n, o, h1, h2, h3, v, L, rfl, hQ, hq⟩ := rm0_0 l s _ hw tables_1 i0 i1 i2 i3  s.heap s.heap.size (Nat.le_refl _) hn7 p e ha hc hk s m _ below hf ((Spec.applies_iff_loose hf).mp happ).1 ⟨rfl, State.Warmed39.refl s, rfl⟩ trivial
    obtain ⟨hv, N⟩ := hQ
    rw [f0_0] at hv
    subst hv
    refine ⟨n, _, h1, h2, h3, hpost _ _ _ _ _ _ ⟨Cond.after_iff.mpr rfl, Cond.after_iff.mpr (eq_i res_at (Term.int_eval (1)) rfl), trivial⟩ ⟨hq.1, hq.2.1, (hq.2.2.sift fun y hy => Or.inr (N y hy)).mono (by decide) (by decide)⟩⟩
  · obtain ⟨n, o, h1, h2, h3, v, L, rfl, hQ, hq⟩ := rm0_1 l s _ hw tables_1 i0 i1 i2 i3  s.heap s.heap.size (Nat.le_refl _) hn7 p e ha hc hk s m _ below hf ((Spec.applies_iff_loose hf).mp happ).1 ⟨rfl, State.Warmed39.refl s, rfl⟩ trivial
    obtain ⟨hv, N⟩ := hQ
    rw [f0_1] at hv
    subst hv
    refine ⟨n, _, h1, h2, h3, hpost _ _ _ _ _ _ ⟨Cond.after_iff.mpr rfl, Cond.after_iff.mpr (eq_i res_at (Term.int_eval (1)) rfl), trivial⟩ ⟨hq.1, hq.2.1, (hq.2.2.sift fun y hy => Or.inr (N y hy)).mono (by decide) (by decide)⟩⟩
  · obtain ⟨n, o, h1, h2, h3, v, L, rfl, hQ, hq⟩ := rm0_2 l s _ hw tables_1 i0 i1 i2 i3  s.heap s.heap.size (Nat.le_refl _) hn7 p e ha hc hk s m _ below hf ((Spec.applies_iff_loose hf).mp happ).1 ⟨rfl, State.Warmed39.refl s, rfl⟩ trivial
    obtain ⟨hv, N⟩ := hQ
    rw [f0_2] at hv
    subst hv
    refine ⟨n, _, h1, h2, h3, hpost _ _ _ _ _ _ ⟨Cond.after_iff.mpr rfl, Cond.after_iff.mpr (eq_i res_at (Term.int_eval (1)) rfl), trivial⟩ ⟨hq.1, hq.2.1, (hq.2.2.sift fun y hy => Or.inr (N y hy)).mono (by decide) (by decide)⟩⟩
  · obtain ⟨n, o, h1, h2, h3, v, L, rfl, hQ, hq⟩ := rm0_3 l s _ hw tables_1 i0 i1 i2 i3  s.heap s.heap.size (Nat.le_refl _) hn7 p e ha hc hk s m _ below hf ((Spec.applies_iff_loose hf).mp happ).1 ⟨rfl, State.Warmed39.refl s, rfl⟩ trivial
    obtain ⟨hv, N⟩ := hQ
    rw [f0_3] at hv
    subst hv
    refine ⟨n, _, h1, h2, h3, hpost _ _ _ _ _ _ ⟨Cond.after_iff.mpr rfl, Cond.after_iff.mpr (eq_i res_at (Term.int_eval (1)) rfl), trivial⟩ ⟨hq.1, hq.2.1, (hq.2.2.sift fun y hy => Or.inr (N y hy)).mono (by decide) (by decide)⟩⟩
  · obtain ⟨n, o, h1, h2, h3, v, L, rfl, hQ, hq⟩ := rm0_4 l s _ hw tables_1 i0 i1 i2 i3  s.heap s.heap.size (Nat.le_refl _) hn7 p e ha hc hk s m _ below hf ((Spec.applies_iff_loose hf).mp happ).1 ⟨rfl, State.Warmed39.refl s, rfl⟩ trivial
    obtain ⟨hv, N⟩ := hQ
    rw [f0_4] at hv
    subst hv
    refine ⟨n, _, h1, h2, h3, hpost _ _ _ _ _ _ ⟨Cond.after_iff.mpr rfl, Cond.after_iff.mpr (eq_i res_at (Term.int_eval (1)) rfl), trivial⟩ ⟨hq.1, hq.2.1, (hq.2.2.sift fun y hy => Or.inr (N y hy)).mono (by decide) (by decide)⟩⟩
  · obtain ⟨n, o, h1, h2, h3, v, L, rfl, hQ, hq⟩ := rm0_5 l s _ hw tables_1 i0 i1 i2 i3  s.heap s.heap.size (Nat.le_refl _) hn7 p e ha hc hk s m _ below hf ((Spec.applies_iff_loose hf).mp happ).1 ⟨rfl, State.Warmed39.refl s, rfl⟩ trivial
    obtain ⟨hv, N⟩ := hQ
    rw [f0_5] at hv
    subst hv
    refine ⟨n, _, h1, h2, h3, hpost _ _ _ _ _ _ ⟨Cond.after_iff.mpr rfl, Cond.after_iff.mpr (eq_i res_at (Term.int_eval (1)) rfl), trivial⟩ ⟨hq.1, hq.2.1, (hq.2.2.sift fun y hy => Or.inr (N y hy)).mono (by decide) (by decide)⟩⟩
  · obtain ⟨n, o, h1, h2, h3, v, L, rfl, hQ, hq⟩ := rm0_6 l s _ hw tables_1 i0 i1 i2 i3  s.heap s.heap.size (Nat.le_refl _) hn7 p e ha hc hk s m _ below hf ((Spec.applies_iff_loose hf).mp happ).1 ⟨rfl, State.Warmed39.refl s, rfl⟩ trivial
    obtain ⟨hv, N⟩ := hQ
    rw [f0_6] at hv
    subst hv
    refine ⟨n, _, h1, h2, h3, hpost _ _ _ _ _ _ ⟨Cond.after_iff.mpr rfl, Cond.after_iff.mpr (eq_i res_at (Term.int_eval (1)) rfl), trivial⟩ ⟨hq.1, hq.2.1, (hq.2.2.sift fun y hy => Or.inr (N y hy)).mono (by decide) (by decide)⟩⟩
  · obtain ⟨n, o, h1, h2, h3, v, L, rfl, hQ, hq⟩ := rm0_7 l s _ hw tables_1 i0 i1 i2 i3  s.heap s.heap.size (Nat.le_refl _) hn7 p e ha hc hk s m _ below hf ((Spec.applies_iff_loose hf).mp happ).1 ⟨rfl, State.Warmed39.refl s, rfl⟩ trivial
    obtain ⟨hv, N⟩ := hQ
    rw [f0_7] at hv
    subst hv
    refine ⟨n, _, h1, h2, h3, hpost _ _ _ _ _ _ ⟨Cond.after_iff.mpr rfl, Cond.after_iff.mpr (eq_i res_at (Term.int_eval (1)) rfl), trivial⟩ ⟨hq.1, hq.2.1, (hq.2.2.sift fun y hy => Or.inr (N y hy)).mono (by decide) (by decide)⟩⟩
theorem main_1_1 : Claimed_1_1 := comes_1 fun _ _ _ _ _ _ h hF => ⟨h.1, hF⟩
theorem main_1_2 : Claimed_1_2 := comes_1 fun _ _ _ _ _ _ h hF => ⟨h.2.1, hF⟩
end Jvm.Pilot.@@N@@
namespace Jvm.Pilot.@@N@@
open Jvm Jvm.ClassFile Sem Op Lib Jvm.Free Jvm.Stand Jvm.Pilot.@@N@@.Jvm.D
/-! MADE BY PROGRAM (witnessworld.py) out of the Statement's table words and the real class files: 9 classes; the members and pool entries that the words name. The judged class is class 1, her method 3. -/
namespace start1
open Jvm.ClassFile
def u (s : String) : CpInfo := .utf8 (stringToUtf16 s)
/-- a pool by its gaps: so many unusable entries, then the entry; so many at the end -/
def gap : Nat → List CpInfo → List CpInfo
  | 0, r => r
  | n + 1, r => .unusable :: gap n r
def poolList (es : List (Nat × CpInfo)) (last : Nat) : List CpInfo := es.foldr (fun e r => gap e.1 (e.2 :: r)) (gap last [])
def pool (es : List (Nat × CpInfo)) (last : Nat) : Array CpInfo := ⟨poolList es last⟩
def fileOf (pool : Array CpInfo) (this : Nat) (attrs : Array Attribute := #[]) (ms : Array MethodInfo := #[]) (fl : Nat := 33) (sup : Nat := 0) (ifs : Array Nat := #[]) (fds : Array FieldInfo := #[]) : ClassFile where
  minorVersion := 0
  majorVersion := 65
  constantPool := pool
  accessFlags := fl
  thisClass := this
  superClass := sup
  interfaces := ifs
  fields := fds
  methods := ms
  attributes := attrs
def plain (name : String) (sup : Option ClassId) : Class where
  name := name
  kind := .ordinary
  loader := none
  accessFlags := 33
  super := sup
  interfaces := #[]
  cf := none
  fields := #[]
  methods := #[]
  instanceTypes := #[]
  staticTypes := #[]
  resolved := #[]
  callSites := []
  init := .initialized
  statics := none
  mirror := none

def pool0 : Array CpInfo := pool [(5, u "<init>"), (0, u "()V"), (1, .class_ 10), (1, u "java/lang/Object")] 113

def k0m0 : Method := { name := "<init>", desc := "()V", sig := { parameters := [], returnType := none }, accessFlags := 1, code := none }
/-- java/lang/Object -/
def k0 : Class := { plain "java/lang/Object" none with
  accessFlags := 33
  interfaces := #[]
  cf := some (fileOf pool0 8 #[] #[{ accessFlags := 1, nameIndex := 5, descriptorIndex := 6, attributes := #[] }] 33 0 #[] #[])
  fields := #[]
  methods := #[k0m0]
  instanceTypes := #[]
  staticTypes := #[]
  resolved := Array.replicate 124 none
  statics := none }

def pool1 : Array CpInfo := pool [(2, .class_ 4), (1, u "java/lang/Object"), (0, u "<init>"), (0, u "()V"), (0, .methodref 8 9), (0, .class_ 10), (0, .nameAndType 11 12), (0, u "com/example/varel/varel/text/EditDistance"), (0, u "start"), (0, u "([I)[I"), (0, .methodref 14 15), (0, .class_ 16), (0, .nameAndType 17 18), (0, u "com/example/varel/varel/text/EditDistanceStartPinLaw"), (0, u "at"), (0, u "([II)Z"), (0, .methodref 14 20), (0, .nameAndType 21 22), (0, u "kept"), (0, u "([III)Z"), (3, u "law"), (0, u "(IIII)Z")] 4

def k1m0 : Method := { name := "<init>", desc := "()V", sig := { parameters := [], returnType := none }, accessFlags := 2, code := none }
def k1c1 : Code := { maxStack := 2, maxLocals := 2, code := method_2_code, exceptionTable := #[], attributes := #[] }
def k1m1 : Method := { name := "at", desc := "([II)Z", sig := { parameters := [(.array .int), .int], returnType := some .boolean }, accessFlags := 10, code := some k1c1 }
def k1c2 : Code := { maxStack := 2, maxLocals := 3, code := method_3_code, exceptionTable := #[], attributes := #[] }
def k1m2 : Method := { name := "kept", desc := "([III)Z", sig := { parameters := [(.array .int), .int, .int], returnType := some .boolean }, accessFlags := 10, code := some k1c2 }
def k1c3 : Code := { maxStack := 4, maxLocals := 9, code := code, exceptionTable := #[], attributes := #[] }
def k1m3 : Method := { name := "law", desc := "(IIII)Z", sig := { parameters := [.int, .int, .int, .int], returnType := some .boolean }, accessFlags := 9, code := some k1c3 }
/-- com/example/varel/varel/text/EditDistanceStartPinLaw -/
def k1 : Class := { plain "com/example/varel/varel/text/EditDistanceStartPinLaw" (some 0) with
  accessFlags := 49
  interfaces := #[]
  cf := some (fileOf pool1 14 #[] #[{ accessFlags := 2, nameIndex := 5, descriptorIndex := 6, attributes := #[] }, { accessFlags := 10, nameIndex := 17, descriptorIndex := 18, attributes := #[] }, { accessFlags := 10, nameIndex := 21, descriptorIndex := 22, attributes := #[] }, { accessFlags := 9, nameIndex := 26, descriptorIndex := 27, attributes := #[] }] 49 2 #[] #[])
  fields := #[]
  methods := #[k1m0, k1m1, k1m2, k1m3]
  instanceTypes := #[]
  staticTypes := #[]
  resolved := Array.replicate 32 none
  statics := none }

def pool2 : Array CpInfo := pool [(2, .class_ 4), (1, u "java/lang/Object"), (0, u "<init>"), (0, u "()V"), (1, .class_ 10), (1, u "com/example/varel/varel/text/EditDistance"), (25, u "start"), (0, u "([I)[I")] 14

def k2m0 : Method := { name := "<init>", desc := "()V", sig := { parameters := [], returnType := none }, accessFlags := 2, code := none }
def k2c1 : Code := { maxStack := 3, maxLocals := 3, code := prog_54_method_4_code, exceptionTable := #[], attributes := #[] }
def k2m1 : Method := { name := "start", desc := "([I)[I", sig := { parameters := [(.array .int)], returnType := some (.array .int) }, accessFlags := 9, code := some k2c1 }
/-- com/example/varel/varel/text/EditDistance -/
def k2 : Class := { plain "com/example/varel/varel/text/EditDistance" (some 0) with
  accessFlags := 33
  interfaces := #[]
  cf := some (fileOf pool2 8 #[] #[{ accessFlags := 2, nameIndex := 5, descriptorIndex := 6, attributes := #[] }, { accessFlags := 9, nameIndex := 36, descriptorIndex := 37, attributes := #[] }] 33 2 #[] #[])
  fields := #[]
  methods := #[k2m0, k2m1]
  instanceTypes := #[]
  staticTypes := #[]
  resolved := Array.replicate 52 none
  statics := none }

def pool3 : Array CpInfo := pool [(1, u "java/lang/Cloneable"), (0, .class_ 1), (0, u "java/lang/Object"), (0, .class_ 3)] 3

/-- java/lang/Cloneable -/
def k3 : Class := { plain "java/lang/Cloneable" (some 0) with
  accessFlags := 1537
  interfaces := #[]
  cf := some (fileOf pool3 2 #[] #[] 1537 4 #[] #[])
  fields := #[]
  methods := #[]
  instanceTypes := #[]
  staticTypes := #[]
  resolved := Array.replicate 8 none
  statics := none }

def pool4 : Array CpInfo := pool [(1, u "java/io/Serializable"), (0, .class_ 1), (0, u "java/lang/Object"), (0, .class_ 3)] 3

/-- java/io/Serializable -/
def k4 : Class := { plain "java/io/Serializable" (some 0) with
  accessFlags := 1537
  interfaces := #[]
  cf := some (fileOf pool4 2 #[] #[] 1537 4 #[] #[])
  fields := #[]
  methods := #[]
  instanceTypes := #[]
  staticTypes := #[]
  resolved := Array.replicate 8 none
  statics := none }

/-- the primitive byte -/
def k5 : Class := { plain "byte" none with kind := .primitive 'B', accessFlags := 0x411 }
/-- [B -/
def k6 : Class := { plain "[B" (some 0) with kind := .array 5 .byte, interfaces := #[3, 4], accessFlags := 1041 }

/-- the primitive int -/
def k7 : Class := { plain "int" none with kind := .primitive 'I', accessFlags := 0x411 }
/-- [I -/
def k8 : Class := { plain "[I" (some 0) with kind := .array 7 .int, interfaces := #[3, 4], accessFlags := 1041 }

def heap : Heap := #[]
def classes : Array Class := #[k0, k1, k2, k3, k4, k5, k6, k7, k8]
def interned : List (Array UInt16 × Addr) := []
def slotsUsed : Nat := 0
def theMethod : MethodId := ⟨1, 3⟩
def args0 : Array Value := #[.int 3, .int 7, .int 2, .int 9]
def aboutOver (below : List Frame) : State where
  vm := { classes := classes, interned := interned.toArray }
  heap := heap
  slotsUsed := slotsUsed
  threads := #[{ frames := .invoking theMethod args0 :: below }]
def below0 : List Frame := [.native { method := ⟨0, 0⟩, args := #[] }]
def about1 : State := aboutOver below0
def p0 : Program := .bare "" "" ""
def e0 : Env := launch0.env 0 0 0
theorem w_frames : about1.frames = Frame.invoking theMethod args0 :: below0 := rfl
set_option maxRecDepth 65536 in
theorem w_args : argsFit about1.vm theMethod args0 = true := by decide +kernel
set_option maxRecDepth 65536 in
theorem w_heap : heapFits about1 = true := by decide +kernel
set_option maxRecDepth 65536 in
theorem w_runnable : about1.curStatus? = some .runnable := by decide +kernel
set_option maxRecDepth 65536 in
theorem w_alone : about1.alone = true := by decide +kernel
set_option maxRecDepth 65536 in
theorem w_named : about1.methodNamed? x = some theMethod := by decide +kernel
set_option maxRecDepth 65536 in
theorem w_hears : about1.hears theMethod below0 = true := by decide +kernel
set_option maxRecDepth 65536 in
theorem w_ripe : about1.ripe theMethod args0 below0 = true := by decide +kernel
theorem w_running : about1.status = .running := rfl
set_option maxRecDepth 65536 in
theorem w_room : about1.hasRoom e0.platform room_1 = true :=
  launch0.hasRoom_least _ room_1 (by decide +kernel) (by decide +kernel) (by decide +kernel) (by decide +kernel) (by decide +kernel) (by decide +kernel)
theorem allAtoms_all (ts : List Jvm.Cond) (a : Array Jvm.Value) (st : Jvm.State) : (allAtoms ts).before a st = ts.all (fun c => c.before a st) := by
  induction ts with
  | nil => rfl
  | cons c t ih =>
    show (Jvm.Cond.and c (allAtoms t)).before a st = _
    rw [Jvm.Cond.before_and, ih, List.all_cons]
def words1 : List Jvm.Cond := Jvm.Cond.code x code maxLocals ret :: tables_1
/-- a 'code' word, met by the world's own term for the bytes: nothing is compared byte by byte -/
theorem code_word {y : MethodName} {bytes : ByteArray} {mx : Nat} {rt : Option FieldType} {a : Array Value} {s : State} {m : MethodId} {meth : Method} {c : Code} (h1 : s.methodNamed? y = some m) (h2 : s.vm.method? m = some meth) (h3 : meth.code = some c) (h4 : c.code = bytes)
    (h5 : (c.maxLocals == mx && c.exceptionTable.isEmpty && decide (c.maxStack ≤ mostOperands) && decide (meth.sig.returnType = rt) && !meth.locks && decide (parseMethodDescriptor y.desc = some meth.sig)) = true) : (Jvm.Cond.code y bytes mx rt).before a s = true := by
  simp only [Bool.and_eq_true, beq_iff_eq, Bool.not_eq_true', decide_eq_true_eq] at h5
  obtain ⟨⟨⟨⟨⟨g1, g2⟩, g3⟩, g4⟩, g5⟩, g6⟩ := h5
  simp [Cond.before, Cond.holds, Cond.value, h1, h2, h3, h4, g1, g2, g3, g4, g5, g6]
def isCode : Jvm.Cond → Bool
  | .code _ _ _ _ => true
  | _ => false
theorem all_split {L : List Jvm.Cond} {P : Jvm.Cond → Bool} (h1 : L.all (fun c => isCode c || P c) = true) (h2 : ∀ c ∈ L.filter isCode, P c = true) : L.all P = true := by
  refine List.all_eq_true.mpr fun c hc => ?_
  have h := List.all_eq_true.mp h1 c hc
  rcases Bool.eq_false_or_eq_true (isCode c) with hi | hi
  · exact h2 c (List.mem_filter.mpr ⟨hc, hi⟩)
  · simpa [hi] using h
set_option maxRecDepth 65536 in
theorem w_c0 : (Jvm.Cond.code x code maxLocals ret).before args0 about1 = true := code_word (m := ⟨1, 3⟩) (meth := k1m3) (c := k1c3) (by decide +kernel) rfl rfl rfl (by decide +kernel)
set_option maxRecDepth 65536 in
theorem w_c1 : (Jvm.Cond.code ({ cls := "com/example/varel/varel/text/EditDistance", name := "start", desc := "([I)[I" } : Jvm.MethodName) prog_54_method_4_code (3 : Nat) (Option.some (Jvm.ClassFile.FieldType.array Jvm.ClassFile.FieldType.int))).before args0 about1 = true := code_word (m := ⟨2, 1⟩) (meth := k2m1) (c := k2c1) (by decide +kernel) rfl rfl rfl (by decide +kernel)
set_option maxRecDepth 65536 in
theorem w_c2 : (Jvm.Cond.code ({ cls := "com/example/varel/varel/text/EditDistanceStartPinLaw", name := "at", desc := "([II)Z" } : Jvm.MethodName) method_2_code (2 : Nat) (Option.some Jvm.ClassFile.FieldType.boolean)).before args0 about1 = true := code_word (m := ⟨1, 1⟩) (meth := k1m1) (c := k1c1) (by decide +kernel) rfl rfl rfl (by decide +kernel)
set_option maxRecDepth 65536 in
theorem w_c3 : (Jvm.Cond.code ({ cls := "com/example/varel/varel/text/EditDistanceStartPinLaw", name := "kept", desc := "([III)Z" } : Jvm.MethodName) method_3_code (3 : Nat) (Option.some Jvm.ClassFile.FieldType.boolean)).before args0 about1 = true := code_word (m := ⟨1, 2⟩) (meth := k1m2) (c := k1c2) (by decide +kernel) rfl rfl rfl (by decide +kernel)
def codes1 : List Jvm.Cond := [Jvm.Cond.code x code maxLocals ret, Jvm.Cond.code ({ cls := "com/example/varel/varel/text/EditDistance", name := "start", desc := "([I)[I" } : Jvm.MethodName) prog_54_method_4_code (3 : Nat) (Option.some (Jvm.ClassFile.FieldType.array Jvm.ClassFile.FieldType.int)), Jvm.Cond.code ({ cls := "com/example/varel/varel/text/EditDistanceStartPinLaw", name := "at", desc := "([II)Z" } : Jvm.MethodName) method_2_code (2 : Nat) (Option.some Jvm.ClassFile.FieldType.boolean), Jvm.Cond.code ({ cls := "com/example/varel/varel/text/EditDistanceStartPinLaw", name := "kept", desc := "([III)Z" } : Jvm.MethodName) method_3_code (3 : Nat) (Option.some Jvm.ClassFile.FieldType.boolean)]
set_option maxRecDepth 65536 in
theorem codes_eq : words1.filter isCode = codes1 := rfl
theorem w_codes : ∀ c ∈ words1.filter isCode, c.before args0 about1 = true := by
  rw [codes_eq]
  intro c hc
  simp only [codes1, List.mem_cons, List.not_mem_nil, or_false] at hc
  rcases hc with rfl | rfl | rfl | rfl
  · exact w_c0
  · exact w_c1
  · exact w_c2
  · exact w_c3
set_option maxRecDepth 65536 in
theorem w_t1 : words1.all (fun c => isCode c || c.before args0 about1) = true := by decide +kernel
theorem w_tables : (allAtoms (Jvm.Cond.code x code maxLocals ret :: tables_1)).before args0 about1 = true := by
  rw [allAtoms_all]
  show words1.all (fun c => c.before args0 about1) = true
  refine all_split ?_ w_codes
  rw [w_t1]
set_option maxRecDepth 65536 in
theorem w_case : (Jvm.Cond.and given_1 narrow_1).before args0 about1 = true := by decide +kernel
theorem w_applies : (headSpec (Jvm.Cond.code x code maxLocals ret :: tables_1) room_1).applies x e0.platform about1 = true :=
  (Spec.applies_iff w_frames).mpr ⟨w_running, w_runnable, w_alone, w_named, w_hears, w_ripe, w_room, w_tables⟩
theorem atStart : AtStart classFile x code maxLocals ret World_1 tables_1 room_1 Calls_1 rest_1 Pre_1 launch0 p0 e0 about1 theMethod args0 below0 :=
  ⟨lists_1, trivial, launch0.admits_env _ _ _, launch0.least_env, fairChoices_fair.cas, fairChoices_fair.clock, w_frames, w_args, w_heap, w_applies, trivial, trivial, w_case⟩
end start1
theorem witness_1 : WitnessClaimed_1 := ⟨start1.p0, start1.e0, start1.about1, start1.theMethod, start1.args0, start1.below0, start1.atStart⟩
end Jvm.Pilot.@@N@@
