import JvmDerived
import JvmDerived.Pilot.@@N@@Statement
import JvmDerived.Pilot.@@N@@Code
set_option linter.unusedVariables false
set_option linter.unusedSimpArgs false
namespace Jvm.RoadKit
open Sem ClassFile Op Lib Jvm.Stand Jvm.Free Jvm.LawKit
section New
variable {p : Program} {l : Launch} {e : Env} {R : Room} {s : State} {m : MethodId} {args : Array Value} {below : List Frame} {meth : Method} {c : Code} {T : State} {locs : List Loc} {cells slots : Nat}
theorem retI (X : Stand p l e R s m args below meth c T locs cells slots) (hx : p.tables.exec = Jvm.exec) {pc : Nat} {Ls : Array Slot} {z : Int32} {rest : List Value} (hret : meth.sig.returnType = some .int) (hd : decode c.code pc = .ok (.ireturn, 1)) {fs : List Frame}
    (hl : ∀ (f : JFrame) (acts : List Action), f.method = m → f.locked = none → f.entered = [] → (doReturn e (T.setTop f) acts (some (.int z))).1 = T.setFrames fs) : Steps p.tables e below (T.setTop (mkF m pc Ls (.int z :: rest))) (T.setFrames fs) := by
  have hm' : T.vm.method? m = some meth := X.method'
  have hn : narrow .int (.int z) = .int z := rfl
  show Steps p.tables e below (T.setTop { method := m, pc := pc, locals := Ls, stack := _ :: rest, locked := none }) _
  jvm_step X.here [X.here.top, hx, hd, hm', hret, hn]
  first | (intro acts; rw [hl _ acts rfl rfl rfl]) | rw [hl _ _ rfl rfl rfl]
  exact Steps.refl _
end New
end Jvm.RoadKit
namespace Jvm.Pilot.@@N@@
open Jvm Jvm.ClassFile Sem Op Lib Jvm.Free Jvm.Stand Jvm.LawKit Jvm.RoadKit Bundle Jvm.Pilot.@@N@@.Jvm.D
/-! own_x1: one plain instruction over locals and stack, as a function; own_blk: a stretch of them in one row -/
def own_x1 : Instr → Nat → Array Slot → List Value → Option (Array Slot × List Value)
  | .iload_n k, 1, Ls, st => match Ls[k.val]? with | some (.val (.int x)) => some (Ls, .int x :: st) | _ => none
  | .iload k, 2, Ls, st => match Ls[k]? with | some (.val (.int x)) => some (Ls, .int x :: st) | _ => none
  | .lload_n k, 1, Ls, st => match Ls[k.val]? with | some (.val (.long x)) => some (Ls, .long x :: st) | _ => none
  | .lload k, 2, Ls, st => match Ls[k]? with | some (.val (.long x)) => some (Ls, .long x :: st) | _ => none
  | .aload_n k, 1, Ls, st => match Ls[k.val]? with | some (.val (.ref x)) => some (Ls, .ref x :: st) | some (.val .null) => some (Ls, .null :: st) | _ => none
  | .aload k, 2, Ls, st => match Ls[k]? with | some (.val (.ref x)) => some (Ls, .ref x :: st) | some (.val .null) => some (Ls, .null :: st) | _ => none
  | .istore_n k, 1, Ls, .int x :: st => match storeLocals Ls k.val (.int x) with | some L => some (L, st) | none => none
  | .istore k, 2, Ls, .int x :: st => match storeLocals Ls k (.int x) with | some L => some (L, st) | none => none
  | .lstore_n k, 1, Ls, .long x :: st => match storeLocals Ls k.val (.long x) with | some L => some (L, st) | none => none
  | .lstore k, 2, Ls, .long x :: st => match storeLocals Ls k (.long x) with | some L => some (L, st) | none => none
  | .astore_n k, 1, Ls, .ref x :: st => match storeLocals Ls k.val (.ref x) with | some L => some (L, st) | none => none
  | .astore k, 2, Ls, .ref x :: st => match storeLocals Ls k (.ref x) with | some L => some (L, st) | none => none
  | .iconst i, 1, Ls, st => some (Ls, .int (Int32.ofInt i) :: st)
  | .bipush i, 2, Ls, st => some (Ls, .int (Int8.ofInt i).toInt32 :: st)
  | .sipush i, 3, Ls, st => some (Ls, .int (Int16.ofInt i).toInt32 :: st)
  | .lconst k, 1, Ls, st => some (Ls, .long (Int64.ofNat k) :: st)
  | .aconst_null, 1, Ls, st => some (Ls, .null :: st)
  | .iadd, 1, Ls, .int y :: .int x :: st => some (Ls, .int (x + y) :: st)
  | .isub, 1, Ls, .int y :: .int x :: st => some (Ls, .int (x - y) :: st)
  | .imul, 1, Ls, .int y :: .int x :: st => some (Ls, .int (x * y) :: st)
  | .iand, 1, Ls, .int y :: .int x :: st => some (Ls, .int (x &&& y) :: st)
  | .ior, 1, Ls, .int y :: .int x :: st => some (Ls, .int (x ||| y) :: st)
  | .ixor, 1, Ls, .int y :: .int x :: st => some (Ls, .int (x ^^^ y) :: st)
  | .ishl, 1, Ls, .int y :: .int x :: st => some (Ls, .int (x <<< (y &&& 31)) :: st)
  | .ishr, 1, Ls, .int y :: .int x :: st => some (Ls, .int (x >>> (y &&& 31)) :: st)
  | .iushr, 1, Ls, .int y :: .int x :: st => some (Ls, .int ((x.toUInt32 >>> (y &&& 31).toUInt32).toInt32) :: st)
  | .ladd, 1, Ls, .long y :: .long x :: st => some (Ls, .long (x + y) :: st)
  | .lsub, 1, Ls, .long y :: .long x :: st => some (Ls, .long (x - y) :: st)
  | .lmul, 1, Ls, .long y :: .long x :: st => some (Ls, .long (x * y) :: st)
  | .land, 1, Ls, .long y :: .long x :: st => some (Ls, .long (x &&& y) :: st)
  | .lor, 1, Ls, .long y :: .long x :: st => some (Ls, .long (x ||| y) :: st)
  | .lxor, 1, Ls, .long y :: .long x :: st => some (Ls, .long (x ^^^ y) :: st)
  | .lushr, 1, Ls, .int y :: .long x :: st => some (Ls, .long ((x.toUInt64 >>> (y &&& 0x3f).toInt64.toUInt64).toInt64) :: st)
  | .ineg, 1, Ls, .int x :: st => some (Ls, .int (-x) :: st)
  | .i2l, 1, Ls, .int x :: st => some (Ls, .long x.toInt64 :: st)
  | .i2b, 1, Ls, .int x :: st => some (Ls, .int x.toInt8.toInt32 :: st)
  | .i2c, 1, Ls, .int x :: st => some (Ls, .int x.toUInt32.toUInt16.toUInt32.toInt32 :: st)
  | .i2s, 1, Ls, .int x :: st => some (Ls, .int x.toInt16.toInt32 :: st)
  | .lcmp, 1, Ls, .long y :: .long x :: st => some (Ls, .int (lcmpW x y) :: st)
  | .dup, 1, Ls, .int x :: st => some (Ls, .int x :: .int x :: st)
  | .dup, 1, Ls, .ref x :: st => some (Ls, .ref x :: .ref x :: st)
  | .iinc k i, 3, Ls, st => match Ls[k]? with | some (.val (.int x)) => (match storeLocals Ls k (.int (x + Int32.ofInt i)) with | some L => some (L, st) | none => none) | _ => none
  | _, _, _, _ => none
section OwnBlk
variable {p : Program} {l : Launch} {e : Env} {R : Room} {s : State} {m : MethodId} {args : Array Value} {below : List Frame} {meth : Method} {c : Code} {T target : State} {locs : List Loc} {cells slots : Nat}
set_option maxHeartbeats 4000000 in
theorem own_x1_ok (X : Stand p l e R s m args below meth c T locs cells slots) (hx : p.tables.exec = Jvm.exec) {i : Instr} {len pc : Nat} {Ls Ls' : Array Slot} {st st' : List Value} (hd : decode c.code pc = .ok (i, len)) (h : own_x1 i len Ls st = some (Ls', st'))
    (k : Steps p.tables e below (T.setTop (mkF m (pc + len) Ls' st')) target) : Steps p.tables e below (T.setTop (mkF m pc Ls st)) target := by
  unfold own_x1 at h
  split at h
  all_goals (try (split at h))
  all_goals (try (split at h))
  all_goals (try (cases h; done))
  all_goals (cases h)
  all_goals first
    | exact XS.iloadN X.here hx rfl hd (by assumption) k
    | exact XS.iload X.here hx rfl hd (by assumption) k
    | exact XS.lloadN X.here hx rfl hd (by assumption) k
    | exact XS.lload X.here hx rfl hd (by assumption) k
    | exact XS.aloadN X.here hx rfl hd (by assumption) rfl k
    | exact XS.aload X.here hx rfl hd (by assumption) rfl k
    | exact XS.istoreN X.here hx rfl hd rfl (by assumption) k
    | exact XS.istore X.here hx rfl hd rfl (by assumption) k
    | exact XS.lstoreN X.here hx rfl hd rfl (by assumption) k
    | exact XS.lstore X.here hx rfl hd rfl (by assumption) k
    | exact XS.astoreN X.here hx rfl hd rfl rfl (by assumption) k
    | exact XS.astore X.here hx rfl hd rfl rfl (by assumption) k
    | exact XS.iconst X.here hx rfl hd k
    | exact XS.bipush X.here hx rfl hd k
    | exact XS.sipush X.here hx rfl hd k
    | exact XS.lconst X.here hx rfl hd k
    | exact XS.aconstNull X.here hx rfl hd k
    | exact XS.iadd X.here hx rfl hd rfl k
    | exact XS.isub X.here hx rfl hd rfl k
    | exact XS.imul X.here hx rfl hd rfl k
    | exact XS.iand X.here hx rfl hd rfl k
    | exact XS.ior X.here hx rfl hd rfl k
    | exact XS.ixor X.here hx rfl hd rfl k
    | exact XS.ishl X.here hx rfl hd rfl k
    | exact XS.ishr X.here hx rfl hd rfl k
    | exact XS.iushr X.here hx rfl hd rfl k
    | exact XS.ladd X.here hx rfl hd rfl k
    | exact XS.lsub X.here hx rfl hd rfl k
    | exact XS.lmul X.here hx rfl hd rfl k
    | exact XS.land X.here hx rfl hd rfl k
    | exact XS.lor X.here hx rfl hd rfl k
    | exact XS.lxor X.here hx rfl hd rfl k
    | exact XS.lushr X.here hx rfl hd rfl k
    | exact XS.ineg X.here hx rfl hd rfl k
    | exact XS.i2l X.here hx rfl hd rfl k
    | exact XS.i2b X.here hx rfl hd rfl k
    | exact XS.i2c X.here hx rfl hd rfl k
    | exact XS.i2s X.here hx rfl hd rfl k
    | exact XS.lcmp X.here hx rfl hd rfl k
    | exact XS.dup X.here hx rfl hd rfl rfl k
    | exact XS.iinc X.here hx rfl hd (by assumption) (by assumption) k
/-- a stretch: each row's pc, instruction and length; a 'goto' among them goes where its row says -/
def own_xs : List (Nat × Instr × Nat) → Nat → Array Slot → List Value → Option (Nat × Array Slot × List Value)
  | [], pc, Ls, st => some (pc, Ls, st)
  | (q, .goto o, 3) :: is, pc, Ls, st => if q = pc then own_xs is ((pc : Int) + o).toNat Ls st else none
  | (q, i, len) :: is, pc, Ls, st => if q = pc then (match own_x1 i len Ls st with | some (L, t) => own_xs is (pc + len) L t | none => none) else none
def own_dec (b : ByteArray) (is : List (Nat × Instr × Nat)) : Bool := is.all fun r => (match decode b r.1 with | .ok (i, n) => decide (i = r.2.1) && decide (n = r.2.2) | .error _ => false) && (match r.2.1 with | .goto o => decide (0 ≤ (r.1 : Int) + o) | _ => true)
theorem own_blk (X : Stand p l e R s m args below meth c T locs cells slots) (hx : p.tables.exec = Jvm.exec) : ∀ (is : List (Nat × Instr × Nat)) {pc pc' : Nat} {Ls Ls' : Array Slot} {st st' : List Value}, own_dec c.code is = true → own_xs is pc Ls st = some (pc', Ls', st') →
    Steps p.tables e below (T.setTop (mkF m pc' Ls' st')) target → Steps p.tables e below (T.setTop (mkF m pc Ls st)) target := by
  intro is
  induction is with
  | nil => intro pc pc' Ls Ls' st st' _ h k; simp only [own_xs] at h; cases h; exact k
  | cons r is ih =>
    intro pc pc' Ls Ls' st st' hd h k
    simp only [own_dec, List.all_cons, Bool.and_eq_true] at hd
    obtain ⟨⟨h1, h2⟩, h3⟩ := hd
    obtain ⟨q, i, len⟩ := r
    have hdec : decode c.code q = .ok (i, len) := by
      revert h1
      dsimp only
      cases decode c.code q with
      | error _ => intro h; cases h
      | ok v => obtain ⟨i', n'⟩ := v; intro h; simp only [Bool.and_eq_true, decide_eq_true_eq] at h; obtain ⟨rfl, rfl⟩ := h; rfl
    have h3' : own_dec c.code is = true := h3
    unfold own_xs at h
    split at h
    · cases ‹_ :: _ = []›
    · rename_i e1
      cases e1
      split at h
      · rename_i e2
        subst e2
        exact XS.goto X.here hx rfl rfl hdec (by simpa using h2) rfl (ih h3' h k)
      · cases h
    · rename_i e1
      cases e1
      split at h
      · rename_i e2
        subst e2
        split at h
        · rename_i e3
          exact own_x1_ok X hx hdec e3 (ih h3' h k)
        · cases h
      · cases h
theorem own_hb {c : Code} {b : ByteArray} {is : List (Nat × Instr × Nat)} (h : c.code = b) (h2 : own_dec b is = true) : own_dec c.code is = true := h ▸ h2
end OwnBlk
/-! the three calls by contract, each as one 'obtain' (over the library's callS, specialBack, virtualBack and backOf) -/
section OwnCall
variable {p : Program} {l : Launch} {e : Env} {R : Room} {s : State} {m : MethodId} {args : Array Value} {below : List Frame} {meth : Method} {c : Code} {T : State} {locs : List Loc} {cells slots : Nat} {Z : State} {a0 : Array Value} {h : Heap}
theorem own_callS (X : Stand p l e R s m args below meth c T locs cells slots) (hx : p.tables.exec = Jvm.exec) (hZ : Z.Warmed39 s.vm) {own : String} {index : Nat} {y : MethodName} {bytes : ByteArray} {maxL : Nat} {ret : Option FieldType} {rm : Room} {Q : Option Value → Heap → List Loc → Prop}
    (hown : s.vm.findClass own = some m.cls) (w1 : (Jvm.Cond.methodLink own index y).before a0 Z = true) (w2 : (Jvm.Cond.static y).before a0 Z = true) (w3 : (Jvm.Cond.initialized y.cls).before a0 Z = true) (w4 : (Jvm.Cond.code y bytes maxL ret).before a0 Z = true)
    (hy : y.cls ≠ "java/lang/invoke/MethodHandle" ∧ y.cls ≠ "java/lang/invoke/VarHandle") {W : Nat} {argsL rest : List Value}
    (hM : MetFree l y (head1 [Jvm.Cond.code y bytes maxL ret] rm) (fun a U => a = argsL.toArray ∧ Z.Warmed39 U.vm ∧ U.heap = h) (fun _ _ _ _ _ => True) (fun _ U o U' => ∃ v L, o = .returned v ∧ Q v U'.heap L ∧ FrameEnd U o U' L rm.cells rm.slots))
    (hf : rm.frames + 1 ≤ R.frames) (hl : W + (maxL + 11) + rm.locals ≤ R.locals) {c' s' : Nat} (hc' : cells + rm.cells = c') (hs' : slots + rm.slots = s') (hc : c' ≤ R.cells) (hs : s' ≤ R.slots) (eT : T.heap = h)
    {g : JFrame} (hg : g.method = m) (hsize : g.locals.size = c.maxLocals) (hlen : ∀ sig, parseMethodDescriptor y.desc = some sig → argsL.length = sig.parameters.length) (hstack : g.stack = argsL.reverse ++ rest) (hW : 2 * g.monitorRoom + (rest.map fun v => v.category).sum ≤ W) (hdg : decode c.code g.pc = .ok (.invokestatic index, 3)) :
    ∃ (v : Option Value) (T' : State) (L : List Loc), Stand p l e R s m args below meth c T' (locs ++ L) c' s' ∧ Q v T'.heap L ∧ ∀ target, Steps p.tables e below (T'.setTop { g with pc := g.pc + 3, stack := v.toList ++ rest }) target → Steps p.tables e below (T.setTop g) target := by
  subst hc' hs'
  obtain ⟨v, vm₁, ⟨T', L', k', n'⟩, -, X', ⟨L, hQ, e1, e2, e3⟩, st⟩ := Jvm.LawKit.callS X hx hown (mvT hZ w1) (mvT hZ w2) (mvT hZ w3) (mvT hZ w4) hy (backOf (W := W) hM hZ w4 w3 hf hl) hg hsize hlen hstack hW hdg (fun _ _ => ⟨rfl, eT, hc, hs⟩)
  dsimp only [Pt.U, Pt.locs, Pt.cells, Pt.slots] at X' e1 e2 e3 st hQ
  subst e1 e2 e3
  exact ⟨v, T', L, X', hQ, st⟩
theorem own_callI (X : Stand p l e R s m args below meth c T locs cells slots) (hx : p.tables.exec = Jvm.exec) (hZ : Z.Warmed39 s.vm) {own : String} {index : Nat} {y : MethodName} (hy1 : y.name = "<init>") {bytes : ByteArray} {maxL : Nat} {rm : Room} {Q : Option Value → Heap → List Loc → Prop}
    (hown : s.vm.findClass own = some m.cls) (w1 : (Jvm.Cond.methodLink own index y).before a0 Z = true) (w2 : (Jvm.Cond.instanceMethod y).before a0 Z = true) (w3 : (Jvm.Cond.initialized y.cls).before a0 Z = true) (w4 : (Jvm.Cond.code y bytes maxL none).before a0 Z = true)
    (hy : y.cls ≠ "java/lang/invoke/MethodHandle" ∧ y.cls ≠ "java/lang/invoke/VarHandle") {W : Nat} {a : Addr} {argsL rest : List Value}
    (hM : MetFree l y (head1 [Jvm.Cond.code y bytes maxL none] rm) (fun b U => b = (.ref a :: argsL).toArray ∧ Z.Warmed39 U.vm ∧ U.heap = h) (fun _ _ _ _ _ => True) (fun _ U o U' => ∃ v L, o = .returned v ∧ Q v U'.heap L ∧ FrameEnd U o U' L rm.cells rm.slots))
    (hf : rm.frames + 1 ≤ R.frames) (hl : W + (maxL + 11) + rm.locals ≤ R.locals) {c' s' : Nat} (hc' : cells + rm.cells = c') (hs' : slots + rm.slots = s') (hc : c' ≤ R.cells) (hs : s' ≤ R.slots) (eT : T.heap = h)
    {g : JFrame} (hg : g.method = m) (hsize : g.locals.size = c.maxLocals) (hlen : ∀ sig, parseMethodDescriptor y.desc = some sig → argsL.length = sig.parameters.length) (hstack : g.stack = argsL.reverse ++ .ref a :: rest) (hW : 2 * g.monitorRoom + (rest.map fun v => v.category).sum ≤ W) (hdg : decode c.code g.pc = .ok (.invokespecial index, 3)) :
    ∃ (v : Option Value) (T' : State) (L : List Loc), Stand p l e R s m args below meth c T' (locs ++ L) c' s' ∧ Q v T'.heap L ∧ ∀ target, Steps p.tables e below (T'.setTop { g with pc := g.pc + 3, stack := v.toList ++ rest }) target → Steps p.tables e below (T.setTop g) target := by
  subst hc' hs'
  obtain ⟨v, vm₁, ⟨T', L', k', n'⟩, -, X', ⟨L, hQ, e1, e2, e3⟩, st⟩ := X.specialBack hx hy1 hown (mvT hZ w1) (mvT hZ w2) (mvT hZ w4) hy (backOf (W := W) hM hZ w4 w3 hf hl) hg hsize (Steps.refl _) (a := a) hlen hstack hW hdg (fun _ _ => ⟨rfl, eT, hc, hs⟩)
  dsimp only [Pt.U, Pt.locs, Pt.cells, Pt.slots] at X' e1 e2 e3 st hQ
  subst e1 e2 e3
  exact ⟨v, T', L, X', hQ, fun target k => st.trans k⟩
theorem own_callV (X : Stand p l e R s m args below meth c T locs cells slots) (hx : p.tables.exec = Jvm.exec) (hZ : Z.Warmed39 s.vm) {own C : String} {index : Nat} {y : MethodName} {bytes : ByteArray} {maxL : Nat} {ret : Option FieldType} {rm : Room} {Q : Option Value → Heap → List Loc → Prop}
    (hown : s.vm.findClass own = some m.cls) (w1 : (Jvm.Cond.methodLink own index y).before a0 Z = true) (w5 : (Jvm.Cond.declares y).before a0 Z = true) (w6 : (Jvm.Cond.selects C y y).before a0 Z = true) (w2 : (Jvm.Cond.instanceMethod y).before a0 Z = true) (w3 : (Jvm.Cond.initialized y.cls).before a0 Z = true) (w4 : (Jvm.Cond.code y bytes maxL ret).before a0 Z = true)
    (hy : y.cls ≠ "java/lang/invoke/MethodHandle" ∧ y.cls ≠ "java/lang/invoke/VarHandle") {W : Nat} {a : Addr} (E : Exa Z h a C) {argsL rest : List Value}
    (hM : MetFree l y (head1 [Jvm.Cond.code y bytes maxL ret] rm) (fun b U => b = (.ref a :: argsL).toArray ∧ Z.Warmed39 U.vm ∧ U.heap = h) (fun _ _ _ _ _ => True) (fun _ U o U' => ∃ v L, o = .returned v ∧ Q v U'.heap L ∧ FrameEnd U o U' L rm.cells rm.slots))
    (hf : rm.frames + 1 ≤ R.frames) (hl : W + (maxL + 11) + rm.locals ≤ R.locals) {c' s' : Nat} (hc' : cells + rm.cells = c') (hs' : slots + rm.slots = s') (hc : c' ≤ R.cells) (hs : s' ≤ R.slots) (eT : T.heap = h)
    {g : JFrame} (hg : g.method = m) (hsize : g.locals.size = c.maxLocals) (hlen : ∀ sig, parseMethodDescriptor y.desc = some sig → argsL.length = sig.parameters.length) (hstack : g.stack = argsL.reverse ++ .ref a :: rest) (hW : 2 * g.monitorRoom + (rest.map fun v => v.category).sum ≤ W) (hdg : decode c.code g.pc = .ok (.invokevirtual index, 3)) :
    ∃ (v : Option Value) (T' : State) (L : List Loc), Stand p l e R s m args below meth c T' (locs ++ L) c' s' ∧ Q v T'.heap L ∧ ∀ target, Steps p.tables e below (T'.setTop { g with pc := g.pc + 3, stack := v.toList ++ rest }) target → Steps p.tables e below (T.setTop g) target := by
  subst hc' hs'
  obtain ⟨cB, kB, q1, q2, q3⟩ := isOf hZ eT E
  obtain ⟨v, vm₁, ⟨T', L', k', n'⟩, -, X', ⟨L, hQ, e1, e2, e3⟩, st⟩ := X.virtualBack hx (z := y) hown (mvT hZ w1) (mvT hZ w5) (notFace_of_selects (args := #[]) (mvT hZ w6)) (mvT hZ w6) (mvT hZ w2) hy (backOf (W := W) hM hZ w4 w3 hf hl) q1 q3 hg hsize (Steps.refl _) hlen hstack hW hdg (fun _ _ => ⟨rfl, eT, hc, hs⟩)
  dsimp only [Pt.U, Pt.locs, Pt.cells, Pt.slots] at X' e1 e2 e3 st hQ
  subst e1 e2 e3
  exact ⟨v, T', L, X', hQ, fun target k => st.trans k⟩
end OwnCall
def own_tab (j : Int32) : Int32 := if j = 9 ∨ j = 10 ∨ j = 13 ∨ (¬ j < 32 ∧ j < 127) then 1 else 0
theorem own_inb {Z : State} {h : Heap} {a : Addr} {c : Cell} {ty : FieldType} {n j : Int32} (F : Tab Z h a c ty n) (h0 : ¬ j < 0) (h1 : j < n) : ¬ (j < 0 ∨ c.slots.size ≤ j.toNatClampNeg) := inb_of F.2.1 ⟨h0, h1⟩
theorem d1_0 : decode prog_120_method_39_code 0 = .ok (.iload_n 0, 1) := by decide +kernel
theorem d1_1 : decode prog_120_method_39_code 1 = .ok (.sipush 128, 3) := by decide +kernel
theorem d1_4 : decode prog_120_method_39_code 4 = .ok (.if_icmp .ge 11, 3) := by decide +kernel
theorem d1_7 : decode prog_120_method_39_code 7 = .ok (.getstatic 220, 3) := by decide +kernel
theorem d1_10 : decode prog_120_method_39_code 10 = .ok (.iload_n 0, 1) := by decide +kernel
theorem d1_11 : decode prog_120_method_39_code 11 = .ok (.baload, 1) := by decide +kernel
theorem d1_12 : decode prog_120_method_39_code 12 = .ok (.goto 46, 3) := by decide +kernel
theorem d1_15 : decode prog_120_method_39_code 15 = .ok (.iload_n 0, 1) := by decide +kernel
theorem d1_16 : decode prog_120_method_39_code 16 = .ok (.sipush 160, 3) := by decide +kernel
theorem d1_19 : decode prog_120_method_39_code 19 = .ok (.if_icmp .lt 9, 3) := by decide +kernel
theorem d1_22 : decode prog_120_method_39_code 22 = .ok (.iload_n 0, 1) := by decide +kernel
theorem d1_23 : decode prog_120_method_39_code 23 = .ok (.ldc 224, 2) := by decide +kernel
theorem d1_25 : decode prog_120_method_39_code 25 = .ok (.if_icmp .lt 28, 3) := by decide +kernel
theorem d1_28 : decode prog_120_method_39_code 28 = .ok (.iload_n 0, 1) := by decide +kernel
theorem d1_29 : decode prog_120_method_39_code 29 = .ok (.sipush 133, 3) := by decide +kernel
theorem d1_32 : decode prog_120_method_39_code 32 = .ok (.if_icmp .eq 21, 3) := by decide +kernel
theorem d1_35 : decode prog_120_method_39_code 35 = .ok (.iload_n 0, 1) := by decide +kernel
theorem d1_36 : decode prog_120_method_39_code 36 = .ok (.ldc 225, 2) := by decide +kernel
theorem d1_38 : decode prog_120_method_39_code 38 = .ok (.if_icmp .lt 19, 3) := by decide +kernel
theorem d1_41 : decode prog_120_method_39_code 41 = .ok (.iload_n 0, 1) := by decide +kernel
theorem d1_42 : decode prog_120_method_39_code 42 = .ok (.ldc 226, 2) := by decide +kernel
theorem d1_44 : decode prog_120_method_39_code 44 = .ok (.if_icmp .gt 13, 3) := by decide +kernel
theorem d1_47 : decode prog_120_method_39_code 47 = .ok (.iload_n 0, 1) := by decide +kernel
theorem d1_48 : decode prog_120_method_39_code 48 = .ok (.ldc 118, 2) := by decide +kernel
theorem d1_50 : decode prog_120_method_39_code 50 = .ok (.if_icmp .eq 7, 3) := by decide +kernel
theorem d1_53 : decode prog_120_method_39_code 53 = .ok (.iconst 1, 1) := by decide +kernel
theorem d1_54 : decode prog_120_method_39_code 54 = .ok (.goto 4, 3) := by decide +kernel
theorem d1_57 : decode prog_120_method_39_code 57 = .ok (.iconst 0, 1) := by decide +kernel
theorem d1_58 : decode prog_120_method_39_code 58 = .ok (.ireturn, 1) := by decide +kernel
theorem pn_1 : plainName "com/example/lokey/lokey/yaml/Cursor" = true := by first | (simp [plainName, overriddenIn]; done) | decide +kernel
theorem ef_1 (m : MethodId) (x0 : Int32) : entryFrame m #[(.int x0)] 1 = mkF m 0 #[.val (.int x0)] [] := by first | (simp [entryFrame, mkF, argsToLocals, Value.category]; done) | rfl
def bl1_0_2 : List (Nat × Instr × Nat) := [(0, .iload_n 0, 1), (1, .sipush 128, 3)]
theorem bd1_0_2 : own_dec prog_120_method_39_code bl1_0_2 = true := by decide +kernel
def bl1_10_1 : List (Nat × Instr × Nat) := [(10, .iload_n 0, 1)]
theorem bd1_10_1 : own_dec prog_120_method_39_code bl1_10_1 = true := by decide +kernel
def bl1_12_1 : List (Nat × Instr × Nat) := [(12, .goto 46, 3)]
theorem bd1_12_1 : own_dec prog_120_method_39_code bl1_12_1 = true := by decide +kernel
def bl1_15_2 : List (Nat × Instr × Nat) := [(15, .iload_n 0, 1), (16, .sipush 160, 3)]
theorem bd1_15_2 : own_dec prog_120_method_39_code bl1_15_2 = true := by decide +kernel
def bl1_28_2 : List (Nat × Instr × Nat) := [(28, .iload_n 0, 1), (29, .sipush 133, 3)]
theorem bd1_28_2 : own_dec prog_120_method_39_code bl1_28_2 = true := by decide +kernel
def bl1_53_2 : List (Nat × Instr × Nat) := [(53, .iconst 1, 1), (54, .goto 4, 3)]
theorem bd1_53_2 : own_dec prog_120_method_39_code bl1_53_2 = true := by decide +kernel
def bl1_35_1 : List (Nat × Instr × Nat) := [(35, .iload_n 0, 1)]
theorem bd1_35_1 : own_dec prog_120_method_39_code bl1_35_1 = true := by decide +kernel
def bl1_57_1 : List (Nat × Instr × Nat) := [(57, .iconst 0, 1)]
theorem bd1_57_1 : own_dec prog_120_method_39_code bl1_57_1 = true := by decide +kernel
def bl1_41_1 : List (Nat × Instr × Nat) := [(41, .iload_n 0, 1)]
theorem bd1_41_1 : own_dec prog_120_method_39_code bl1_41_1 = true := by decide +kernel
def bl1_47_1 : List (Nat × Instr × Nat) := [(47, .iload_n 0, 1)]
theorem bd1_47_1 : own_dec prog_120_method_39_code bl1_47_1 = true := by decide +kernel
def bl1_22_1 : List (Nat × Instr × Nat) := [(22, .iload_n 0, 1)]
theorem bd1_22_1 : own_dec prog_120_method_39_code bl1_22_1 = true := by decide +kernel

def f1 (p1 : Int32) : Int32 := (if p1 < (128 : Int32) then (nar .boolean (own_tab p1)) else (if p1 < (160 : Int32) then (if p1 = (133 : Int32) then (1 : Int32) else (if p1 < (57344 : Int32) then (0 : Int32) else (if (65533 : Int32) < p1 then (0 : Int32) else (if p1 = (65279 : Int32) then (0 : Int32) else (1 : Int32))))) else (if p1 < (55296 : Int32) then (1 : Int32) else (if p1 = (133 : Int32) then (1 : Int32) else (if p1 < (57344 : Int32) then (0 : Int32) else (if (65533 : Int32) < p1 then (0 : Int32) else (if p1 = (65279 : Int32) then (0 : Int32) else (1 : Int32))))))))
def Q1 (Z : State) (p1 : Int32) (w1 : Addr) (cl1 : Cell) (h0 : Heap) (n0 : Nat) (v : Option Value) (h : Heap) (L : List Loc) : Prop := v = some (.int (f1 p1)) ∧ Fr n0 L ∧ h = h0
set_option maxRecDepth 65536 in
set_option maxHeartbeats 40000000 in
theorem rm1 (l : Launch) (Z : State) (a0 : Array Value) (hw : ∀ d ∈ tables_1, d.before a0 Z = true) (ws : List Jvm.Cond) (p1 : Int32) (w1 : Addr) (cl1 : Cell) (h0 : Heap) (n0 : Nat) (Z0 : n0 ≤ h0.size) (S_ASCII_ANYWHERE : Sta Z h0 "com/example/lokey/lokey/yaml/Cursor" "ASCII_ANYWHERE" "[Z" (.ref w1)) (Tb : Tab Z h0 w1 cl1 .boolean (128 : Int32)) (hv : ∀ j : Int32, ¬ j < 0 → j < 128 → atv cl1 j = own_tab j) (hp : ¬ (p1 < 0)) :
    MetFree l (⟨"com/example/lokey/lokey/yaml/Cursor", "mayStandAnywhere", "(C)Z"⟩ : MethodName) (head1 (Jvm.Cond.code (⟨"com/example/lokey/lokey/yaml/Cursor", "mayStandAnywhere", "(C)Z"⟩ : MethodName) prog_120_method_39_code 1 (some .boolean) :: ws) ({ frames := 0, cells := 0, slots := 0, locals := 0 } : Room)) (fun a U => a = #[(.int p1)] ∧ Z.Warmed39 U.vm ∧ U.heap = h0) (fun _ _ _ _ _ => True) (fun _ U o U' => ∃ v L, o = .returned v ∧ Q1 Z p1 w1 cl1 h0 n0 v U'.heap L ∧ FrameEnd U o U' L ({ frames := 0, cells := 0, slots := 0, locals := 0 } : Room).cells ({ frames := 0, cells := 0, slots := 0, locals := 0 } : Room).slots) := by
  refine MetFree.of_bodySF (plainFor_of_name pn_1) hisR ?_
  intro p e s m args below meth c s₁ Bd hml0 hP hK
  obtain ⟨rfl, hZ, hh⟩ := hP
  have hx := Bd.exec
  have hby := Bd.bytes
  have hml : c.maxLocals = 1 := hml0
  have hown : s.vm.findClass "com/example/lokey/lokey/yaml/Cursor" = some m.cls := findClass_of_methodNamed Bd.named
  have hnm := (name_of_methodNamed Bd.named Bd.method).1
  have X0 : Stand p l e ({ frames := 0, cells := 0, slots := 0, locals := 0 } : Room) s m #[(.int p1)] below meth c s₁ [] 0 0 := Stand.of_body Bd
  have e0 : s₁.heap = h0 := by rw [← hh, Bd.state]; rfl
  have N0 := Fr.nil n0
  have pre0 : ∀ t, Steps p.tables e below (s₁.setTop (mkF m 0 #[.val (.int p1)] [])) t → Steps p.tables e below (s₁.setTop (entryFrame m #[(.int p1)] 1)) t := fun t k => castTop (ef_1 m p1) k
  have pre1 : ∀ t, Steps p.tables e below (s₁.setTop (mkF m 4 #[.val (.int p1)] [(.int (128 : Int32)), (.int p1)])) t → Steps p.tables e below (s₁.setTop (entryFrame m #[(.int p1)] 1)) t := fun t kt => by
    refine pre0 _ ?_
    show Steps p.tables e below (s₁.setTop (mkF m 0 #[.val (.int p1)] [])) _
    refine own_blk X0 hx bl1_0_2 (own_hb hby bd1_0_2) (pc' := 4) (Ls' := #[.val (.int p1)]) (st' := [(.int (128 : Int32)), (.int p1)]) rfl ?_
    exact kt
  by_cases hc2 : p1 < (128 : Int32)
  · obtain ⟨T3, X3, e3, st3⟩ := getS2 X0 hx hZ hown (host := "") (Or.inl (hw _ (List.mem_of_getElem? (i := 5) rfl))) Via.refl e0 S_ASCII_ANYWHERE (g := (mkF m 7 #[.val (.int p1)] [])) rfl (hb hby d1_7)
    have hin4 := own_inb Tb hp hc2
    have hat4 : cl1.slots[(p1).toNatClampNeg]? = some (.int (own_tab p1)) := by rw [Tb.2.2.2 _ hin4, hv p1 hp hc2]
    obtain ⟨fs, hr, hrun, hended, hW, hsame⟩ := X3.leave (v := some (.int (nar .boolean (own_tab p1)))) (fun h => by rw [Bd.returns] at h; cases h)
    refine ⟨_, _, pre1 _ ?_, hrun, hended, _, _, rfl, ?_, ⟨_, rfl⟩, hW, hsame.mono (by decide) (by decide)⟩
    · show Steps p.tables e below (s₁.setTop (mkF m 4 #[.val (.int p1)] [(.int (128 : Int32)), (.int p1)])) _
      refine XS.icmpNo X0.here hx rfl (hb hby d1_4) rfl (tlt hc2).2.1 ?_
      show Steps p.tables e below (s₁.setTop (mkF m 7 #[.val (.int p1)] [])) _
      refine st3 _ ?_
      show Steps p.tables e below (T3.setTop (mkF m 10 #[.val (.int p1)] [(.ref w1)])) _
      refine own_blk X3 hx bl1_10_1 (own_hb hby bd1_10_1) (pc' := 11) (Ls' := #[.val (.int p1)]) (st' := [(.int p1), (.ref w1)]) rfl ?_
      show Steps p.tables e below (T3.setTop (mkF m 11 #[.val (.int p1)] [(.int p1), (.ref w1)])) _
      refine X3.baloadBooleans hx (j := p1) (v := (.int (own_tab p1))) (by rw [e3]; exact Tb.1.1) (State.isArrayOf_alike hZ.alike Tb.1.2.1) Tb.1.2.2 hin4 hat4 (g := (mkF m 11 #[.val (.int p1)] [(.int p1), (.ref w1)])) rfl rfl (hb hby d1_11) _ ?_
      show Steps p.tables e below (T3.setTop (mkF m 12 #[.val (.int p1)] [(.int (own_tab p1))])) _
      refine own_blk X3 hx bl1_12_1 (own_hb hby bd1_12_1) (pc' := 58) (Ls' := #[.val (.int p1)]) (st' := [(.int (own_tab p1))]) rfl ?_
      show Steps p.tables e below (T3.setTop (mkF m 58 #[.val (.int p1)] [(.int (own_tab p1))])) _
      exact retN X3 hx (t := .boolean) Bd.returns (by simp) (hb hby d1_58) hr
    · show Q1 Z p1 w1 cl1 h0 n0 _ T3.heap _
      rw [e3]
      exact ⟨by rw [f1, if_pos hc2], N0, rfl⟩
  · have pre5 : ∀ t, Steps p.tables e below (s₁.setTop (mkF m 19 #[.val (.int p1)] [(.int (160 : Int32)), (.int p1)])) t → Steps p.tables e below (s₁.setTop (entryFrame m #[(.int p1)] 1)) t := fun t kt => by
      refine pre1 _ ?_
      show Steps p.tables e below (s₁.setTop (mkF m 4 #[.val (.int p1)] [(.int (128 : Int32)), (.int p1)])) _
      refine XS.icmpYes X0.here hx rfl (pc0 := 4) (pc' := 15) rfl (hb hby d1_4) rfl (flt hc2).2.1 (by decide) (by decide) ?_
      show Steps p.tables e below (s₁.setTop (mkF m 15 #[.val (.int p1)] [])) _
      refine own_blk X0 hx bl1_15_2 (own_hb hby bd1_15_2) (pc' := 19) (Ls' := #[.val (.int p1)]) (st' := [(.int (160 : Int32)), (.int p1)]) rfl ?_
      exact kt
    by_cases hc6 : p1 < (160 : Int32)
    · have pre7 : ∀ t, Steps p.tables e below (s₁.setTop (mkF m 32 #[.val (.int p1)] [(.int (133 : Int32)), (.int p1)])) t → Steps p.tables e below (s₁.setTop (entryFrame m #[(.int p1)] 1)) t := fun t kt => by
        refine pre5 _ ?_
        show Steps p.tables e below (s₁.setTop (mkF m 19 #[.val (.int p1)] [(.int (160 : Int32)), (.int p1)])) _
        refine XS.icmpYes X0.here hx rfl (pc0 := 19) (pc' := 28) rfl (hb hby d1_19) rfl (tlt hc6).1 (by decide) (by decide) ?_
        show Steps p.tables e below (s₁.setTop (mkF m 28 #[.val (.int p1)] [])) _
        refine own_blk X0 hx bl1_28_2 (own_hb hby bd1_28_2) (pc' := 32) (Ls' := #[.val (.int p1)]) (st' := [(.int (133 : Int32)), (.int p1)]) rfl ?_
        exact kt
      by_cases hc8 : p1 = (133 : Int32)
      · obtain ⟨fs, hr, hrun, hended, hW, hsame⟩ := X0.leave (v := some (.int (1 : Int32))) (fun h => by rw [Bd.returns] at h; cases h)
        refine ⟨_, _, pre7 _ ?_, hrun, hended, _, _, rfl, ?_, ⟨_, rfl⟩, hW, hsame.mono (by decide) (by decide)⟩
        · show Steps p.tables e below (s₁.setTop (mkF m 32 #[.val (.int p1)] [(.int (133 : Int32)), (.int p1)])) _
          refine XS.icmpYes X0.here hx rfl (pc0 := 32) (pc' := 53) rfl (hb hby d1_32) rfl (teq hc8).1 (by decide) (by decide) ?_
          show Steps p.tables e below (s₁.setTop (mkF m 53 #[.val (.int p1)] [])) _
          refine own_blk X0 hx bl1_53_2 (own_hb hby bd1_53_2) (pc' := 58) (Ls' := #[.val (.int p1)]) (st' := [(.int (1 : Int32))]) rfl ?_
          show Steps p.tables e below (s₁.setTop (mkF m 58 #[.val (.int p1)] [(.int (1 : Int32))])) _
          exact retN X0 hx (t := .boolean) Bd.returns (by simp) (hb hby d1_58) hr
        · show Q1 Z p1 w1 cl1 h0 n0 _ s₁.heap _
          rw [e0]
          exact ⟨by rw [f1, if_neg hc2, if_pos hc6, if_pos hc8], N0, rfl⟩
      · have pre9 : ∀ t, Steps p.tables e below (s₁.setTop (mkF m 38 #[.val (.int p1)] [(.int (57344 : Int32)), (.int p1)])) t → Steps p.tables e below (s₁.setTop (entryFrame m #[(.int p1)] 1)) t := fun t kt => by
          refine pre7 _ ?_
          show Steps p.tables e below (s₁.setTop (mkF m 32 #[.val (.int p1)] [(.int (133 : Int32)), (.int p1)])) _
          refine XS.icmpNo X0.here hx rfl (hb hby d1_32) rfl (feq hc8).1 ?_
          show Steps p.tables e below (s₁.setTop (mkF m 35 #[.val (.int p1)] [])) _
          refine own_blk X0 hx bl1_35_1 (own_hb hby bd1_35_1) (pc' := 36) (Ls' := #[.val (.int p1)]) (st' := [(.int p1)]) rfl ?_
          show Steps p.tables e below (s₁.setTop (mkF m 36 #[.val (.int p1)] [(.int p1)])) _
          refine X0.ldcInt hx hown (mvT hZ (hw _ (List.mem_of_getElem? (i := 14) rfl))) (g := (mkF m 36 #[.val (.int p1)] [(.int p1)])) rfl (hb hby d1_36) _ ?_
          exact kt
        by_cases hc10 : p1 < (57344 : Int32)
        · obtain ⟨fs, hr, hrun, hended, hW, hsame⟩ := X0.leave (v := some (.int (0 : Int32))) (fun h => by rw [Bd.returns] at h; cases h)
          refine ⟨_, _, pre9 _ ?_, hrun, hended, _, _, rfl, ?_, ⟨_, rfl⟩, hW, hsame.mono (by decide) (by decide)⟩
          · show Steps p.tables e below (s₁.setTop (mkF m 38 #[.val (.int p1)] [(.int (57344 : Int32)), (.int p1)])) _
            refine XS.icmpYes X0.here hx rfl (pc0 := 38) (pc' := 57) rfl (hb hby d1_38) rfl (tlt hc10).1 (by decide) (by decide) ?_
            show Steps p.tables e below (s₁.setTop (mkF m 57 #[.val (.int p1)] [])) _
            refine own_blk X0 hx bl1_57_1 (own_hb hby bd1_57_1) (pc' := 58) (Ls' := #[.val (.int p1)]) (st' := [(.int (0 : Int32))]) rfl ?_
            show Steps p.tables e below (s₁.setTop (mkF m 58 #[.val (.int p1)] [(.int (0 : Int32))])) _
            exact retN X0 hx (t := .boolean) Bd.returns (by simp) (hb hby d1_58) hr
          · show Q1 Z p1 w1 cl1 h0 n0 _ s₁.heap _
            rw [e0]
            exact ⟨by rw [f1, if_neg hc2, if_pos hc6, if_neg hc8, if_pos hc10], N0, rfl⟩
        · have pre11 : ∀ t, Steps p.tables e below (s₁.setTop (mkF m 44 #[.val (.int p1)] [(.int (65533 : Int32)), (.int p1)])) t → Steps p.tables e below (s₁.setTop (entryFrame m #[(.int p1)] 1)) t := fun t kt => by
            refine pre9 _ ?_
            show Steps p.tables e below (s₁.setTop (mkF m 38 #[.val (.int p1)] [(.int (57344 : Int32)), (.int p1)])) _
            refine XS.icmpNo X0.here hx rfl (hb hby d1_38) rfl (flt hc10).1 ?_
            show Steps p.tables e below (s₁.setTop (mkF m 41 #[.val (.int p1)] [])) _
            refine own_blk X0 hx bl1_41_1 (own_hb hby bd1_41_1) (pc' := 42) (Ls' := #[.val (.int p1)]) (st' := [(.int p1)]) rfl ?_
            show Steps p.tables e below (s₁.setTop (mkF m 42 #[.val (.int p1)] [(.int p1)])) _
            refine X0.ldcInt hx hown (mvT hZ (hw _ (List.mem_of_getElem? (i := 15) rfl))) (g := (mkF m 42 #[.val (.int p1)] [(.int p1)])) rfl (hb hby d1_42) _ ?_
            exact kt
          by_cases hc12 : (65533 : Int32) < p1
          · obtain ⟨fs, hr, hrun, hended, hW, hsame⟩ := X0.leave (v := some (.int (0 : Int32))) (fun h => by rw [Bd.returns] at h; cases h)
            refine ⟨_, _, pre11 _ ?_, hrun, hended, _, _, rfl, ?_, ⟨_, rfl⟩, hW, hsame.mono (by decide) (by decide)⟩
            · show Steps p.tables e below (s₁.setTop (mkF m 44 #[.val (.int p1)] [(.int (65533 : Int32)), (.int p1)])) _
              refine XS.icmpYes X0.here hx rfl (pc0 := 44) (pc' := 57) rfl (hb hby d1_44) rfl (tlt hc12).2.2.1 (by decide) (by decide) ?_
              show Steps p.tables e below (s₁.setTop (mkF m 57 #[.val (.int p1)] [])) _
              refine own_blk X0 hx bl1_57_1 (own_hb hby bd1_57_1) (pc' := 58) (Ls' := #[.val (.int p1)]) (st' := [(.int (0 : Int32))]) rfl ?_
              show Steps p.tables e below (s₁.setTop (mkF m 58 #[.val (.int p1)] [(.int (0 : Int32))])) _
              exact retN X0 hx (t := .boolean) Bd.returns (by simp) (hb hby d1_58) hr
            · show Q1 Z p1 w1 cl1 h0 n0 _ s₁.heap _
              rw [e0]
              exact ⟨by rw [f1, if_neg hc2, if_pos hc6, if_neg hc8, if_neg hc10, if_pos hc12], N0, rfl⟩
          · have pre13 : ∀ t, Steps p.tables e below (s₁.setTop (mkF m 50 #[.val (.int p1)] [(.int (65279 : Int32)), (.int p1)])) t → Steps p.tables e below (s₁.setTop (entryFrame m #[(.int p1)] 1)) t := fun t kt => by
              refine pre11 _ ?_
              show Steps p.tables e below (s₁.setTop (mkF m 44 #[.val (.int p1)] [(.int (65533 : Int32)), (.int p1)])) _
              refine XS.icmpNo X0.here hx rfl (hb hby d1_44) rfl (flt hc12).2.2.1 ?_
              show Steps p.tables e below (s₁.setTop (mkF m 47 #[.val (.int p1)] [])) _
              refine own_blk X0 hx bl1_47_1 (own_hb hby bd1_47_1) (pc' := 48) (Ls' := #[.val (.int p1)]) (st' := [(.int p1)]) rfl ?_
              show Steps p.tables e below (s₁.setTop (mkF m 48 #[.val (.int p1)] [(.int p1)])) _
              refine X0.ldcInt hx hown (mvT hZ (hw _ (List.mem_of_getElem? (i := 16) rfl))) (g := (mkF m 48 #[.val (.int p1)] [(.int p1)])) rfl (hb hby d1_48) _ ?_
              exact kt
            by_cases hc14 : p1 = (65279 : Int32)
            · obtain ⟨fs, hr, hrun, hended, hW, hsame⟩ := X0.leave (v := some (.int (0 : Int32))) (fun h => by rw [Bd.returns] at h; cases h)
              refine ⟨_, _, pre13 _ ?_, hrun, hended, _, _, rfl, ?_, ⟨_, rfl⟩, hW, hsame.mono (by decide) (by decide)⟩
              · show Steps p.tables e below (s₁.setTop (mkF m 50 #[.val (.int p1)] [(.int (65279 : Int32)), (.int p1)])) _
                refine XS.icmpYes X0.here hx rfl (pc0 := 50) (pc' := 57) rfl (hb hby d1_50) rfl (teq hc14).1 (by decide) (by decide) ?_
                show Steps p.tables e below (s₁.setTop (mkF m 57 #[.val (.int p1)] [])) _
                refine own_blk X0 hx bl1_57_1 (own_hb hby bd1_57_1) (pc' := 58) (Ls' := #[.val (.int p1)]) (st' := [(.int (0 : Int32))]) rfl ?_
                show Steps p.tables e below (s₁.setTop (mkF m 58 #[.val (.int p1)] [(.int (0 : Int32))])) _
                exact retN X0 hx (t := .boolean) Bd.returns (by simp) (hb hby d1_58) hr
              · show Q1 Z p1 w1 cl1 h0 n0 _ s₁.heap _
                rw [e0]
                exact ⟨by rw [f1, if_neg hc2, if_pos hc6, if_neg hc8, if_neg hc10, if_neg hc12, if_pos hc14], N0, rfl⟩
            · obtain ⟨fs, hr, hrun, hended, hW, hsame⟩ := X0.leave (v := some (.int (1 : Int32))) (fun h => by rw [Bd.returns] at h; cases h)
              refine ⟨_, _, pre13 _ ?_, hrun, hended, _, _, rfl, ?_, ⟨_, rfl⟩, hW, hsame.mono (by decide) (by decide)⟩
              · show Steps p.tables e below (s₁.setTop (mkF m 50 #[.val (.int p1)] [(.int (65279 : Int32)), (.int p1)])) _
                refine XS.icmpNo X0.here hx rfl (hb hby d1_50) rfl (feq hc14).1 ?_
                show Steps p.tables e below (s₁.setTop (mkF m 53 #[.val (.int p1)] [])) _
                refine own_blk X0 hx bl1_53_2 (own_hb hby bd1_53_2) (pc' := 58) (Ls' := #[.val (.int p1)]) (st' := [(.int (1 : Int32))]) rfl ?_
                show Steps p.tables e below (s₁.setTop (mkF m 58 #[.val (.int p1)] [(.int (1 : Int32))])) _
                exact retN X0 hx (t := .boolean) Bd.returns (by simp) (hb hby d1_58) hr
              · show Q1 Z p1 w1 cl1 h0 n0 _ s₁.heap _
                rw [e0]
                exact ⟨by rw [f1, if_neg hc2, if_pos hc6, if_neg hc8, if_neg hc10, if_neg hc12, if_neg hc14], N0, rfl⟩
    · have pre15 : ∀ t, Steps p.tables e below (s₁.setTop (mkF m 25 #[.val (.int p1)] [(.int (55296 : Int32)), (.int p1)])) t → Steps p.tables e below (s₁.setTop (entryFrame m #[(.int p1)] 1)) t := fun t kt => by
        refine pre5 _ ?_
        show Steps p.tables e below (s₁.setTop (mkF m 19 #[.val (.int p1)] [(.int (160 : Int32)), (.int p1)])) _
        refine XS.icmpNo X0.here hx rfl (hb hby d1_19) rfl (flt hc6).1 ?_
        show Steps p.tables e below (s₁.setTop (mkF m 22 #[.val (.int p1)] [])) _
        refine own_blk X0 hx bl1_22_1 (own_hb hby bd1_22_1) (pc' := 23) (Ls' := #[.val (.int p1)]) (st' := [(.int p1)]) rfl ?_
        show Steps p.tables e below (s₁.setTop (mkF m 23 #[.val (.int p1)] [(.int p1)])) _
        refine X0.ldcInt hx hown (mvT hZ (hw _ (List.mem_of_getElem? (i := 12) rfl))) (g := (mkF m 23 #[.val (.int p1)] [(.int p1)])) rfl (hb hby d1_23) _ ?_
        exact kt
      by_cases hc16 : p1 < (55296 : Int32)
      · obtain ⟨fs, hr, hrun, hended, hW, hsame⟩ := X0.leave (v := some (.int (1 : Int32))) (fun h => by rw [Bd.returns] at h; cases h)
        refine ⟨_, _, pre15 _ ?_, hrun, hended, _, _, rfl, ?_, ⟨_, rfl⟩, hW, hsame.mono (by decide) (by decide)⟩
        · show Steps p.tables e below (s₁.setTop (mkF m 25 #[.val (.int p1)] [(.int (55296 : Int32)), (.int p1)])) _
          refine XS.icmpYes X0.here hx rfl (pc0 := 25) (pc' := 53) rfl (hb hby d1_25) rfl (tlt hc16).1 (by decide) (by decide) ?_
          show Steps p.tables e below (s₁.setTop (mkF m 53 #[.val (.int p1)] [])) _
          refine own_blk X0 hx bl1_53_2 (own_hb hby bd1_53_2) (pc' := 58) (Ls' := #[.val (.int p1)]) (st' := [(.int (1 : Int32))]) rfl ?_
          show Steps p.tables e below (s₁.setTop (mkF m 58 #[.val (.int p1)] [(.int (1 : Int32))])) _
          exact retN X0 hx (t := .boolean) Bd.returns (by simp) (hb hby d1_58) hr
        · show Q1 Z p1 w1 cl1 h0 n0 _ s₁.heap _
          rw [e0]
          exact ⟨by rw [f1, if_neg hc2, if_neg hc6, if_pos hc16], N0, rfl⟩
      · have pre17 : ∀ t, Steps p.tables e below (s₁.setTop (mkF m 32 #[.val (.int p1)] [(.int (133 : Int32)), (.int p1)])) t → Steps p.tables e below (s₁.setTop (entryFrame m #[(.int p1)] 1)) t := fun t kt => by
          refine pre15 _ ?_
          show Steps p.tables e below (s₁.setTop (mkF m 25 #[.val (.int p1)] [(.int (55296 : Int32)), (.int p1)])) _
          refine XS.icmpNo X0.here hx rfl (hb hby d1_25) rfl (flt hc16).1 ?_
          show Steps p.tables e below (s₁.setTop (mkF m 28 #[.val (.int p1)] [])) _
          refine own_blk X0 hx bl1_28_2 (own_hb hby bd1_28_2) (pc' := 32) (Ls' := #[.val (.int p1)]) (st' := [(.int (133 : Int32)), (.int p1)]) rfl ?_
          exact kt
        by_cases hc18 : p1 = (133 : Int32)
        · obtain ⟨fs, hr, hrun, hended, hW, hsame⟩ := X0.leave (v := some (.int (1 : Int32))) (fun h => by rw [Bd.returns] at h; cases h)
          refine ⟨_, _, pre17 _ ?_, hrun, hended, _, _, rfl, ?_, ⟨_, rfl⟩, hW, hsame.mono (by decide) (by decide)⟩
          · show Steps p.tables e below (s₁.setTop (mkF m 32 #[.val (.int p1)] [(.int (133 : Int32)), (.int p1)])) _
            refine XS.icmpYes X0.here hx rfl (pc0 := 32) (pc' := 53) rfl (hb hby d1_32) rfl (teq hc18).1 (by decide) (by decide) ?_
            show Steps p.tables e below (s₁.setTop (mkF m 53 #[.val (.int p1)] [])) _
            refine own_blk X0 hx bl1_53_2 (own_hb hby bd1_53_2) (pc' := 58) (Ls' := #[.val (.int p1)]) (st' := [(.int (1 : Int32))]) rfl ?_
            show Steps p.tables e below (s₁.setTop (mkF m 58 #[.val (.int p1)] [(.int (1 : Int32))])) _
            exact retN X0 hx (t := .boolean) Bd.returns (by simp) (hb hby d1_58) hr
          · show Q1 Z p1 w1 cl1 h0 n0 _ s₁.heap _
            rw [e0]
            exact ⟨by rw [f1, if_neg hc2, if_neg hc6, if_neg hc16, if_pos hc18], N0, rfl⟩
        · have pre19 : ∀ t, Steps p.tables e below (s₁.setTop (mkF m 38 #[.val (.int p1)] [(.int (57344 : Int32)), (.int p1)])) t → Steps p.tables e below (s₁.setTop (entryFrame m #[(.int p1)] 1)) t := fun t kt => by
            refine pre17 _ ?_
            show Steps p.tables e below (s₁.setTop (mkF m 32 #[.val (.int p1)] [(.int (133 : Int32)), (.int p1)])) _
            refine XS.icmpNo X0.here hx rfl (hb hby d1_32) rfl (feq hc18).1 ?_
            show Steps p.tables e below (s₁.setTop (mkF m 35 #[.val (.int p1)] [])) _
            refine own_blk X0 hx bl1_35_1 (own_hb hby bd1_35_1) (pc' := 36) (Ls' := #[.val (.int p1)]) (st' := [(.int p1)]) rfl ?_
            show Steps p.tables e below (s₁.setTop (mkF m 36 #[.val (.int p1)] [(.int p1)])) _
            refine X0.ldcInt hx hown (mvT hZ (hw _ (List.mem_of_getElem? (i := 14) rfl))) (g := (mkF m 36 #[.val (.int p1)] [(.int p1)])) rfl (hb hby d1_36) _ ?_
            exact kt
          by_cases hc20 : p1 < (57344 : Int32)
          · obtain ⟨fs, hr, hrun, hended, hW, hsame⟩ := X0.leave (v := some (.int (0 : Int32))) (fun h => by rw [Bd.returns] at h; cases h)
            refine ⟨_, _, pre19 _ ?_, hrun, hended, _, _, rfl, ?_, ⟨_, rfl⟩, hW, hsame.mono (by decide) (by decide)⟩
            · show Steps p.tables e below (s₁.setTop (mkF m 38 #[.val (.int p1)] [(.int (57344 : Int32)), (.int p1)])) _
              refine XS.icmpYes X0.here hx rfl (pc0 := 38) (pc' := 57) rfl (hb hby d1_38) rfl (tlt hc20).1 (by decide) (by decide) ?_
              show Steps p.tables e below (s₁.setTop (mkF m 57 #[.val (.int p1)] [])) _
              refine own_blk X0 hx bl1_57_1 (own_hb hby bd1_57_1) (pc' := 58) (Ls' := #[.val (.int p1)]) (st' := [(.int (0 : Int32))]) rfl ?_
              show Steps p.tables e below (s₁.setTop (mkF m 58 #[.val (.int p1)] [(.int (0 : Int32))])) _
              exact retN X0 hx (t := .boolean) Bd.returns (by simp) (hb hby d1_58) hr
            · show Q1 Z p1 w1 cl1 h0 n0 _ s₁.heap _
              rw [e0]
              exact ⟨by rw [f1, if_neg hc2, if_neg hc6, if_neg hc16, if_neg hc18, if_pos hc20], N0, rfl⟩
          · have pre21 : ∀ t, Steps p.tables e below (s₁.setTop (mkF m 44 #[.val (.int p1)] [(.int (65533 : Int32)), (.int p1)])) t → Steps p.tables e below (s₁.setTop (entryFrame m #[(.int p1)] 1)) t := fun t kt => by
              refine pre19 _ ?_
              show Steps p.tables e below (s₁.setTop (mkF m 38 #[.val (.int p1)] [(.int (57344 : Int32)), (.int p1)])) _
              refine XS.icmpNo X0.here hx rfl (hb hby d1_38) rfl (flt hc20).1 ?_
              show Steps p.tables e below (s₁.setTop (mkF m 41 #[.val (.int p1)] [])) _
              refine own_blk X0 hx bl1_41_1 (own_hb hby bd1_41_1) (pc' := 42) (Ls' := #[.val (.int p1)]) (st' := [(.int p1)]) rfl ?_
              show Steps p.tables e below (s₁.setTop (mkF m 42 #[.val (.int p1)] [(.int p1)])) _
              refine X0.ldcInt hx hown (mvT hZ (hw _ (List.mem_of_getElem? (i := 15) rfl))) (g := (mkF m 42 #[.val (.int p1)] [(.int p1)])) rfl (hb hby d1_42) _ ?_
              exact kt
            by_cases hc22 : (65533 : Int32) < p1
            · obtain ⟨fs, hr, hrun, hended, hW, hsame⟩ := X0.leave (v := some (.int (0 : Int32))) (fun h => by rw [Bd.returns] at h; cases h)
              refine ⟨_, _, pre21 _ ?_, hrun, hended, _, _, rfl, ?_, ⟨_, rfl⟩, hW, hsame.mono (by decide) (by decide)⟩
              · show Steps p.tables e below (s₁.setTop (mkF m 44 #[.val (.int p1)] [(.int (65533 : Int32)), (.int p1)])) _
                refine XS.icmpYes X0.here hx rfl (pc0 := 44) (pc' := 57) rfl (hb hby d1_44) rfl (tlt hc22).2.2.1 (by decide) (by decide) ?_
                show Steps p.tables e below (s₁.setTop (mkF m 57 #[.val (.int p1)] [])) _
                refine own_blk X0 hx bl1_57_1 (own_hb hby bd1_57_1) (pc' := 58) (Ls' := #[.val (.int p1)]) (st' := [(.int (0 : Int32))]) rfl ?_
                show Steps p.tables e below (s₁.setTop (mkF m 58 #[.val (.int p1)] [(.int (0 : Int32))])) _
                exact retN X0 hx (t := .boolean) Bd.returns (by simp) (hb hby d1_58) hr
              · show Q1 Z p1 w1 cl1 h0 n0 _ s₁.heap _
                rw [e0]
                exact ⟨by rw [f1, if_neg hc2, if_neg hc6, if_neg hc16, if_neg hc18, if_neg hc20, if_pos hc22], N0, rfl⟩
            · have pre23 : ∀ t, Steps p.tables e below (s₁.setTop (mkF m 50 #[.val (.int p1)] [(.int (65279 : Int32)), (.int p1)])) t → Steps p.tables e below (s₁.setTop (entryFrame m #[(.int p1)] 1)) t := fun t kt => by
                refine pre21 _ ?_
                show Steps p.tables e below (s₁.setTop (mkF m 44 #[.val (.int p1)] [(.int (65533 : Int32)), (.int p1)])) _
                refine XS.icmpNo X0.here hx rfl (hb hby d1_44) rfl (flt hc22).2.2.1 ?_
                show Steps p.tables e below (s₁.setTop (mkF m 47 #[.val (.int p1)] [])) _
                refine own_blk X0 hx bl1_47_1 (own_hb hby bd1_47_1) (pc' := 48) (Ls' := #[.val (.int p1)]) (st' := [(.int p1)]) rfl ?_
                show Steps p.tables e below (s₁.setTop (mkF m 48 #[.val (.int p1)] [(.int p1)])) _
                refine X0.ldcInt hx hown (mvT hZ (hw _ (List.mem_of_getElem? (i := 16) rfl))) (g := (mkF m 48 #[.val (.int p1)] [(.int p1)])) rfl (hb hby d1_48) _ ?_
                exact kt
              by_cases hc24 : p1 = (65279 : Int32)
              · obtain ⟨fs, hr, hrun, hended, hW, hsame⟩ := X0.leave (v := some (.int (0 : Int32))) (fun h => by rw [Bd.returns] at h; cases h)
                refine ⟨_, _, pre23 _ ?_, hrun, hended, _, _, rfl, ?_, ⟨_, rfl⟩, hW, hsame.mono (by decide) (by decide)⟩
                · show Steps p.tables e below (s₁.setTop (mkF m 50 #[.val (.int p1)] [(.int (65279 : Int32)), (.int p1)])) _
                  refine XS.icmpYes X0.here hx rfl (pc0 := 50) (pc' := 57) rfl (hb hby d1_50) rfl (teq hc24).1 (by decide) (by decide) ?_
                  show Steps p.tables e below (s₁.setTop (mkF m 57 #[.val (.int p1)] [])) _
                  refine own_blk X0 hx bl1_57_1 (own_hb hby bd1_57_1) (pc' := 58) (Ls' := #[.val (.int p1)]) (st' := [(.int (0 : Int32))]) rfl ?_
                  show Steps p.tables e below (s₁.setTop (mkF m 58 #[.val (.int p1)] [(.int (0 : Int32))])) _
                  exact retN X0 hx (t := .boolean) Bd.returns (by simp) (hb hby d1_58) hr
                · show Q1 Z p1 w1 cl1 h0 n0 _ s₁.heap _
                  rw [e0]
                  exact ⟨by rw [f1, if_neg hc2, if_neg hc6, if_neg hc16, if_neg hc18, if_neg hc20, if_neg hc22, if_pos hc24], N0, rfl⟩
              · obtain ⟨fs, hr, hrun, hended, hW, hsame⟩ := X0.leave (v := some (.int (1 : Int32))) (fun h => by rw [Bd.returns] at h; cases h)
                refine ⟨_, _, pre23 _ ?_, hrun, hended, _, _, rfl, ?_, ⟨_, rfl⟩, hW, hsame.mono (by decide) (by decide)⟩
                · show Steps p.tables e below (s₁.setTop (mkF m 50 #[.val (.int p1)] [(.int (65279 : Int32)), (.int p1)])) _
                  refine XS.icmpNo X0.here hx rfl (hb hby d1_50) rfl (feq hc24).1 ?_
                  show Steps p.tables e below (s₁.setTop (mkF m 53 #[.val (.int p1)] [])) _
                  refine own_blk X0 hx bl1_53_2 (own_hb hby bd1_53_2) (pc' := 58) (Ls' := #[.val (.int p1)]) (st' := [(.int (1 : Int32))]) rfl ?_
                  show Steps p.tables e below (s₁.setTop (mkF m 58 #[.val (.int p1)] [(.int (1 : Int32))])) _
                  exact retN X0 hx (t := .boolean) Bd.returns (by simp) (hb hby d1_58) hr
                · show Q1 Z p1 w1 cl1 h0 n0 _ s₁.heap _
                  rw [e0]
                  exact ⟨by rw [f1, if_neg hc2, if_neg hc6, if_neg hc16, if_neg hc18, if_neg hc20, if_neg hc22, if_neg hc24], N0, rfl⟩
theorem d2_0 : decode method_2_code 0 = .ok (.iload_n 0, 1) := by decide +kernel
theorem d2_1 : decode method_2_code 1 = .ok (.bipush 9, 2) := by decide +kernel
theorem d2_3 : decode method_2_code 3 = .ok (.if_icmp .eq 15, 3) := by decide +kernel
theorem d2_6 : decode method_2_code 6 = .ok (.iload_n 0, 1) := by decide +kernel
theorem d2_7 : decode method_2_code 7 = .ok (.bipush 10, 2) := by decide +kernel
theorem d2_9 : decode method_2_code 9 = .ok (.if_icmp .eq 9, 3) := by decide +kernel
theorem d2_12 : decode method_2_code 12 = .ok (.iload_n 0, 1) := by decide +kernel
theorem d2_13 : decode method_2_code 13 = .ok (.bipush 13, 2) := by decide +kernel
theorem d2_15 : decode method_2_code 15 = .ok (.if_icmp .ne 5, 3) := by decide +kernel
theorem d2_18 : decode method_2_code 18 = .ok (.iconst 1, 1) := by decide +kernel
theorem d2_19 : decode method_2_code 19 = .ok (.ireturn, 1) := by decide +kernel
theorem d2_20 : decode method_2_code 20 = .ok (.iload_n 0, 1) := by decide +kernel
theorem d2_21 : decode method_2_code 21 = .ok (.bipush 32, 2) := by decide +kernel
theorem d2_23 : decode method_2_code 23 = .ok (.if_icmp .lt 11, 3) := by decide +kernel
theorem d2_26 : decode method_2_code 26 = .ok (.iload_n 0, 1) := by decide +kernel
theorem d2_27 : decode method_2_code 27 = .ok (.bipush 126, 2) := by decide +kernel
theorem d2_29 : decode method_2_code 29 = .ok (.if_icmp .gt 5, 3) := by decide +kernel
theorem d2_32 : decode method_2_code 32 = .ok (.iconst 1, 1) := by decide +kernel
theorem d2_33 : decode method_2_code 33 = .ok (.ireturn, 1) := by decide +kernel
theorem d2_34 : decode method_2_code 34 = .ok (.iload_n 0, 1) := by decide +kernel
theorem d2_35 : decode method_2_code 35 = .ok (.sipush 133, 3) := by decide +kernel
theorem d2_38 : decode method_2_code 38 = .ok (.if_icmp .ne 5, 3) := by decide +kernel
theorem d2_41 : decode method_2_code 41 = .ok (.iconst 1, 1) := by decide +kernel
theorem d2_42 : decode method_2_code 42 = .ok (.ireturn, 1) := by decide +kernel
theorem d2_43 : decode method_2_code 43 = .ok (.iload_n 0, 1) := by decide +kernel
theorem d2_44 : decode method_2_code 44 = .ok (.sipush 160, 3) := by decide +kernel
theorem d2_47 : decode method_2_code 47 = .ok (.if_icmp .lt 11, 3) := by decide +kernel
theorem d2_50 : decode method_2_code 50 = .ok (.iload_n 0, 1) := by decide +kernel
theorem d2_51 : decode method_2_code 51 = .ok (.ldc 7, 2) := by decide +kernel
theorem d2_53 : decode method_2_code 53 = .ok (.if_icmp .gt 5, 3) := by decide +kernel
theorem d2_56 : decode method_2_code 56 = .ok (.iconst 1, 1) := by decide +kernel
theorem d2_57 : decode method_2_code 57 = .ok (.ireturn, 1) := by decide +kernel
theorem d2_58 : decode method_2_code 58 = .ok (.iload_n 0, 1) := by decide +kernel
theorem d2_59 : decode method_2_code 59 = .ok (.ldc 8, 2) := by decide +kernel
theorem d2_61 : decode method_2_code 61 = .ok (.if_icmp .lt 21, 3) := by decide +kernel
theorem d2_64 : decode method_2_code 64 = .ok (.iload_n 0, 1) := by decide +kernel
theorem d2_65 : decode method_2_code 65 = .ok (.ldc 9, 2) := by decide +kernel
theorem d2_67 : decode method_2_code 67 = .ok (.if_icmp .gt 15, 3) := by decide +kernel
theorem d2_70 : decode method_2_code 70 = .ok (.iload_n 0, 1) := by decide +kernel
theorem d2_71 : decode method_2_code 71 = .ok (.ldc 10, 2) := by decide +kernel
theorem d2_73 : decode method_2_code 73 = .ok (.if_icmp .eq 7, 3) := by decide +kernel
theorem d2_76 : decode method_2_code 76 = .ok (.iconst 1, 1) := by decide +kernel
theorem d2_77 : decode method_2_code 77 = .ok (.goto 4, 3) := by decide +kernel
theorem d2_80 : decode method_2_code 80 = .ok (.iconst 0, 1) := by decide +kernel
theorem d2_81 : decode method_2_code 81 = .ok (.ireturn, 1) := by decide +kernel
theorem d2_82 : decode method_2_code 82 = .ok (.iconst 0, 1) := by decide +kernel
theorem d2_83 : decode method_2_code 83 = .ok (.ireturn, 1) := by decide +kernel
theorem pn_2 : plainName "com/example/lokey/lokey/yaml/CursorMayStandAnywherePinLaw" = true := by first | (simp [plainName, overriddenIn]; done) | decide +kernel
theorem ef_2 (m : MethodId) (x0 : Int32) : entryFrame m #[(.int x0)] 1 = mkF m 0 #[.val (.int x0)] [] := by first | (simp [entryFrame, mkF, argsToLocals, Value.category]; done) | rfl
def bl2_0_2 : List (Nat × Instr × Nat) := [(0, .iload_n 0, 1), (1, .bipush 9, 2)]
theorem bd2_0_2 : own_dec method_2_code bl2_0_2 = true := by decide +kernel
def bl2_18_1 : List (Nat × Instr × Nat) := [(18, .iconst 1, 1)]
theorem bd2_18_1 : own_dec method_2_code bl2_18_1 = true := by decide +kernel
def bl2_6_2 : List (Nat × Instr × Nat) := [(6, .iload_n 0, 1), (7, .bipush 10, 2)]
theorem bd2_6_2 : own_dec method_2_code bl2_6_2 = true := by decide +kernel
def bl2_12_2 : List (Nat × Instr × Nat) := [(12, .iload_n 0, 1), (13, .bipush 13, 2)]
theorem bd2_12_2 : own_dec method_2_code bl2_12_2 = true := by decide +kernel
def bl2_20_2 : List (Nat × Instr × Nat) := [(20, .iload_n 0, 1), (21, .bipush 32, 2)]
theorem bd2_20_2 : own_dec method_2_code bl2_20_2 = true := by decide +kernel
def bl2_34_2 : List (Nat × Instr × Nat) := [(34, .iload_n 0, 1), (35, .sipush 133, 3)]
theorem bd2_34_2 : own_dec method_2_code bl2_34_2 = true := by decide +kernel
def bl2_41_1 : List (Nat × Instr × Nat) := [(41, .iconst 1, 1)]
theorem bd2_41_1 : own_dec method_2_code bl2_41_1 = true := by decide +kernel
def bl2_43_2 : List (Nat × Instr × Nat) := [(43, .iload_n 0, 1), (44, .sipush 160, 3)]
theorem bd2_43_2 : own_dec method_2_code bl2_43_2 = true := by decide +kernel
def bl2_58_1 : List (Nat × Instr × Nat) := [(58, .iload_n 0, 1)]
theorem bd2_58_1 : own_dec method_2_code bl2_58_1 = true := by decide +kernel
def bl2_82_1 : List (Nat × Instr × Nat) := [(82, .iconst 0, 1)]
theorem bd2_82_1 : own_dec method_2_code bl2_82_1 = true := by decide +kernel
def bl2_64_1 : List (Nat × Instr × Nat) := [(64, .iload_n 0, 1)]
theorem bd2_64_1 : own_dec method_2_code bl2_64_1 = true := by decide +kernel
def bl2_70_1 : List (Nat × Instr × Nat) := [(70, .iload_n 0, 1)]
theorem bd2_70_1 : own_dec method_2_code bl2_70_1 = true := by decide +kernel
def bl2_80_1 : List (Nat × Instr × Nat) := [(80, .iconst 0, 1)]
theorem bd2_80_1 : own_dec method_2_code bl2_80_1 = true := by decide +kernel
def bl2_76_2 : List (Nat × Instr × Nat) := [(76, .iconst 1, 1), (77, .goto 4, 3)]
theorem bd2_76_2 : own_dec method_2_code bl2_76_2 = true := by decide +kernel
def bl2_50_1 : List (Nat × Instr × Nat) := [(50, .iload_n 0, 1)]
theorem bd2_50_1 : own_dec method_2_code bl2_50_1 = true := by decide +kernel
def bl2_56_1 : List (Nat × Instr × Nat) := [(56, .iconst 1, 1)]
theorem bd2_56_1 : own_dec method_2_code bl2_56_1 = true := by decide +kernel
def bl2_26_2 : List (Nat × Instr × Nat) := [(26, .iload_n 0, 1), (27, .bipush 126, 2)]
theorem bd2_26_2 : own_dec method_2_code bl2_26_2 = true := by decide +kernel
def bl2_32_1 : List (Nat × Instr × Nat) := [(32, .iconst 1, 1)]
theorem bd2_32_1 : own_dec method_2_code bl2_32_1 = true := by decide +kernel

def f2 (p1 : Int32) : Int32 := (if p1 = (9 : Int32) then (1 : Int32) else (if p1 = (10 : Int32) then (1 : Int32) else (if p1 = (13 : Int32) then (1 : Int32) else (if p1 < (32 : Int32) then (if p1 = (133 : Int32) then (1 : Int32) else (if p1 < (160 : Int32) then (if p1 < (57344 : Int32) then (0 : Int32) else (if (65533 : Int32) < p1 then (0 : Int32) else (if p1 = (65279 : Int32) then (0 : Int32) else (1 : Int32)))) else (if (55295 : Int32) < p1 then (if p1 < (57344 : Int32) then (0 : Int32) else (if (65533 : Int32) < p1 then (0 : Int32) else (if p1 = (65279 : Int32) then (0 : Int32) else (1 : Int32)))) else (1 : Int32)))) else (if (126 : Int32) < p1 then (if p1 = (133 : Int32) then (1 : Int32) else (if p1 < (160 : Int32) then (if p1 < (57344 : Int32) then (0 : Int32) else (if (65533 : Int32) < p1 then (0 : Int32) else (if p1 = (65279 : Int32) then (0 : Int32) else (1 : Int32)))) else (if (55295 : Int32) < p1 then (if p1 < (57344 : Int32) then (0 : Int32) else (if (65533 : Int32) < p1 then (0 : Int32) else (if p1 = (65279 : Int32) then (0 : Int32) else (1 : Int32)))) else (1 : Int32)))) else (1 : Int32))))))
def Q2 (Z : State) (p1 : Int32) (h0 : Heap) (n0 : Nat) (v : Option Value) (h : Heap) (L : List Loc) : Prop := v = some (.int (f2 p1)) ∧ Fr n0 L ∧ h = h0
set_option maxRecDepth 65536 in
set_option maxHeartbeats 40000000 in
theorem rm2 (l : Launch) (Z : State) (a0 : Array Value) (hw : ∀ d ∈ tables_1, d.before a0 Z = true) (ws : List Jvm.Cond) (p1 : Int32) (h0 : Heap) (n0 : Nat) (Z0 : n0 ≤ h0.size) :
    MetFree l (⟨"com/example/lokey/lokey/yaml/CursorMayStandAnywherePinLaw", "expected", "(I)Z"⟩ : MethodName) (head1 (Jvm.Cond.code (⟨"com/example/lokey/lokey/yaml/CursorMayStandAnywherePinLaw", "expected", "(I)Z"⟩ : MethodName) method_2_code 1 (some .boolean) :: ws) ({ frames := 0, cells := 0, slots := 0, locals := 0 } : Room)) (fun a U => a = #[(.int p1)] ∧ Z.Warmed39 U.vm ∧ U.heap = h0) (fun _ _ _ _ _ => True) (fun _ U o U' => ∃ v L, o = .returned v ∧ Q2 Z p1 h0 n0 v U'.heap L ∧ FrameEnd U o U' L ({ frames := 0, cells := 0, slots := 0, locals := 0 } : Room).cells ({ frames := 0, cells := 0, slots := 0, locals := 0 } : Room).slots) := by
  refine MetFree.of_bodySF (plainFor_of_name pn_2) hisR ?_
  intro p e s m args below meth c s₁ Bd hml0 hP hK
  obtain ⟨rfl, hZ, hh⟩ := hP
  have hx := Bd.exec
  have hby := Bd.bytes
  have hml : c.maxLocals = 1 := hml0
  have hown : s.vm.findClass "com/example/lokey/lokey/yaml/CursorMayStandAnywherePinLaw" = some m.cls := findClass_of_methodNamed Bd.named
  have hnm := (name_of_methodNamed Bd.named Bd.method).1
  have X0 : Stand p l e ({ frames := 0, cells := 0, slots := 0, locals := 0 } : Room) s m #[(.int p1)] below meth c s₁ [] 0 0 := Stand.of_body Bd
  have e0 : s₁.heap = h0 := by rw [← hh, Bd.state]; rfl
  have N0 := Fr.nil n0
  have pre0 : ∀ t, Steps p.tables e below (s₁.setTop (mkF m 0 #[.val (.int p1)] [])) t → Steps p.tables e below (s₁.setTop (entryFrame m #[(.int p1)] 1)) t := fun t k => castTop (ef_2 m p1) k
  have pre1 : ∀ t, Steps p.tables e below (s₁.setTop (mkF m 3 #[.val (.int p1)] [(.int (9 : Int32)), (.int p1)])) t → Steps p.tables e below (s₁.setTop (entryFrame m #[(.int p1)] 1)) t := fun t kt => by
    refine pre0 _ ?_
    show Steps p.tables e below (s₁.setTop (mkF m 0 #[.val (.int p1)] [])) _
    refine own_blk X0 hx bl2_0_2 (own_hb hby bd2_0_2) (pc' := 3) (Ls' := #[.val (.int p1)]) (st' := [(.int (9 : Int32)), (.int p1)]) rfl ?_
    exact kt
  by_cases hc2 : p1 = (9 : Int32)
  · obtain ⟨fs, hr, hrun, hended, hW, hsame⟩ := X0.leave (v := some (.int (1 : Int32))) (fun h => by rw [Bd.returns] at h; cases h)
    refine ⟨_, _, pre1 _ ?_, hrun, hended, _, _, rfl, ?_, ⟨_, rfl⟩, hW, hsame.mono (by decide) (by decide)⟩
    · show Steps p.tables e below (s₁.setTop (mkF m 3 #[.val (.int p1)] [(.int (9 : Int32)), (.int p1)])) _
      refine XS.icmpYes X0.here hx rfl (pc0 := 3) (pc' := 18) rfl (hb hby d2_3) rfl (teq hc2).1 (by decide) (by decide) ?_
      show Steps p.tables e below (s₁.setTop (mkF m 18 #[.val (.int p1)] [])) _
      refine own_blk X0 hx bl2_18_1 (own_hb hby bd2_18_1) (pc' := 19) (Ls' := #[.val (.int p1)]) (st' := [(.int (1 : Int32))]) rfl ?_
      show Steps p.tables e below (s₁.setTop (mkF m 19 #[.val (.int p1)] [(.int (1 : Int32))])) _
      exact retN X0 hx (t := .boolean) Bd.returns (by simp) (hb hby d2_19) hr
    · show Q2 Z p1 h0 n0 _ s₁.heap _
      rw [e0]
      exact ⟨by rw [f2, if_pos hc2], N0, rfl⟩
  · have pre3 : ∀ t, Steps p.tables e below (s₁.setTop (mkF m 9 #[.val (.int p1)] [(.int (10 : Int32)), (.int p1)])) t → Steps p.tables e below (s₁.setTop (entryFrame m #[(.int p1)] 1)) t := fun t kt => by
      refine pre1 _ ?_
      show Steps p.tables e below (s₁.setTop (mkF m 3 #[.val (.int p1)] [(.int (9 : Int32)), (.int p1)])) _
      refine XS.icmpNo X0.here hx rfl (hb hby d2_3) rfl (feq hc2).1 ?_
      show Steps p.tables e below (s₁.setTop (mkF m 6 #[.val (.int p1)] [])) _
      refine own_blk X0 hx bl2_6_2 (own_hb hby bd2_6_2) (pc' := 9) (Ls' := #[.val (.int p1)]) (st' := [(.int (10 : Int32)), (.int p1)]) rfl ?_
      exact kt
    by_cases hc4 : p1 = (10 : Int32)
    · obtain ⟨fs, hr, hrun, hended, hW, hsame⟩ := X0.leave (v := some (.int (1 : Int32))) (fun h => by rw [Bd.returns] at h; cases h)
      refine ⟨_, _, pre3 _ ?_, hrun, hended, _, _, rfl, ?_, ⟨_, rfl⟩, hW, hsame.mono (by decide) (by decide)⟩
      · show Steps p.tables e below (s₁.setTop (mkF m 9 #[.val (.int p1)] [(.int (10 : Int32)), (.int p1)])) _
        refine XS.icmpYes X0.here hx rfl (pc0 := 9) (pc' := 18) rfl (hb hby d2_9) rfl (teq hc4).1 (by decide) (by decide) ?_
        show Steps p.tables e below (s₁.setTop (mkF m 18 #[.val (.int p1)] [])) _
        refine own_blk X0 hx bl2_18_1 (own_hb hby bd2_18_1) (pc' := 19) (Ls' := #[.val (.int p1)]) (st' := [(.int (1 : Int32))]) rfl ?_
        show Steps p.tables e below (s₁.setTop (mkF m 19 #[.val (.int p1)] [(.int (1 : Int32))])) _
        exact retN X0 hx (t := .boolean) Bd.returns (by simp) (hb hby d2_19) hr
      · show Q2 Z p1 h0 n0 _ s₁.heap _
        rw [e0]
        exact ⟨by rw [f2, if_neg hc2, if_pos hc4], N0, rfl⟩
    · have pre5 : ∀ t, Steps p.tables e below (s₁.setTop (mkF m 15 #[.val (.int p1)] [(.int (13 : Int32)), (.int p1)])) t → Steps p.tables e below (s₁.setTop (entryFrame m #[(.int p1)] 1)) t := fun t kt => by
        refine pre3 _ ?_
        show Steps p.tables e below (s₁.setTop (mkF m 9 #[.val (.int p1)] [(.int (10 : Int32)), (.int p1)])) _
        refine XS.icmpNo X0.here hx rfl (hb hby d2_9) rfl (feq hc4).1 ?_
        show Steps p.tables e below (s₁.setTop (mkF m 12 #[.val (.int p1)] [])) _
        refine own_blk X0 hx bl2_12_2 (own_hb hby bd2_12_2) (pc' := 15) (Ls' := #[.val (.int p1)]) (st' := [(.int (13 : Int32)), (.int p1)]) rfl ?_
        exact kt
      by_cases hc6 : p1 = (13 : Int32)
      · obtain ⟨fs, hr, hrun, hended, hW, hsame⟩ := X0.leave (v := some (.int (1 : Int32))) (fun h => by rw [Bd.returns] at h; cases h)
        refine ⟨_, _, pre5 _ ?_, hrun, hended, _, _, rfl, ?_, ⟨_, rfl⟩, hW, hsame.mono (by decide) (by decide)⟩
        · show Steps p.tables e below (s₁.setTop (mkF m 15 #[.val (.int p1)] [(.int (13 : Int32)), (.int p1)])) _
          refine XS.icmpNo X0.here hx rfl (hb hby d2_15) rfl (teq hc6).2 ?_
          show Steps p.tables e below (s₁.setTop (mkF m 18 #[.val (.int p1)] [])) _
          refine own_blk X0 hx bl2_18_1 (own_hb hby bd2_18_1) (pc' := 19) (Ls' := #[.val (.int p1)]) (st' := [(.int (1 : Int32))]) rfl ?_
          show Steps p.tables e below (s₁.setTop (mkF m 19 #[.val (.int p1)] [(.int (1 : Int32))])) _
          exact retN X0 hx (t := .boolean) Bd.returns (by simp) (hb hby d2_19) hr
        · show Q2 Z p1 h0 n0 _ s₁.heap _
          rw [e0]
          exact ⟨by rw [f2, if_neg hc2, if_neg hc4, if_pos hc6], N0, rfl⟩
      · have pre7 : ∀ t, Steps p.tables e below (s₁.setTop (mkF m 23 #[.val (.int p1)] [(.int (32 : Int32)), (.int p1)])) t → Steps p.tables e below (s₁.setTop (entryFrame m #[(.int p1)] 1)) t := fun t kt => by
          refine pre5 _ ?_
          show Steps p.tables e below (s₁.setTop (mkF m 15 #[.val (.int p1)] [(.int (13 : Int32)), (.int p1)])) _
          refine XS.icmpYes X0.here hx rfl (pc0 := 15) (pc' := 20) rfl (hb hby d2_15) rfl (feq hc6).2 (by decide) (by decide) ?_
          show Steps p.tables e below (s₁.setTop (mkF m 20 #[.val (.int p1)] [])) _
          refine own_blk X0 hx bl2_20_2 (own_hb hby bd2_20_2) (pc' := 23) (Ls' := #[.val (.int p1)]) (st' := [(.int (32 : Int32)), (.int p1)]) rfl ?_
          exact kt
        by_cases hc8 : p1 < (32 : Int32)
        · have pre9 : ∀ t, Steps p.tables e below (s₁.setTop (mkF m 38 #[.val (.int p1)] [(.int (133 : Int32)), (.int p1)])) t → Steps p.tables e below (s₁.setTop (entryFrame m #[(.int p1)] 1)) t := fun t kt => by
            refine pre7 _ ?_
            show Steps p.tables e below (s₁.setTop (mkF m 23 #[.val (.int p1)] [(.int (32 : Int32)), (.int p1)])) _
            refine XS.icmpYes X0.here hx rfl (pc0 := 23) (pc' := 34) rfl (hb hby d2_23) rfl (tlt hc8).1 (by decide) (by decide) ?_
            show Steps p.tables e below (s₁.setTop (mkF m 34 #[.val (.int p1)] [])) _
            refine own_blk X0 hx bl2_34_2 (own_hb hby bd2_34_2) (pc' := 38) (Ls' := #[.val (.int p1)]) (st' := [(.int (133 : Int32)), (.int p1)]) rfl ?_
            exact kt
          by_cases hc10 : p1 = (133 : Int32)
          · obtain ⟨fs, hr, hrun, hended, hW, hsame⟩ := X0.leave (v := some (.int (1 : Int32))) (fun h => by rw [Bd.returns] at h; cases h)
            refine ⟨_, _, pre9 _ ?_, hrun, hended, _, _, rfl, ?_, ⟨_, rfl⟩, hW, hsame.mono (by decide) (by decide)⟩
            · show Steps p.tables e below (s₁.setTop (mkF m 38 #[.val (.int p1)] [(.int (133 : Int32)), (.int p1)])) _
              refine XS.icmpNo X0.here hx rfl (hb hby d2_38) rfl (teq hc10).2 ?_
              show Steps p.tables e below (s₁.setTop (mkF m 41 #[.val (.int p1)] [])) _
              refine own_blk X0 hx bl2_41_1 (own_hb hby bd2_41_1) (pc' := 42) (Ls' := #[.val (.int p1)]) (st' := [(.int (1 : Int32))]) rfl ?_
              show Steps p.tables e below (s₁.setTop (mkF m 42 #[.val (.int p1)] [(.int (1 : Int32))])) _
              exact retN X0 hx (t := .boolean) Bd.returns (by simp) (hb hby d2_42) hr
            · show Q2 Z p1 h0 n0 _ s₁.heap _
              rw [e0]
              exact ⟨by rw [f2, if_neg hc2, if_neg hc4, if_neg hc6, if_pos hc8, if_pos hc10], N0, rfl⟩
          · have pre11 : ∀ t, Steps p.tables e below (s₁.setTop (mkF m 47 #[.val (.int p1)] [(.int (160 : Int32)), (.int p1)])) t → Steps p.tables e below (s₁.setTop (entryFrame m #[(.int p1)] 1)) t := fun t kt => by
              refine pre9 _ ?_
              show Steps p.tables e below (s₁.setTop (mkF m 38 #[.val (.int p1)] [(.int (133 : Int32)), (.int p1)])) _
              refine XS.icmpYes X0.here hx rfl (pc0 := 38) (pc' := 43) rfl (hb hby d2_38) rfl (feq hc10).2 (by decide) (by decide) ?_
              show Steps p.tables e below (s₁.setTop (mkF m 43 #[.val (.int p1)] [])) _
              refine own_blk X0 hx bl2_43_2 (own_hb hby bd2_43_2) (pc' := 47) (Ls' := #[.val (.int p1)]) (st' := [(.int (160 : Int32)), (.int p1)]) rfl ?_
              exact kt
            by_cases hc12 : p1 < (160 : Int32)
            · have pre13 : ∀ t, Steps p.tables e below (s₁.setTop (mkF m 61 #[.val (.int p1)] [(.int (57344 : Int32)), (.int p1)])) t → Steps p.tables e below (s₁.setTop (entryFrame m #[(.int p1)] 1)) t := fun t kt => by
                refine pre11 _ ?_
                show Steps p.tables e below (s₁.setTop (mkF m 47 #[.val (.int p1)] [(.int (160 : Int32)), (.int p1)])) _
                refine XS.icmpYes X0.here hx rfl (pc0 := 47) (pc' := 58) rfl (hb hby d2_47) rfl (tlt hc12).1 (by decide) (by decide) ?_
                show Steps p.tables e below (s₁.setTop (mkF m 58 #[.val (.int p1)] [])) _
                refine own_blk X0 hx bl2_58_1 (own_hb hby bd2_58_1) (pc' := 59) (Ls' := #[.val (.int p1)]) (st' := [(.int p1)]) rfl ?_
                show Steps p.tables e below (s₁.setTop (mkF m 59 #[.val (.int p1)] [(.int p1)])) _
                refine X0.ldcInt hx hown (mvT hZ (hw _ (List.mem_of_getElem? (i := 11) rfl))) (g := (mkF m 59 #[.val (.int p1)] [(.int p1)])) rfl (hb hby d2_59) _ ?_
                exact kt
              by_cases hc14 : p1 < (57344 : Int32)
              · obtain ⟨fs, hr, hrun, hended, hW, hsame⟩ := X0.leave (v := some (.int (0 : Int32))) (fun h => by rw [Bd.returns] at h; cases h)
                refine ⟨_, _, pre13 _ ?_, hrun, hended, _, _, rfl, ?_, ⟨_, rfl⟩, hW, hsame.mono (by decide) (by decide)⟩
                · show Steps p.tables e below (s₁.setTop (mkF m 61 #[.val (.int p1)] [(.int (57344 : Int32)), (.int p1)])) _
                  refine XS.icmpYes X0.here hx rfl (pc0 := 61) (pc' := 82) rfl (hb hby d2_61) rfl (tlt hc14).1 (by decide) (by decide) ?_
                  show Steps p.tables e below (s₁.setTop (mkF m 82 #[.val (.int p1)] [])) _
                  refine own_blk X0 hx bl2_82_1 (own_hb hby bd2_82_1) (pc' := 83) (Ls' := #[.val (.int p1)]) (st' := [(.int (0 : Int32))]) rfl ?_
                  show Steps p.tables e below (s₁.setTop (mkF m 83 #[.val (.int p1)] [(.int (0 : Int32))])) _
                  exact retN X0 hx (t := .boolean) Bd.returns (by simp) (hb hby d2_83) hr
                · show Q2 Z p1 h0 n0 _ s₁.heap _
                  rw [e0]
                  exact ⟨by rw [f2, if_neg hc2, if_neg hc4, if_neg hc6, if_pos hc8, if_neg hc10, if_pos hc12, if_pos hc14], N0, rfl⟩
              · have pre15 : ∀ t, Steps p.tables e below (s₁.setTop (mkF m 67 #[.val (.int p1)] [(.int (65533 : Int32)), (.int p1)])) t → Steps p.tables e below (s₁.setTop (entryFrame m #[(.int p1)] 1)) t := fun t kt => by
                  refine pre13 _ ?_
                  show Steps p.tables e below (s₁.setTop (mkF m 61 #[.val (.int p1)] [(.int (57344 : Int32)), (.int p1)])) _
                  refine XS.icmpNo X0.here hx rfl (hb hby d2_61) rfl (flt hc14).1 ?_
                  show Steps p.tables e below (s₁.setTop (mkF m 64 #[.val (.int p1)] [])) _
                  refine own_blk X0 hx bl2_64_1 (own_hb hby bd2_64_1) (pc' := 65) (Ls' := #[.val (.int p1)]) (st' := [(.int p1)]) rfl ?_
                  show Steps p.tables e below (s₁.setTop (mkF m 65 #[.val (.int p1)] [(.int p1)])) _
                  refine X0.ldcInt hx hown (mvT hZ (hw _ (List.mem_of_getElem? (i := 17) rfl))) (g := (mkF m 65 #[.val (.int p1)] [(.int p1)])) rfl (hb hby d2_65) _ ?_
                  exact kt
                by_cases hc16 : (65533 : Int32) < p1
                · obtain ⟨fs, hr, hrun, hended, hW, hsame⟩ := X0.leave (v := some (.int (0 : Int32))) (fun h => by rw [Bd.returns] at h; cases h)
                  refine ⟨_, _, pre15 _ ?_, hrun, hended, _, _, rfl, ?_, ⟨_, rfl⟩, hW, hsame.mono (by decide) (by decide)⟩
                  · show Steps p.tables e below (s₁.setTop (mkF m 67 #[.val (.int p1)] [(.int (65533 : Int32)), (.int p1)])) _
                    refine XS.icmpYes X0.here hx rfl (pc0 := 67) (pc' := 82) rfl (hb hby d2_67) rfl (tlt hc16).2.2.1 (by decide) (by decide) ?_
                    show Steps p.tables e below (s₁.setTop (mkF m 82 #[.val (.int p1)] [])) _
                    refine own_blk X0 hx bl2_82_1 (own_hb hby bd2_82_1) (pc' := 83) (Ls' := #[.val (.int p1)]) (st' := [(.int (0 : Int32))]) rfl ?_
                    show Steps p.tables e below (s₁.setTop (mkF m 83 #[.val (.int p1)] [(.int (0 : Int32))])) _
                    exact retN X0 hx (t := .boolean) Bd.returns (by simp) (hb hby d2_83) hr
                  · show Q2 Z p1 h0 n0 _ s₁.heap _
                    rw [e0]
                    exact ⟨by rw [f2, if_neg hc2, if_neg hc4, if_neg hc6, if_pos hc8, if_neg hc10, if_pos hc12, if_neg hc14, if_pos hc16], N0, rfl⟩
                · have pre17 : ∀ t, Steps p.tables e below (s₁.setTop (mkF m 73 #[.val (.int p1)] [(.int (65279 : Int32)), (.int p1)])) t → Steps p.tables e below (s₁.setTop (entryFrame m #[(.int p1)] 1)) t := fun t kt => by
                    refine pre15 _ ?_
                    show Steps p.tables e below (s₁.setTop (mkF m 67 #[.val (.int p1)] [(.int (65533 : Int32)), (.int p1)])) _
                    refine XS.icmpNo X0.here hx rfl (hb hby d2_67) rfl (flt hc16).2.2.1 ?_
                    show Steps p.tables e below (s₁.setTop (mkF m 70 #[.val (.int p1)] [])) _
                    refine own_blk X0 hx bl2_70_1 (own_hb hby bd2_70_1) (pc' := 71) (Ls' := #[.val (.int p1)]) (st' := [(.int p1)]) rfl ?_
                    show Steps p.tables e below (s₁.setTop (mkF m 71 #[.val (.int p1)] [(.int p1)])) _
                    refine X0.ldcInt hx hown (mvT hZ (hw _ (List.mem_of_getElem? (i := 18) rfl))) (g := (mkF m 71 #[.val (.int p1)] [(.int p1)])) rfl (hb hby d2_71) _ ?_
                    exact kt
                  by_cases hc18 : p1 = (65279 : Int32)
                  · obtain ⟨fs, hr, hrun, hended, hW, hsame⟩ := X0.leave (v := some (.int (0 : Int32))) (fun h => by rw [Bd.returns] at h; cases h)
                    refine ⟨_, _, pre17 _ ?_, hrun, hended, _, _, rfl, ?_, ⟨_, rfl⟩, hW, hsame.mono (by decide) (by decide)⟩
                    · show Steps p.tables e below (s₁.setTop (mkF m 73 #[.val (.int p1)] [(.int (65279 : Int32)), (.int p1)])) _
                      refine XS.icmpYes X0.here hx rfl (pc0 := 73) (pc' := 80) rfl (hb hby d2_73) rfl (teq hc18).1 (by decide) (by decide) ?_
                      show Steps p.tables e below (s₁.setTop (mkF m 80 #[.val (.int p1)] [])) _
                      refine own_blk X0 hx bl2_80_1 (own_hb hby bd2_80_1) (pc' := 81) (Ls' := #[.val (.int p1)]) (st' := [(.int (0 : Int32))]) rfl ?_
                      show Steps p.tables e below (s₁.setTop (mkF m 81 #[.val (.int p1)] [(.int (0 : Int32))])) _
                      exact retN X0 hx (t := .boolean) Bd.returns (by simp) (hb hby d2_81) hr
                    · show Q2 Z p1 h0 n0 _ s₁.heap _
                      rw [e0]
                      exact ⟨by rw [f2, if_neg hc2, if_neg hc4, if_neg hc6, if_pos hc8, if_neg hc10, if_pos hc12, if_neg hc14, if_neg hc16, if_pos hc18], N0, rfl⟩
                  · obtain ⟨fs, hr, hrun, hended, hW, hsame⟩ := X0.leave (v := some (.int (1 : Int32))) (fun h => by rw [Bd.returns] at h; cases h)
                    refine ⟨_, _, pre17 _ ?_, hrun, hended, _, _, rfl, ?_, ⟨_, rfl⟩, hW, hsame.mono (by decide) (by decide)⟩
                    · show Steps p.tables e below (s₁.setTop (mkF m 73 #[.val (.int p1)] [(.int (65279 : Int32)), (.int p1)])) _
                      refine XS.icmpNo X0.here hx rfl (hb hby d2_73) rfl (feq hc18).1 ?_
                      show Steps p.tables e below (s₁.setTop (mkF m 76 #[.val (.int p1)] [])) _
                      refine own_blk X0 hx bl2_76_2 (own_hb hby bd2_76_2) (pc' := 81) (Ls' := #[.val (.int p1)]) (st' := [(.int (1 : Int32))]) rfl ?_
                      show Steps p.tables e below (s₁.setTop (mkF m 81 #[.val (.int p1)] [(.int (1 : Int32))])) _
                      exact retN X0 hx (t := .boolean) Bd.returns (by simp) (hb hby d2_81) hr
                    · show Q2 Z p1 h0 n0 _ s₁.heap _
                      rw [e0]
                      exact ⟨by rw [f2, if_neg hc2, if_neg hc4, if_neg hc6, if_pos hc8, if_neg hc10, if_pos hc12, if_neg hc14, if_neg hc16, if_neg hc18], N0, rfl⟩
            · have pre19 : ∀ t, Steps p.tables e below (s₁.setTop (mkF m 53 #[.val (.int p1)] [(.int (55295 : Int32)), (.int p1)])) t → Steps p.tables e below (s₁.setTop (entryFrame m #[(.int p1)] 1)) t := fun t kt => by
                refine pre11 _ ?_
                show Steps p.tables e below (s₁.setTop (mkF m 47 #[.val (.int p1)] [(.int (160 : Int32)), (.int p1)])) _
                refine XS.icmpNo X0.here hx rfl (hb hby d2_47) rfl (flt hc12).1 ?_
                show Steps p.tables e below (s₁.setTop (mkF m 50 #[.val (.int p1)] [])) _
                refine own_blk X0 hx bl2_50_1 (own_hb hby bd2_50_1) (pc' := 51) (Ls' := #[.val (.int p1)]) (st' := [(.int p1)]) rfl ?_
                show Steps p.tables e below (s₁.setTop (mkF m 51 #[.val (.int p1)] [(.int p1)])) _
                refine X0.ldcInt hx hown (mvT hZ (hw _ (List.mem_of_getElem? (i := 13) rfl))) (g := (mkF m 51 #[.val (.int p1)] [(.int p1)])) rfl (hb hby d2_51) _ ?_
                exact kt
              by_cases hc20 : (55295 : Int32) < p1
              · have pre21 : ∀ t, Steps p.tables e below (s₁.setTop (mkF m 61 #[.val (.int p1)] [(.int (57344 : Int32)), (.int p1)])) t → Steps p.tables e below (s₁.setTop (entryFrame m #[(.int p1)] 1)) t := fun t kt => by
                  refine pre19 _ ?_
                  show Steps p.tables e below (s₁.setTop (mkF m 53 #[.val (.int p1)] [(.int (55295 : Int32)), (.int p1)])) _
                  refine XS.icmpYes X0.here hx rfl (pc0 := 53) (pc' := 58) rfl (hb hby d2_53) rfl (tlt hc20).2.2.1 (by decide) (by decide) ?_
                  show Steps p.tables e below (s₁.setTop (mkF m 58 #[.val (.int p1)] [])) _
                  refine own_blk X0 hx bl2_58_1 (own_hb hby bd2_58_1) (pc' := 59) (Ls' := #[.val (.int p1)]) (st' := [(.int p1)]) rfl ?_
                  show Steps p.tables e below (s₁.setTop (mkF m 59 #[.val (.int p1)] [(.int p1)])) _
                  refine X0.ldcInt hx hown (mvT hZ (hw _ (List.mem_of_getElem? (i := 11) rfl))) (g := (mkF m 59 #[.val (.int p1)] [(.int p1)])) rfl (hb hby d2_59) _ ?_
                  exact kt
                by_cases hc22 : p1 < (57344 : Int32)
                · obtain ⟨fs, hr, hrun, hended, hW, hsame⟩ := X0.leave (v := some (.int (0 : Int32))) (fun h => by rw [Bd.returns] at h; cases h)
                  refine ⟨_, _, pre21 _ ?_, hrun, hended, _, _, rfl, ?_, ⟨_, rfl⟩, hW, hsame.mono (by decide) (by decide)⟩
                  · show Steps p.tables e below (s₁.setTop (mkF m 61 #[.val (.int p1)] [(.int (57344 : Int32)), (.int p1)])) _
                    refine XS.icmpYes X0.here hx rfl (pc0 := 61) (pc' := 82) rfl (hb hby d2_61) rfl (tlt hc22).1 (by decide) (by decide) ?_
                    show Steps p.tables e below (s₁.setTop (mkF m 82 #[.val (.int p1)] [])) _
                    refine own_blk X0 hx bl2_82_1 (own_hb hby bd2_82_1) (pc' := 83) (Ls' := #[.val (.int p1)]) (st' := [(.int (0 : Int32))]) rfl ?_
                    show Steps p.tables e below (s₁.setTop (mkF m 83 #[.val (.int p1)] [(.int (0 : Int32))])) _
                    exact retN X0 hx (t := .boolean) Bd.returns (by simp) (hb hby d2_83) hr
                  · show Q2 Z p1 h0 n0 _ s₁.heap _
                    rw [e0]
                    exact ⟨by rw [f2, if_neg hc2, if_neg hc4, if_neg hc6, if_pos hc8, if_neg hc10, if_neg hc12, if_pos hc20, if_pos hc22], N0, rfl⟩
                · have pre23 : ∀ t, Steps p.tables e below (s₁.setTop (mkF m 67 #[.val (.int p1)] [(.int (65533 : Int32)), (.int p1)])) t → Steps p.tables e below (s₁.setTop (entryFrame m #[(.int p1)] 1)) t := fun t kt => by
                    refine pre21 _ ?_
                    show Steps p.tables e below (s₁.setTop (mkF m 61 #[.val (.int p1)] [(.int (57344 : Int32)), (.int p1)])) _
                    refine XS.icmpNo X0.here hx rfl (hb hby d2_61) rfl (flt hc22).1 ?_
                    show Steps p.tables e below (s₁.setTop (mkF m 64 #[.val (.int p1)] [])) _
                    refine own_blk X0 hx bl2_64_1 (own_hb hby bd2_64_1) (pc' := 65) (Ls' := #[.val (.int p1)]) (st' := [(.int p1)]) rfl ?_
                    show Steps p.tables e below (s₁.setTop (mkF m 65 #[.val (.int p1)] [(.int p1)])) _
                    refine X0.ldcInt hx hown (mvT hZ (hw _ (List.mem_of_getElem? (i := 17) rfl))) (g := (mkF m 65 #[.val (.int p1)] [(.int p1)])) rfl (hb hby d2_65) _ ?_
                    exact kt
                  by_cases hc24 : (65533 : Int32) < p1
                  · obtain ⟨fs, hr, hrun, hended, hW, hsame⟩ := X0.leave (v := some (.int (0 : Int32))) (fun h => by rw [Bd.returns] at h; cases h)
                    refine ⟨_, _, pre23 _ ?_, hrun, hended, _, _, rfl, ?_, ⟨_, rfl⟩, hW, hsame.mono (by decide) (by decide)⟩
                    · show Steps p.tables e below (s₁.setTop (mkF m 67 #[.val (.int p1)] [(.int (65533 : Int32)), (.int p1)])) _
                      refine XS.icmpYes X0.here hx rfl (pc0 := 67) (pc' := 82) rfl (hb hby d2_67) rfl (tlt hc24).2.2.1 (by decide) (by decide) ?_
                      show Steps p.tables e below (s₁.setTop (mkF m 82 #[.val (.int p1)] [])) _
                      refine own_blk X0 hx bl2_82_1 (own_hb hby bd2_82_1) (pc' := 83) (Ls' := #[.val (.int p1)]) (st' := [(.int (0 : Int32))]) rfl ?_
                      show Steps p.tables e below (s₁.setTop (mkF m 83 #[.val (.int p1)] [(.int (0 : Int32))])) _
                      exact retN X0 hx (t := .boolean) Bd.returns (by simp) (hb hby d2_83) hr
                    · show Q2 Z p1 h0 n0 _ s₁.heap _
                      rw [e0]
                      exact ⟨by rw [f2, if_neg hc2, if_neg hc4, if_neg hc6, if_pos hc8, if_neg hc10, if_neg hc12, if_pos hc20, if_neg hc22, if_pos hc24], N0, rfl⟩
                  · have pre25 : ∀ t, Steps p.tables e below (s₁.setTop (mkF m 73 #[.val (.int p1)] [(.int (65279 : Int32)), (.int p1)])) t → Steps p.tables e below (s₁.setTop (entryFrame m #[(.int p1)] 1)) t := fun t kt => by
                      refine pre23 _ ?_
                      show Steps p.tables e below (s₁.setTop (mkF m 67 #[.val (.int p1)] [(.int (65533 : Int32)), (.int p1)])) _
                      refine XS.icmpNo X0.here hx rfl (hb hby d2_67) rfl (flt hc24).2.2.1 ?_
                      show Steps p.tables e below (s₁.setTop (mkF m 70 #[.val (.int p1)] [])) _
                      refine own_blk X0 hx bl2_70_1 (own_hb hby bd2_70_1) (pc' := 71) (Ls' := #[.val (.int p1)]) (st' := [(.int p1)]) rfl ?_
                      show Steps p.tables e below (s₁.setTop (mkF m 71 #[.val (.int p1)] [(.int p1)])) _
                      refine X0.ldcInt hx hown (mvT hZ (hw _ (List.mem_of_getElem? (i := 18) rfl))) (g := (mkF m 71 #[.val (.int p1)] [(.int p1)])) rfl (hb hby d2_71) _ ?_
                      exact kt
                    by_cases hc26 : p1 = (65279 : Int32)
                    · obtain ⟨fs, hr, hrun, hended, hW, hsame⟩ := X0.leave (v := some (.int (0 : Int32))) (fun h => by rw [Bd.returns] at h; cases h)
                      refine ⟨_, _, pre25 _ ?_, hrun, hended, _, _, rfl, ?_, ⟨_, rfl⟩, hW, hsame.mono (by decide) (by decide)⟩
                      · show Steps p.tables e below (s₁.setTop (mkF m 73 #[.val (.int p1)] [(.int (65279 : Int32)), (.int p1)])) _
                        refine XS.icmpYes X0.here hx rfl (pc0 := 73) (pc' := 80) rfl (hb hby d2_73) rfl (teq hc26).1 (by decide) (by decide) ?_
                        show Steps p.tables e below (s₁.setTop (mkF m 80 #[.val (.int p1)] [])) _
                        refine own_blk X0 hx bl2_80_1 (own_hb hby bd2_80_1) (pc' := 81) (Ls' := #[.val (.int p1)]) (st' := [(.int (0 : Int32))]) rfl ?_
                        show Steps p.tables e below (s₁.setTop (mkF m 81 #[.val (.int p1)] [(.int (0 : Int32))])) _
                        exact retN X0 hx (t := .boolean) Bd.returns (by simp) (hb hby d2_81) hr
                      · show Q2 Z p1 h0 n0 _ s₁.heap _
                        rw [e0]
                        exact ⟨by rw [f2, if_neg hc2, if_neg hc4, if_neg hc6, if_pos hc8, if_neg hc10, if_neg hc12, if_pos hc20, if_neg hc22, if_neg hc24, if_pos hc26], N0, rfl⟩
                    · obtain ⟨fs, hr, hrun, hended, hW, hsame⟩ := X0.leave (v := some (.int (1 : Int32))) (fun h => by rw [Bd.returns] at h; cases h)
                      refine ⟨_, _, pre25 _ ?_, hrun, hended, _, _, rfl, ?_, ⟨_, rfl⟩, hW, hsame.mono (by decide) (by decide)⟩
                      · show Steps p.tables e below (s₁.setTop (mkF m 73 #[.val (.int p1)] [(.int (65279 : Int32)), (.int p1)])) _
                        refine XS.icmpNo X0.here hx rfl (hb hby d2_73) rfl (feq hc26).1 ?_
                        show Steps p.tables e below (s₁.setTop (mkF m 76 #[.val (.int p1)] [])) _
                        refine own_blk X0 hx bl2_76_2 (own_hb hby bd2_76_2) (pc' := 81) (Ls' := #[.val (.int p1)]) (st' := [(.int (1 : Int32))]) rfl ?_
                        show Steps p.tables e below (s₁.setTop (mkF m 81 #[.val (.int p1)] [(.int (1 : Int32))])) _
                        exact retN X0 hx (t := .boolean) Bd.returns (by simp) (hb hby d2_81) hr
                      · show Q2 Z p1 h0 n0 _ s₁.heap _
                        rw [e0]
                        exact ⟨by rw [f2, if_neg hc2, if_neg hc4, if_neg hc6, if_pos hc8, if_neg hc10, if_neg hc12, if_pos hc20, if_neg hc22, if_neg hc24, if_neg hc26], N0, rfl⟩
              · obtain ⟨fs, hr, hrun, hended, hW, hsame⟩ := X0.leave (v := some (.int (1 : Int32))) (fun h => by rw [Bd.returns] at h; cases h)
                refine ⟨_, _, pre19 _ ?_, hrun, hended, _, _, rfl, ?_, ⟨_, rfl⟩, hW, hsame.mono (by decide) (by decide)⟩
                · show Steps p.tables e below (s₁.setTop (mkF m 53 #[.val (.int p1)] [(.int (55295 : Int32)), (.int p1)])) _
                  refine XS.icmpNo X0.here hx rfl (hb hby d2_53) rfl (flt hc20).2.2.1 ?_
                  show Steps p.tables e below (s₁.setTop (mkF m 56 #[.val (.int p1)] [])) _
                  refine own_blk X0 hx bl2_56_1 (own_hb hby bd2_56_1) (pc' := 57) (Ls' := #[.val (.int p1)]) (st' := [(.int (1 : Int32))]) rfl ?_
                  show Steps p.tables e below (s₁.setTop (mkF m 57 #[.val (.int p1)] [(.int (1 : Int32))])) _
                  exact retN X0 hx (t := .boolean) Bd.returns (by simp) (hb hby d2_57) hr
                · show Q2 Z p1 h0 n0 _ s₁.heap _
                  rw [e0]
                  exact ⟨by rw [f2, if_neg hc2, if_neg hc4, if_neg hc6, if_pos hc8, if_neg hc10, if_neg hc12, if_neg hc20], N0, rfl⟩
        · have pre27 : ∀ t, Steps p.tables e below (s₁.setTop (mkF m 29 #[.val (.int p1)] [(.int (126 : Int32)), (.int p1)])) t → Steps p.tables e below (s₁.setTop (entryFrame m #[(.int p1)] 1)) t := fun t kt => by
            refine pre7 _ ?_
            show Steps p.tables e below (s₁.setTop (mkF m 23 #[.val (.int p1)] [(.int (32 : Int32)), (.int p1)])) _
            refine XS.icmpNo X0.here hx rfl (hb hby d2_23) rfl (flt hc8).1 ?_
            show Steps p.tables e below (s₁.setTop (mkF m 26 #[.val (.int p1)] [])) _
            refine own_blk X0 hx bl2_26_2 (own_hb hby bd2_26_2) (pc' := 29) (Ls' := #[.val (.int p1)]) (st' := [(.int (126 : Int32)), (.int p1)]) rfl ?_
            exact kt
          by_cases hc28 : (126 : Int32) < p1
          · have pre29 : ∀ t, Steps p.tables e below (s₁.setTop (mkF m 38 #[.val (.int p1)] [(.int (133 : Int32)), (.int p1)])) t → Steps p.tables e below (s₁.setTop (entryFrame m #[(.int p1)] 1)) t := fun t kt => by
              refine pre27 _ ?_
              show Steps p.tables e below (s₁.setTop (mkF m 29 #[.val (.int p1)] [(.int (126 : Int32)), (.int p1)])) _
              refine XS.icmpYes X0.here hx rfl (pc0 := 29) (pc' := 34) rfl (hb hby d2_29) rfl (tlt hc28).2.2.1 (by decide) (by decide) ?_
              show Steps p.tables e below (s₁.setTop (mkF m 34 #[.val (.int p1)] [])) _
              refine own_blk X0 hx bl2_34_2 (own_hb hby bd2_34_2) (pc' := 38) (Ls' := #[.val (.int p1)]) (st' := [(.int (133 : Int32)), (.int p1)]) rfl ?_
              exact kt
            by_cases hc30 : p1 = (133 : Int32)
            · obtain ⟨fs, hr, hrun, hended, hW, hsame⟩ := X0.leave (v := some (.int (1 : Int32))) (fun h => by rw [Bd.returns] at h; cases h)
              refine ⟨_, _, pre29 _ ?_, hrun, hended, _, _, rfl, ?_, ⟨_, rfl⟩, hW, hsame.mono (by decide) (by decide)⟩
              · show Steps p.tables e below (s₁.setTop (mkF m 38 #[.val (.int p1)] [(.int (133 : Int32)), (.int p1)])) _
                refine XS.icmpNo X0.here hx rfl (hb hby d2_38) rfl (teq hc30).2 ?_
                show Steps p.tables e below (s₁.setTop (mkF m 41 #[.val (.int p1)] [])) _
                refine own_blk X0 hx bl2_41_1 (own_hb hby bd2_41_1) (pc' := 42) (Ls' := #[.val (.int p1)]) (st' := [(.int (1 : Int32))]) rfl ?_
                show Steps p.tables e below (s₁.setTop (mkF m 42 #[.val (.int p1)] [(.int (1 : Int32))])) _
                exact retN X0 hx (t := .boolean) Bd.returns (by simp) (hb hby d2_42) hr
              · show Q2 Z p1 h0 n0 _ s₁.heap _
                rw [e0]
                exact ⟨by rw [f2, if_neg hc2, if_neg hc4, if_neg hc6, if_neg hc8, if_pos hc28, if_pos hc30], N0, rfl⟩
            · have pre31 : ∀ t, Steps p.tables e below (s₁.setTop (mkF m 47 #[.val (.int p1)] [(.int (160 : Int32)), (.int p1)])) t → Steps p.tables e below (s₁.setTop (entryFrame m #[(.int p1)] 1)) t := fun t kt => by
                refine pre29 _ ?_
                show Steps p.tables e below (s₁.setTop (mkF m 38 #[.val (.int p1)] [(.int (133 : Int32)), (.int p1)])) _
                refine XS.icmpYes X0.here hx rfl (pc0 := 38) (pc' := 43) rfl (hb hby d2_38) rfl (feq hc30).2 (by decide) (by decide) ?_
                show Steps p.tables e below (s₁.setTop (mkF m 43 #[.val (.int p1)] [])) _
                refine own_blk X0 hx bl2_43_2 (own_hb hby bd2_43_2) (pc' := 47) (Ls' := #[.val (.int p1)]) (st' := [(.int (160 : Int32)), (.int p1)]) rfl ?_
                exact kt
              by_cases hc32 : p1 < (160 : Int32)
              · have pre33 : ∀ t, Steps p.tables e below (s₁.setTop (mkF m 61 #[.val (.int p1)] [(.int (57344 : Int32)), (.int p1)])) t → Steps p.tables e below (s₁.setTop (entryFrame m #[(.int p1)] 1)) t := fun t kt => by
                  refine pre31 _ ?_
                  show Steps p.tables e below (s₁.setTop (mkF m 47 #[.val (.int p1)] [(.int (160 : Int32)), (.int p1)])) _
                  refine XS.icmpYes X0.here hx rfl (pc0 := 47) (pc' := 58) rfl (hb hby d2_47) rfl (tlt hc32).1 (by decide) (by decide) ?_
                  show Steps p.tables e below (s₁.setTop (mkF m 58 #[.val (.int p1)] [])) _
                  refine own_blk X0 hx bl2_58_1 (own_hb hby bd2_58_1) (pc' := 59) (Ls' := #[.val (.int p1)]) (st' := [(.int p1)]) rfl ?_
                  show Steps p.tables e below (s₁.setTop (mkF m 59 #[.val (.int p1)] [(.int p1)])) _
                  refine X0.ldcInt hx hown (mvT hZ (hw _ (List.mem_of_getElem? (i := 11) rfl))) (g := (mkF m 59 #[.val (.int p1)] [(.int p1)])) rfl (hb hby d2_59) _ ?_
                  exact kt
                by_cases hc34 : p1 < (57344 : Int32)
                · obtain ⟨fs, hr, hrun, hended, hW, hsame⟩ := X0.leave (v := some (.int (0 : Int32))) (fun h => by rw [Bd.returns] at h; cases h)
                  refine ⟨_, _, pre33 _ ?_, hrun, hended, _, _, rfl, ?_, ⟨_, rfl⟩, hW, hsame.mono (by decide) (by decide)⟩
                  · show Steps p.tables e below (s₁.setTop (mkF m 61 #[.val (.int p1)] [(.int (57344 : Int32)), (.int p1)])) _
                    refine XS.icmpYes X0.here hx rfl (pc0 := 61) (pc' := 82) rfl (hb hby d2_61) rfl (tlt hc34).1 (by decide) (by decide) ?_
                    show Steps p.tables e below (s₁.setTop (mkF m 82 #[.val (.int p1)] [])) _
                    refine own_blk X0 hx bl2_82_1 (own_hb hby bd2_82_1) (pc' := 83) (Ls' := #[.val (.int p1)]) (st' := [(.int (0 : Int32))]) rfl ?_
                    show Steps p.tables e below (s₁.setTop (mkF m 83 #[.val (.int p1)] [(.int (0 : Int32))])) _
                    exact retN X0 hx (t := .boolean) Bd.returns (by simp) (hb hby d2_83) hr
                  · show Q2 Z p1 h0 n0 _ s₁.heap _
                    rw [e0]
                    exact ⟨by rw [f2, if_neg hc2, if_neg hc4, if_neg hc6, if_neg hc8, if_pos hc28, if_neg hc30, if_pos hc32, if_pos hc34], N0, rfl⟩
                · have pre35 : ∀ t, Steps p.tables e below (s₁.setTop (mkF m 67 #[.val (.int p1)] [(.int (65533 : Int32)), (.int p1)])) t → Steps p.tables e below (s₁.setTop (entryFrame m #[(.int p1)] 1)) t := fun t kt => by
                    refine pre33 _ ?_
                    show Steps p.tables e below (s₁.setTop (mkF m 61 #[.val (.int p1)] [(.int (57344 : Int32)), (.int p1)])) _
                    refine XS.icmpNo X0.here hx rfl (hb hby d2_61) rfl (flt hc34).1 ?_
                    show Steps p.tables e below (s₁.setTop (mkF m 64 #[.val (.int p1)] [])) _
                    refine own_blk X0 hx bl2_64_1 (own_hb hby bd2_64_1) (pc' := 65) (Ls' := #[.val (.int p1)]) (st' := [(.int p1)]) rfl ?_
                    show Steps p.tables e below (s₁.setTop (mkF m 65 #[.val (.int p1)] [(.int p1)])) _
                    refine X0.ldcInt hx hown (mvT hZ (hw _ (List.mem_of_getElem? (i := 17) rfl))) (g := (mkF m 65 #[.val (.int p1)] [(.int p1)])) rfl (hb hby d2_65) _ ?_
                    exact kt
                  by_cases hc36 : (65533 : Int32) < p1
                  · obtain ⟨fs, hr, hrun, hended, hW, hsame⟩ := X0.leave (v := some (.int (0 : Int32))) (fun h => by rw [Bd.returns] at h; cases h)
                    refine ⟨_, _, pre35 _ ?_, hrun, hended, _, _, rfl, ?_, ⟨_, rfl⟩, hW, hsame.mono (by decide) (by decide)⟩
                    · show Steps p.tables e below (s₁.setTop (mkF m 67 #[.val (.int p1)] [(.int (65533 : Int32)), (.int p1)])) _
                      refine XS.icmpYes X0.here hx rfl (pc0 := 67) (pc' := 82) rfl (hb hby d2_67) rfl (tlt hc36).2.2.1 (by decide) (by decide) ?_
                      show Steps p.tables e below (s₁.setTop (mkF m 82 #[.val (.int p1)] [])) _
                      refine own_blk X0 hx bl2_82_1 (own_hb hby bd2_82_1) (pc' := 83) (Ls' := #[.val (.int p1)]) (st' := [(.int (0 : Int32))]) rfl ?_
                      show Steps p.tables e below (s₁.setTop (mkF m 83 #[.val (.int p1)] [(.int (0 : Int32))])) _
                      exact retN X0 hx (t := .boolean) Bd.returns (by simp) (hb hby d2_83) hr
                    · show Q2 Z p1 h0 n0 _ s₁.heap _
                      rw [e0]
                      exact ⟨by rw [f2, if_neg hc2, if_neg hc4, if_neg hc6, if_neg hc8, if_pos hc28, if_neg hc30, if_pos hc32, if_neg hc34, if_pos hc36], N0, rfl⟩
                  · have pre37 : ∀ t, Steps p.tables e below (s₁.setTop (mkF m 73 #[.val (.int p1)] [(.int (65279 : Int32)), (.int p1)])) t → Steps p.tables e below (s₁.setTop (entryFrame m #[(.int p1)] 1)) t := fun t kt => by
                      refine pre35 _ ?_
                      show Steps p.tables e below (s₁.setTop (mkF m 67 #[.val (.int p1)] [(.int (65533 : Int32)), (.int p1)])) _
                      refine XS.icmpNo X0.here hx rfl (hb hby d2_67) rfl (flt hc36).2.2.1 ?_
                      show Steps p.tables e below (s₁.setTop (mkF m 70 #[.val (.int p1)] [])) _
                      refine own_blk X0 hx bl2_70_1 (own_hb hby bd2_70_1) (pc' := 71) (Ls' := #[.val (.int p1)]) (st' := [(.int p1)]) rfl ?_
                      show Steps p.tables e below (s₁.setTop (mkF m 71 #[.val (.int p1)] [(.int p1)])) _
                      refine X0.ldcInt hx hown (mvT hZ (hw _ (List.mem_of_getElem? (i := 18) rfl))) (g := (mkF m 71 #[.val (.int p1)] [(.int p1)])) rfl (hb hby d2_71) _ ?_
                      exact kt
                    by_cases hc38 : p1 = (65279 : Int32)
                    · obtain ⟨fs, hr, hrun, hended, hW, hsame⟩ := X0.leave (v := some (.int (0 : Int32))) (fun h => by rw [Bd.returns] at h; cases h)
                      refine ⟨_, _, pre37 _ ?_, hrun, hended, _, _, rfl, ?_, ⟨_, rfl⟩, hW, hsame.mono (by decide) (by decide)⟩
                      · show Steps p.tables e below (s₁.setTop (mkF m 73 #[.val (.int p1)] [(.int (65279 : Int32)), (.int p1)])) _
                        refine XS.icmpYes X0.here hx rfl (pc0 := 73) (pc' := 80) rfl (hb hby d2_73) rfl (teq hc38).1 (by decide) (by decide) ?_
                        show Steps p.tables e below (s₁.setTop (mkF m 80 #[.val (.int p1)] [])) _
                        refine own_blk X0 hx bl2_80_1 (own_hb hby bd2_80_1) (pc' := 81) (Ls' := #[.val (.int p1)]) (st' := [(.int (0 : Int32))]) rfl ?_
                        show Steps p.tables e below (s₁.setTop (mkF m 81 #[.val (.int p1)] [(.int (0 : Int32))])) _
                        exact retN X0 hx (t := .boolean) Bd.returns (by simp) (hb hby d2_81) hr
                      · show Q2 Z p1 h0 n0 _ s₁.heap _
                        rw [e0]
                        exact ⟨by rw [f2, if_neg hc2, if_neg hc4, if_neg hc6, if_neg hc8, if_pos hc28, if_neg hc30, if_pos hc32, if_neg hc34, if_neg hc36, if_pos hc38], N0, rfl⟩
                    · obtain ⟨fs, hr, hrun, hended, hW, hsame⟩ := X0.leave (v := some (.int (1 : Int32))) (fun h => by rw [Bd.returns] at h; cases h)
                      refine ⟨_, _, pre37 _ ?_, hrun, hended, _, _, rfl, ?_, ⟨_, rfl⟩, hW, hsame.mono (by decide) (by decide)⟩
                      · show Steps p.tables e below (s₁.setTop (mkF m 73 #[.val (.int p1)] [(.int (65279 : Int32)), (.int p1)])) _
                        refine XS.icmpNo X0.here hx rfl (hb hby d2_73) rfl (feq hc38).1 ?_
                        show Steps p.tables e below (s₁.setTop (mkF m 76 #[.val (.int p1)] [])) _
                        refine own_blk X0 hx bl2_76_2 (own_hb hby bd2_76_2) (pc' := 81) (Ls' := #[.val (.int p1)]) (st' := [(.int (1 : Int32))]) rfl ?_
                        show Steps p.tables e below (s₁.setTop (mkF m 81 #[.val (.int p1)] [(.int (1 : Int32))])) _
                        exact retN X0 hx (t := .boolean) Bd.returns (by simp) (hb hby d2_81) hr
                      · show Q2 Z p1 h0 n0 _ s₁.heap _
                        rw [e0]
                        exact ⟨by rw [f2, if_neg hc2, if_neg hc4, if_neg hc6, if_neg hc8, if_pos hc28, if_neg hc30, if_pos hc32, if_neg hc34, if_neg hc36, if_neg hc38], N0, rfl⟩
              · have pre39 : ∀ t, Steps p.tables e below (s₁.setTop (mkF m 53 #[.val (.int p1)] [(.int (55295 : Int32)), (.int p1)])) t → Steps p.tables e below (s₁.setTop (entryFrame m #[(.int p1)] 1)) t := fun t kt => by
                  refine pre31 _ ?_
                  show Steps p.tables e below (s₁.setTop (mkF m 47 #[.val (.int p1)] [(.int (160 : Int32)), (.int p1)])) _
                  refine XS.icmpNo X0.here hx rfl (hb hby d2_47) rfl (flt hc32).1 ?_
                  show Steps p.tables e below (s₁.setTop (mkF m 50 #[.val (.int p1)] [])) _
                  refine own_blk X0 hx bl2_50_1 (own_hb hby bd2_50_1) (pc' := 51) (Ls' := #[.val (.int p1)]) (st' := [(.int p1)]) rfl ?_
                  show Steps p.tables e below (s₁.setTop (mkF m 51 #[.val (.int p1)] [(.int p1)])) _
                  refine X0.ldcInt hx hown (mvT hZ (hw _ (List.mem_of_getElem? (i := 13) rfl))) (g := (mkF m 51 #[.val (.int p1)] [(.int p1)])) rfl (hb hby d2_51) _ ?_
                  exact kt
                by_cases hc40 : (55295 : Int32) < p1
                · have pre41 : ∀ t, Steps p.tables e below (s₁.setTop (mkF m 61 #[.val (.int p1)] [(.int (57344 : Int32)), (.int p1)])) t → Steps p.tables e below (s₁.setTop (entryFrame m #[(.int p1)] 1)) t := fun t kt => by
                    refine pre39 _ ?_
                    show Steps p.tables e below (s₁.setTop (mkF m 53 #[.val (.int p1)] [(.int (55295 : Int32)), (.int p1)])) _
                    refine XS.icmpYes X0.here hx rfl (pc0 := 53) (pc' := 58) rfl (hb hby d2_53) rfl (tlt hc40).2.2.1 (by decide) (by decide) ?_
                    show Steps p.tables e below (s₁.setTop (mkF m 58 #[.val (.int p1)] [])) _
                    refine own_blk X0 hx bl2_58_1 (own_hb hby bd2_58_1) (pc' := 59) (Ls' := #[.val (.int p1)]) (st' := [(.int p1)]) rfl ?_
                    show Steps p.tables e below (s₁.setTop (mkF m 59 #[.val (.int p1)] [(.int p1)])) _
                    refine X0.ldcInt hx hown (mvT hZ (hw _ (List.mem_of_getElem? (i := 11) rfl))) (g := (mkF m 59 #[.val (.int p1)] [(.int p1)])) rfl (hb hby d2_59) _ ?_
                    exact kt
                  by_cases hc42 : p1 < (57344 : Int32)
                  · obtain ⟨fs, hr, hrun, hended, hW, hsame⟩ := X0.leave (v := some (.int (0 : Int32))) (fun h => by rw [Bd.returns] at h; cases h)
                    refine ⟨_, _, pre41 _ ?_, hrun, hended, _, _, rfl, ?_, ⟨_, rfl⟩, hW, hsame.mono (by decide) (by decide)⟩
                    · show Steps p.tables e below (s₁.setTop (mkF m 61 #[.val (.int p1)] [(.int (57344 : Int32)), (.int p1)])) _
                      refine XS.icmpYes X0.here hx rfl (pc0 := 61) (pc' := 82) rfl (hb hby d2_61) rfl (tlt hc42).1 (by decide) (by decide) ?_
                      show Steps p.tables e below (s₁.setTop (mkF m 82 #[.val (.int p1)] [])) _
                      refine own_blk X0 hx bl2_82_1 (own_hb hby bd2_82_1) (pc' := 83) (Ls' := #[.val (.int p1)]) (st' := [(.int (0 : Int32))]) rfl ?_
                      show Steps p.tables e below (s₁.setTop (mkF m 83 #[.val (.int p1)] [(.int (0 : Int32))])) _
                      exact retN X0 hx (t := .boolean) Bd.returns (by simp) (hb hby d2_83) hr
                    · show Q2 Z p1 h0 n0 _ s₁.heap _
                      rw [e0]
                      exact ⟨by rw [f2, if_neg hc2, if_neg hc4, if_neg hc6, if_neg hc8, if_pos hc28, if_neg hc30, if_neg hc32, if_pos hc40, if_pos hc42], N0, rfl⟩
                  · have pre43 : ∀ t, Steps p.tables e below (s₁.setTop (mkF m 67 #[.val (.int p1)] [(.int (65533 : Int32)), (.int p1)])) t → Steps p.tables e below (s₁.setTop (entryFrame m #[(.int p1)] 1)) t := fun t kt => by
                      refine pre41 _ ?_
                      show Steps p.tables e below (s₁.setTop (mkF m 61 #[.val (.int p1)] [(.int (57344 : Int32)), (.int p1)])) _
                      refine XS.icmpNo X0.here hx rfl (hb hby d2_61) rfl (flt hc42).1 ?_
                      show Steps p.tables e below (s₁.setTop (mkF m 64 #[.val (.int p1)] [])) _
                      refine own_blk X0 hx bl2_64_1 (own_hb hby bd2_64_1) (pc' := 65) (Ls' := #[.val (.int p1)]) (st' := [(.int p1)]) rfl ?_
                      show Steps p.tables e below (s₁.setTop (mkF m 65 #[.val (.int p1)] [(.int p1)])) _
                      refine X0.ldcInt hx hown (mvT hZ (hw _ (List.mem_of_getElem? (i := 17) rfl))) (g := (mkF m 65 #[.val (.int p1)] [(.int p1)])) rfl (hb hby d2_65) _ ?_
                      exact kt
                    by_cases hc44 : (65533 : Int32) < p1
                    · obtain ⟨fs, hr, hrun, hended, hW, hsame⟩ := X0.leave (v := some (.int (0 : Int32))) (fun h => by rw [Bd.returns] at h; cases h)
                      refine ⟨_, _, pre43 _ ?_, hrun, hended, _, _, rfl, ?_, ⟨_, rfl⟩, hW, hsame.mono (by decide) (by decide)⟩
                      · show Steps p.tables e below (s₁.setTop (mkF m 67 #[.val (.int p1)] [(.int (65533 : Int32)), (.int p1)])) _
                        refine XS.icmpYes X0.here hx rfl (pc0 := 67) (pc' := 82) rfl (hb hby d2_67) rfl (tlt hc44).2.2.1 (by decide) (by decide) ?_
                        show Steps p.tables e below (s₁.setTop (mkF m 82 #[.val (.int p1)] [])) _
                        refine own_blk X0 hx bl2_82_1 (own_hb hby bd2_82_1) (pc' := 83) (Ls' := #[.val (.int p1)]) (st' := [(.int (0 : Int32))]) rfl ?_
                        show Steps p.tables e below (s₁.setTop (mkF m 83 #[.val (.int p1)] [(.int (0 : Int32))])) _
                        exact retN X0 hx (t := .boolean) Bd.returns (by simp) (hb hby d2_83) hr
                      · show Q2 Z p1 h0 n0 _ s₁.heap _
                        rw [e0]
                        exact ⟨by rw [f2, if_neg hc2, if_neg hc4, if_neg hc6, if_neg hc8, if_pos hc28, if_neg hc30, if_neg hc32, if_pos hc40, if_neg hc42, if_pos hc44], N0, rfl⟩
                    · have pre45 : ∀ t, Steps p.tables e below (s₁.setTop (mkF m 73 #[.val (.int p1)] [(.int (65279 : Int32)), (.int p1)])) t → Steps p.tables e below (s₁.setTop (entryFrame m #[(.int p1)] 1)) t := fun t kt => by
                        refine pre43 _ ?_
                        show Steps p.tables e below (s₁.setTop (mkF m 67 #[.val (.int p1)] [(.int (65533 : Int32)), (.int p1)])) _
                        refine XS.icmpNo X0.here hx rfl (hb hby d2_67) rfl (flt hc44).2.2.1 ?_
                        show Steps p.tables e below (s₁.setTop (mkF m 70 #[.val (.int p1)] [])) _
                        refine own_blk X0 hx bl2_70_1 (own_hb hby bd2_70_1) (pc' := 71) (Ls' := #[.val (.int p1)]) (st' := [(.int p1)]) rfl ?_
                        show Steps p.tables e below (s₁.setTop (mkF m 71 #[.val (.int p1)] [(.int p1)])) _
                        refine X0.ldcInt hx hown (mvT hZ (hw _ (List.mem_of_getElem? (i := 18) rfl))) (g := (mkF m 71 #[.val (.int p1)] [(.int p1)])) rfl (hb hby d2_71) _ ?_
                        exact kt
                      by_cases hc46 : p1 = (65279 : Int32)
                      · obtain ⟨fs, hr, hrun, hended, hW, hsame⟩ := X0.leave (v := some (.int (0 : Int32))) (fun h => by rw [Bd.returns] at h; cases h)
                        refine ⟨_, _, pre45 _ ?_, hrun, hended, _, _, rfl, ?_, ⟨_, rfl⟩, hW, hsame.mono (by decide) (by decide)⟩
                        · show Steps p.tables e below (s₁.setTop (mkF m 73 #[.val (.int p1)] [(.int (65279 : Int32)), (.int p1)])) _
                          refine XS.icmpYes X0.here hx rfl (pc0 := 73) (pc' := 80) rfl (hb hby d2_73) rfl (teq hc46).1 (by decide) (by decide) ?_
                          show Steps p.tables e below (s₁.setTop (mkF m 80 #[.val (.int p1)] [])) _
                          refine own_blk X0 hx bl2_80_1 (own_hb hby bd2_80_1) (pc' := 81) (Ls' := #[.val (.int p1)]) (st' := [(.int (0 : Int32))]) rfl ?_
                          show Steps p.tables e below (s₁.setTop (mkF m 81 #[.val (.int p1)] [(.int (0 : Int32))])) _
                          exact retN X0 hx (t := .boolean) Bd.returns (by simp) (hb hby d2_81) hr
                        · show Q2 Z p1 h0 n0 _ s₁.heap _
                          rw [e0]
                          exact ⟨by rw [f2, if_neg hc2, if_neg hc4, if_neg hc6, if_neg hc8, if_pos hc28, if_neg hc30, if_neg hc32, if_pos hc40, if_neg hc42, if_neg hc44, if_pos hc46], N0, rfl⟩
                      · obtain ⟨fs, hr, hrun, hended, hW, hsame⟩ := X0.leave (v := some (.int (1 : Int32))) (fun h => by rw [Bd.returns] at h; cases h)
                        refine ⟨_, _, pre45 _ ?_, hrun, hended, _, _, rfl, ?_, ⟨_, rfl⟩, hW, hsame.mono (by decide) (by decide)⟩
                        · show Steps p.tables e below (s₁.setTop (mkF m 73 #[.val (.int p1)] [(.int (65279 : Int32)), (.int p1)])) _
                          refine XS.icmpNo X0.here hx rfl (hb hby d2_73) rfl (feq hc46).1 ?_
                          show Steps p.tables e below (s₁.setTop (mkF m 76 #[.val (.int p1)] [])) _
                          refine own_blk X0 hx bl2_76_2 (own_hb hby bd2_76_2) (pc' := 81) (Ls' := #[.val (.int p1)]) (st' := [(.int (1 : Int32))]) rfl ?_
                          show Steps p.tables e below (s₁.setTop (mkF m 81 #[.val (.int p1)] [(.int (1 : Int32))])) _
                          exact retN X0 hx (t := .boolean) Bd.returns (by simp) (hb hby d2_81) hr
                        · show Q2 Z p1 h0 n0 _ s₁.heap _
                          rw [e0]
                          exact ⟨by rw [f2, if_neg hc2, if_neg hc4, if_neg hc6, if_neg hc8, if_pos hc28, if_neg hc30, if_neg hc32, if_pos hc40, if_neg hc42, if_neg hc44, if_neg hc46], N0, rfl⟩
                · obtain ⟨fs, hr, hrun, hended, hW, hsame⟩ := X0.leave (v := some (.int (1 : Int32))) (fun h => by rw [Bd.returns] at h; cases h)
                  refine ⟨_, _, pre39 _ ?_, hrun, hended, _, _, rfl, ?_, ⟨_, rfl⟩, hW, hsame.mono (by decide) (by decide)⟩
                  · show Steps p.tables e below (s₁.setTop (mkF m 53 #[.val (.int p1)] [(.int (55295 : Int32)), (.int p1)])) _
                    refine XS.icmpNo X0.here hx rfl (hb hby d2_53) rfl (flt hc40).2.2.1 ?_
                    show Steps p.tables e below (s₁.setTop (mkF m 56 #[.val (.int p1)] [])) _
                    refine own_blk X0 hx bl2_56_1 (own_hb hby bd2_56_1) (pc' := 57) (Ls' := #[.val (.int p1)]) (st' := [(.int (1 : Int32))]) rfl ?_
                    show Steps p.tables e below (s₁.setTop (mkF m 57 #[.val (.int p1)] [(.int (1 : Int32))])) _
                    exact retN X0 hx (t := .boolean) Bd.returns (by simp) (hb hby d2_57) hr
                  · show Q2 Z p1 h0 n0 _ s₁.heap _
                    rw [e0]
                    exact ⟨by rw [f2, if_neg hc2, if_neg hc4, if_neg hc6, if_neg hc8, if_pos hc28, if_neg hc30, if_neg hc32, if_neg hc40], N0, rfl⟩
          · obtain ⟨fs, hr, hrun, hended, hW, hsame⟩ := X0.leave (v := some (.int (1 : Int32))) (fun h => by rw [Bd.returns] at h; cases h)
            refine ⟨_, _, pre27 _ ?_, hrun, hended, _, _, rfl, ?_, ⟨_, rfl⟩, hW, hsame.mono (by decide) (by decide)⟩
            · show Steps p.tables e below (s₁.setTop (mkF m 29 #[.val (.int p1)] [(.int (126 : Int32)), (.int p1)])) _
              refine XS.icmpNo X0.here hx rfl (hb hby d2_29) rfl (flt hc28).2.2.1 ?_
              show Steps p.tables e below (s₁.setTop (mkF m 32 #[.val (.int p1)] [])) _
              refine own_blk X0 hx bl2_32_1 (own_hb hby bd2_32_1) (pc' := 33) (Ls' := #[.val (.int p1)]) (st' := [(.int (1 : Int32))]) rfl ?_
              show Steps p.tables e below (s₁.setTop (mkF m 33 #[.val (.int p1)] [(.int (1 : Int32))])) _
              exact retN X0 hx (t := .boolean) Bd.returns (by simp) (hb hby d2_33) hr
            · show Q2 Z p1 h0 n0 _ s₁.heap _
              rw [e0]
              exact ⟨by rw [f2, if_neg hc2, if_neg hc4, if_neg hc6, if_neg hc8, if_neg hc28], N0, rfl⟩
theorem own_small {n : Nat} (P : Int32 → Prop) (h : ∀ i : Fin n, P (Int32.ofNat i.1)) {x : Int32} (h0 : ¬ x < 0) (h1 : x.toInt < n) : P x := by
  have e0 : (0 : Int32).toInt = 0 := by decide
  have hx : Int32.ofNat x.toNatClampNeg = x := (back32 h0).1
  have hp : 0 ≤ x.toInt := by rw [Int32.lt_iff_toInt_lt] at h0; omega
  have hlt : x.toNatClampNeg < n := by
    show x.toInt.toNat < n
    omega
  have q := h ⟨x.toNatClampNeg, hlt⟩
  rw [← hx]; exact q
theorem own_c0 (x : Int32) : ¬ ((x.toUInt32.toUInt16.toUInt32.toInt32) < 0) := by
  have h := c_i2c x
  have e0 : (0 : Int32).toInt = 0 := by decide
  rw [Int32.lt_iff_toInt_lt, e0]; omega
theorem own_cm (x : Int32) : (x.toUInt32.toUInt16.toUInt32.toInt32) = x &&& (65535 : Int32) := by
  apply Int32.toInt_inj.mp
  have h := c_i2c x
  have h2 := c_mask x 65535 16 (by decide) (by decide)
  rw [h2]; omega
theorem own_lo : ∀ i : Fin 128, f1 (Int32.ofNat i.1) = f2 (Int32.ofNat i.1) := by decide +kernel
set_option maxHeartbeats 4000000 in
theorem own_hi (x : Int32) (h : ¬ x < 128) (h2 : x.toInt < 65536) : f1 x = f2 x := by
  have l0 : (0 : Int32).toInt = 0 := by decide
  have l9 : (9 : Int32).toInt = 9 := by decide
  have l10 : (10 : Int32).toInt = 10 := by decide
  have l13 : (13 : Int32).toInt = 13 := by decide
  have l32 : (32 : Int32).toInt = 32 := by decide
  have l126 : (126 : Int32).toInt = 126 := by decide
  have l127 : (127 : Int32).toInt = 127 := by decide
  have l128 : (128 : Int32).toInt = 128 := by decide
  have l133 : (133 : Int32).toInt = 133 := by decide
  have l160 : (160 : Int32).toInt = 160 := by decide
  have l55295 : (55295 : Int32).toInt = 55295 := by decide
  have l55296 : (55296 : Int32).toInt = 55296 := by decide
  have l57344 : (57344 : Int32).toInt = 57344 := by decide
  have l65279 : (65279 : Int32).toInt = 65279 := by decide
  have l65533 : (65533 : Int32).toInt = 65533 := by decide
  have l65535 : (65535 : Int32).toInt = 65535 := by decide
  unfold f1 f2
  repeat' split
  all_goals first | rfl | (exfalso; simp only [Int32.lt_iff_toInt_lt, ← Int32.toInt_inj, l0, l9, l10, l13, l32, l126, l127, l128, l133, l160, l55295, l55296, l57344, l65279, l65533, l65535] at *; omega)
theorem own_eq (p1 : Int32) : (f1 (p1.toUInt32.toUInt16.toUInt32.toInt32)) = (f2 (p1 &&& (65535 : Int32))) := by
  have hc := own_c0 p1
  have hb := c_i2c p1
  rw [← own_cm]
  generalize (p1.toUInt32.toUInt16.toUInt32.toInt32) = c at *
  have l128 : (128 : Int32).toInt = 128 := by decide
  by_cases h : c < 128
  · exact own_small (n := 128) (fun c => f1 c = f2 c) own_lo hc (by rw [Int32.lt_iff_toInt_lt, l128] at h; exact h)
  · exact own_hi c h hb.2.2
theorem pn_0 : plainName "com/example/lokey/lokey/yaml/CursorMayStandAnywherePinLaw" = true := by first | (simp [plainName, overriddenIn]; done) | decide +kernel
theorem pd_0_0 : parseMethodDescriptor "(C)Z" = some ⟨[.char], some .boolean⟩ := by decide +kernel
theorem pd_0_1 : parseMethodDescriptor "(I)Z" = some ⟨[.int], some .boolean⟩ := by decide +kernel
theorem ef_0 (m : MethodId) (x0 : Int32) : entryFrame m #[(.int x0)] maxLocals = mkF m 0 #[.val (.int x0), .unset, .unset] [] := by first | (simp [entryFrame, mkF, argsToLocals, Value.category, maxLocals]; done) | rfl
def bl0_0_3 : List (Nat × Instr × Nat) := [(0, .iload_n 0, 1), (1, .i2c, 1), (2, .istore_n 1, 1)]
theorem bd0_0_3 : own_dec code bl0_0_3 = true := by decide +kernel
def bl0_3_1 : List (Nat × Instr × Nat) := [(3, .iload_n 0, 1)]
theorem bd0_3_1 : own_dec code bl0_3_1 = true := by decide +kernel
def bl0_6_2 : List (Nat × Instr × Nat) := [(6, .iand, 1), (7, .istore_n 2, 1)]
theorem bd0_6_2 : own_dec code bl0_6_2 = true := by decide +kernel
def bl0_8_1 : List (Nat × Instr × Nat) := [(8, .iload_n 1, 1)]
theorem bd0_8_1 : own_dec code bl0_8_1 = true := by decide +kernel
def bl0_12_1 : List (Nat × Instr × Nat) := [(12, .iload_n 2, 1)]
theorem bd0_12_1 : own_dec code bl0_12_1 = true := by decide +kernel
def bl0_19_2 : List (Nat × Instr × Nat) := [(19, .iconst 1, 1), (20, .goto 4, 3)]
theorem bd0_19_2 : own_dec code bl0_19_2 = true := by decide +kernel

def f0 (p1 : Int32) : Int32 := (1 : Int32)
def Q0 (Z : State) (p1 : Int32) (w1 : Addr) (cl1 : Cell) (h0 : Heap) (n0 : Nat) (v : Option Value) (h : Heap) (L : List Loc) : Prop := v = some (.int (f0 p1)) ∧ Fr n0 L
set_option maxRecDepth 65536 in
set_option maxHeartbeats 40000000 in
theorem rm0 (l : Launch) (Z : State) (a0 : Array Value) (hw : ∀ d ∈ tables_1, d.before a0 Z = true) (ws : List Jvm.Cond) (p1 : Int32) (w1 : Addr) (cl1 : Cell) (h0 : Heap) (n0 : Nat) (Z0 : n0 ≤ h0.size) (S_ASCII_ANYWHERE : Sta Z h0 "com/example/lokey/lokey/yaml/Cursor" "ASCII_ANYWHERE" "[Z" (.ref w1)) (Tb : Tab Z h0 w1 cl1 .boolean (128 : Int32)) (hv : ∀ j : Int32, ¬ j < 0 → j < 128 → atv cl1 j = own_tab j) :
    MetFree l x (head1 (Jvm.Cond.code x code maxLocals ret :: ws) room_1) (fun a U => a = #[(.int p1)] ∧ Z.Warmed39 U.vm ∧ U.heap = h0) (fun _ _ _ _ _ => True) (fun _ U o U' => ∃ v L, o = .returned v ∧ Q0 Z p1 w1 cl1 h0 n0 v U'.heap L ∧ FrameEnd U o U' L room_1.cells room_1.slots) := by
  refine MetFree.of_bodySF (plainFor_of_name pn_0) hisR ?_
  intro p e s m args below meth c s₁ Bd hml0 hP hK
  obtain ⟨rfl, hZ, hh⟩ := hP
  have hx := Bd.exec
  have hby := Bd.bytes
  have hml : c.maxLocals = 3 := hml0
  have hown : s.vm.findClass "com/example/lokey/lokey/yaml/CursorMayStandAnywherePinLaw" = some m.cls := findClass_of_methodNamed Bd.named
  have hnm := (name_of_methodNamed Bd.named Bd.method).1
  have X0 : Stand p l e room_1 s m #[(.int p1)] below meth c s₁ [] 0 0 := Stand.of_body Bd
  have e0 : s₁.heap = h0 := by rw [← hh, Bd.state]; rfl
  have N0 := Fr.nil n0
  have pre0 : ∀ t, Steps p.tables e below (s₁.setTop (mkF m 0 #[.val (.int p1), .unset, .unset] [])) t → Steps p.tables e below (s₁.setTop (entryFrame m #[(.int p1)] maxLocals)) t := fun t k => castTop (ef_0 m p1) k
  obtain ⟨_, T1, Lc1, X1, hQ1, st1⟩ := own_callS X0 hx hZ (y := (⟨"com/example/lokey/lokey/yaml/Cursor", "mayStandAnywhere", "(C)Z"⟩ : MethodName)) hown (hw _ (List.mem_of_getElem? (i := 1) rfl)) (hw _ (List.mem_of_getElem? (i := 2) rfl)) (hw _ (List.mem_of_getElem? (i := 3) rfl)) (hw _ (List.mem_of_getElem? (i := 4) rfl)) (by decide) (W := 0) (argsL := [(.int (p1.toUInt32.toUInt16.toUInt32.toInt32))]) (rest := []) (rm1 l Z a0 hw [] (p1.toUInt32.toUInt16.toUInt32.toInt32) w1 cl1 h0 n0 Z0 S_ASCII_ANYWHERE Tb hv (own_c0 p1)) (by decide) (by decide) (c' := 0) (s' := 0) rfl rfl (by decide) (by decide) e0 (g := (mkF m 9 #[.val (.int p1), .val (.int (p1.toUInt32.toUInt16.toUInt32.toInt32)), .val (.int (p1 &&& (65535 : Int32)))] [(.int (p1.toUInt32.toUInt16.toUInt32.toInt32))])) rfl (by rw [hml]; rfl) (lenOf pd_0_0 rfl) rfl (by show 2 * 0 + _ ≤ _; exact Nat.le_of_eq rfl) (hb hby at_9)
  obtain ⟨rfl, N1q, e1⟩ := hQ1
  have N1 := Fr.app N0 N1q
  obtain ⟨_, T2, Lc2, X2, hQ2, st2⟩ := own_callS X1 hx hZ (y := (⟨"com/example/lokey/lokey/yaml/CursorMayStandAnywherePinLaw", "expected", "(I)Z"⟩ : MethodName)) hown (hw _ (List.mem_of_getElem? (i := 7) rfl)) (hw _ (List.mem_of_getElem? (i := 8) rfl)) (hw _ (List.mem_of_getElem? (i := 9) rfl)) (hw _ (List.mem_of_getElem? (i := 10) rfl)) (by decide) (W := 1) (argsL := [(.int (p1 &&& (65535 : Int32)))]) (rest := [(.int (f1 (p1.toUInt32.toUInt16.toUInt32.toInt32)))]) (rm2 l Z a0 hw [] (p1 &&& (65535 : Int32)) h0 n0 Z0 ) (by decide) (by decide) (c' := 0) (s' := 0) rfl rfl (by decide) (by decide) e1 (g := (mkF m 13 #[.val (.int p1), .val (.int (p1.toUInt32.toUInt16.toUInt32.toInt32)), .val (.int (p1 &&& (65535 : Int32)))] [(.int (p1 &&& (65535 : Int32))), (.int (f1 (p1.toUInt32.toUInt16.toUInt32.toInt32)))])) rfl (by rw [hml]; rfl) (lenOf pd_0_1 rfl) rfl (by show 2 * 0 + _ ≤ _; exact Nat.le_of_eq rfl) (hb hby at_13)
  obtain ⟨rfl, N2q, e2⟩ := hQ2
  have N2 := Fr.app N1 N2q
  obtain ⟨fs, hr, hrun, hended, hW, hsame⟩ := X2.leave (v := some (.int (1 : Int32))) (fun h => by rw [Bd.returns] at h; cases h)
  refine ⟨_, _, pre0 _ ?_, hrun, hended, _, _, rfl, ?_, ⟨_, rfl⟩, hW, hsame.mono (by decide) (by decide)⟩
  · show Steps p.tables e below (s₁.setTop (mkF m 0 #[.val (.int p1), .unset, .unset] [])) _
    refine own_blk X0 hx bl0_0_3 (own_hb hby bd0_0_3) (pc' := 3) (Ls' := #[.val (.int p1), .val (.int (p1.toUInt32.toUInt16.toUInt32.toInt32)), .unset]) (st' := []) rfl ?_
    show Steps p.tables e below (s₁.setTop (mkF m 3 #[.val (.int p1), .val (.int (p1.toUInt32.toUInt16.toUInt32.toInt32)), .unset] [])) _
    refine own_blk X0 hx bl0_3_1 (own_hb hby bd0_3_1) (pc' := 4) (Ls' := #[.val (.int p1), .val (.int (p1.toUInt32.toUInt16.toUInt32.toInt32)), .unset]) (st' := [(.int p1)]) rfl ?_
    show Steps p.tables e below (s₁.setTop (mkF m 4 #[.val (.int p1), .val (.int (p1.toUInt32.toUInt16.toUInt32.toInt32)), .unset] [(.int p1)])) _
    refine X0.ldcInt hx hown (mvT hZ (hw _ (List.mem_of_getElem? (i := 0) rfl))) (g := (mkF m 4 #[.val (.int p1), .val (.int (p1.toUInt32.toUInt16.toUInt32.toInt32)), .unset] [(.int p1)])) rfl (hb hby at_4) _ ?_
    show Steps p.tables e below (s₁.setTop (mkF m 6 #[.val (.int p1), .val (.int (p1.toUInt32.toUInt16.toUInt32.toInt32)), .unset] [(.int (65535 : Int32)), (.int p1)])) _
    refine own_blk X0 hx bl0_6_2 (own_hb hby bd0_6_2) (pc' := 8) (Ls' := #[.val (.int p1), .val (.int (p1.toUInt32.toUInt16.toUInt32.toInt32)), .val (.int (p1 &&& (65535 : Int32)))]) (st' := []) rfl ?_
    show Steps p.tables e below (s₁.setTop (mkF m 8 #[.val (.int p1), .val (.int (p1.toUInt32.toUInt16.toUInt32.toInt32)), .val (.int (p1 &&& (65535 : Int32)))] [])) _
    refine own_blk X0 hx bl0_8_1 (own_hb hby bd0_8_1) (pc' := 9) (Ls' := #[.val (.int p1), .val (.int (p1.toUInt32.toUInt16.toUInt32.toInt32)), .val (.int (p1 &&& (65535 : Int32)))]) (st' := [(.int (p1.toUInt32.toUInt16.toUInt32.toInt32))]) rfl ?_
    show Steps p.tables e below (s₁.setTop (mkF m 9 #[.val (.int p1), .val (.int (p1.toUInt32.toUInt16.toUInt32.toInt32)), .val (.int (p1 &&& (65535 : Int32)))] [(.int (p1.toUInt32.toUInt16.toUInt32.toInt32))])) _
    refine st1 _ ?_
    show Steps p.tables e below (T1.setTop (mkF m 12 #[.val (.int p1), .val (.int (p1.toUInt32.toUInt16.toUInt32.toInt32)), .val (.int (p1 &&& (65535 : Int32)))] [(.int (f1 (p1.toUInt32.toUInt16.toUInt32.toInt32)))])) _
    refine own_blk X1 hx bl0_12_1 (own_hb hby bd0_12_1) (pc' := 13) (Ls' := #[.val (.int p1), .val (.int (p1.toUInt32.toUInt16.toUInt32.toInt32)), .val (.int (p1 &&& (65535 : Int32)))]) (st' := [(.int (p1 &&& (65535 : Int32))), (.int (f1 (p1.toUInt32.toUInt16.toUInt32.toInt32)))]) rfl ?_
    show Steps p.tables e below (T1.setTop (mkF m 13 #[.val (.int p1), .val (.int (p1.toUInt32.toUInt16.toUInt32.toInt32)), .val (.int (p1 &&& (65535 : Int32)))] [(.int (p1 &&& (65535 : Int32))), (.int (f1 (p1.toUInt32.toUInt16.toUInt32.toInt32)))])) _
    refine st2 _ ?_
    show Steps p.tables e below (T2.setTop (mkF m 16 #[.val (.int p1), .val (.int (p1.toUInt32.toUInt16.toUInt32.toInt32)), .val (.int (p1 &&& (65535 : Int32)))] [(.int (f2 (p1 &&& (65535 : Int32)))), (.int (f1 (p1.toUInt32.toUInt16.toUInt32.toInt32)))])) _
    refine XS.icmpNo X2.here hx rfl (hb hby at_16) rfl (teq (own_eq p1)).2 ?_
    show Steps p.tables e below (T2.setTop (mkF m 19 #[.val (.int p1), .val (.int (p1.toUInt32.toUInt16.toUInt32.toInt32)), .val (.int (p1 &&& (65535 : Int32)))] [])) _
    refine own_blk X2 hx bl0_19_2 (own_hb hby bd0_19_2) (pc' := 24) (Ls' := #[.val (.int p1), .val (.int (p1.toUInt32.toUInt16.toUInt32.toInt32)), .val (.int (p1 &&& (65535 : Int32)))]) (st' := [(.int (1 : Int32))]) rfl ?_
    show Steps p.tables e below (T2.setTop (mkF m 24 #[.val (.int p1), .val (.int (p1.toUInt32.toUInt16.toUInt32.toInt32)), .val (.int (p1 &&& (65535 : Int32)))] [(.int (1 : Int32))])) _
    exact retN X2 hx (t := .boolean) Bd.returns (by simp) (hb hby at_24) hr
  · show Q0 Z p1 w1 cl1 h0 n0 _ T2.heap _
    rw [e2]
    exact ⟨by rw [f0], N2⟩
theorem own_fill (cl : Cell) (A3 : ∀ j : Int32, ¬ j < 0 → j < 128 → 9 ≤ j ∨ atv cl j = 0) (e9 : atv cl 9 = 1) (e10 : atv cl 10 = 1) (e11 : atv cl 11 = 0) (e12 : atv cl 12 = 0) (e13 : atv cl 13 = 1) (A9 : ∀ j : Int32, ¬ j < 0 → j < 128 → j < 14 ∨ 32 ≤ j ∨ atv cl j = 0) (A10 : ∀ j : Int32, ¬ j < 0 → j < 128 → j < 32 ∨ 127 ≤ j ∨ atv cl j = 1) (e127 : atv cl 127 = 0) :
    ∀ j : Int32, ¬ j < 0 → j < 128 → atv cl j = own_tab j := by
  intro j h0 h1
  by_cases k9 : j = 9
  · subst k9; rw [e9]; decide
  by_cases k10 : j = 10
  · subst k10; rw [e10]; decide
  by_cases k11 : j = 11
  · subst k11; rw [e11]; decide
  by_cases k12 : j = 12
  · subst k12; rw [e12]; decide
  by_cases k13 : j = 13
  · subst k13; rw [e13]; decide
  by_cases k127 : j = 127
  · subst k127; rw [e127]; decide
  have a3 := A3 j h0 h1
  have a9 := A9 j h0 h1
  have a10 := A10 j h0 h1
  unfold own_tab
  have l0 : (0 : Int32).toInt = 0 := by decide
  have l1 : (1 : Int32).toInt = 1 := by decide
  have l9 : (9 : Int32).toInt = 9 := by decide
  have l10 : (10 : Int32).toInt = 10 := by decide
  have l11 : (11 : Int32).toInt = 11 := by decide
  have l12 : (12 : Int32).toInt = 12 := by decide
  have l13 : (13 : Int32).toInt = 13 := by decide
  have l14 : (14 : Int32).toInt = 14 := by decide
  have l32 : (32 : Int32).toInt = 32 := by decide
  have l127 : (127 : Int32).toInt = 127 := by decide
  have l128 : (128 : Int32).toInt = 128 := by decide
  generalize atv cl j = v at *
  have lv0 : (v = 0) ↔ v.toInt = 0 := by rw [← Int32.toInt_inj, l0]
  have lv1 : (v = 1) ↔ v.toInt = 1 := by rw [← Int32.toInt_inj, l1]
  split
  · rename_i h
    simp only [Int32.lt_iff_toInt_lt, Int32.le_iff_toInt_le, ← Int32.toInt_inj, l0, l1, l9, l10, l11, l12, l13, l14, l32, l127, l128] at *
    omega
  · rename_i h
    simp only [Int32.lt_iff_toInt_lt, Int32.le_iff_toInt_le, ← Int32.toInt_inj, l0, l1, l9, l10, l11, l12, l13, l14, l32, l127, l128] at *
    omega
section OwnTab
variable {s : State} {args : Array Value} {t : Term} {a : Addr} {cl : Cell} {n : Int32} {ty : FieldType}
theorem own_tabv (ev : ∀ idx, t.eval args s none idx s = some (.ref a)) (A : Tab s s.heap a cl ty n) {j : Int32} (h0 : ¬ j < 0) (h1 : j < n) : (Term.elem t (.index 0)).eval args s none [j.toNatClampNeg] s = some (.int (atv cl j)) := by
  rw [elem_f (ev _) (idx_at h0) (A.1.fin (Vm.Alike.refl _)) h0]; exact A.2.2.2 j (own_inb A h0 h1)
theorem own_tabk (ev : ∀ idx, t.eval args s none idx s = some (.ref a)) (A : Tab s s.heap a cl ty n) {j v : Int32} (h0 : ¬ j < 0) (h1 : j < n) (h : (Jvm.Cond.eq (Term.elem t (.int j)) (.int v)).value args s none s [] = some true) : atv cl j = v := by
  have e1 : (Term.elem t (.int j)).eval args s none [] s = some (.int (atv cl j)) := by
    rw [elem_f (j := j) (ev _) rfl (A.1.fin (Vm.Alike.refl _)) h0]; exact A.2.2.2 j (own_inb A h0 h1)
  have e2 : (Term.int v).eval args s none [] s = some (.int v) := rfl
  simpa [Cond.value, e1, e2] using h
theorem own_all2 (ev : ∀ idx, t.eval args s none idx s = some (.ref a)) (A : Tab s s.heap a cl ty n) {k v : Int32} (h : (Jvm.Cond.all t (.or (.le (.int k) (.index 0)) (.eq (.elem t (.index 0)) (.int v)))).value args s none s [] = some true) {j : Int32} (h0 : ¬ j < 0) (h1 : j < n) : k ≤ j ∨ atv cl j = v := by
  have q := Cond.all_elim (ev []) (A.1.fin (Vm.Alike.refl _)) h j.toNatClampNeg (Nat.lt_of_not_le fun x => own_inb A h0 h1 (Or.inr x))
  have e1 := own_tabv ev A h0 h1
  have e2 : (Term.index 0).eval args s none [j.toNatClampNeg] s = some (.int j) := idx_at h0
  have e3 : (Term.int v).eval args s none [j.toNatClampNeg] s = some (.int v) := rfl
  have e4 : (Term.int k).eval args s none [j.toNatClampNeg] s = some (.int k) := rfl
  exact or_e2 (P := k ≤ j) (Q := atv cl j = v) (by simp [Cond.value, e2, e4]) (by simp [Cond.value, e1, e3]) q
theorem own_all3 (ev : ∀ idx, t.eval args s none idx s = some (.ref a)) (A : Tab s s.heap a cl ty n) {i k v : Int32} (h : (Jvm.Cond.all t (.or (.lt (.index 0) (.int i)) (.or (.le (.int k) (.index 0)) (.eq (.elem t (.index 0)) (.int v))))).value args s none s [] = some true) {j : Int32} (h0 : ¬ j < 0) (h1 : j < n) : j < i ∨ k ≤ j ∨ atv cl j = v := by
  have q := Cond.all_elim (ev []) (A.1.fin (Vm.Alike.refl _)) h j.toNatClampNeg (Nat.lt_of_not_le fun x => own_inb A h0 h1 (Or.inr x))
  have e1 := own_tabv ev A h0 h1
  have e2 : (Term.index 0).eval args s none [j.toNatClampNeg] s = some (.int j) := idx_at h0
  have e3 : (Term.int v).eval args s none [j.toNatClampNeg] s = some (.int v) := rfl
  have e4 : (Term.int k).eval args s none [j.toNatClampNeg] s = some (.int k) := rfl
  have e5 : (Term.int i).eval args s none [j.toNatClampNeg] s = some (.int i) := rfl
  rcases or3 (P := j < i) (R := atv cl j = v) (x := k) (y := j) q (by simp [Cond.value, e2, e5]) (by simp [Cond.value, e2, e4]) (by simp [Cond.value, e1, e3]) with h | h | h
  · exact Or.inl h
  · exact Or.inr (Or.inl (Int32.not_lt.mp h))
  · exact Or.inr (Or.inr h)
end OwnTab
theorem own_len {t : Term} {args : Array Value} {s : State} {v : Value} (h : (Term.length t).eval args s none [] s = some v) : ∃ a c, t.eval args s none [] s = some (.ref a) ∧ s.arrayAt? a = some c ∧ c.slots.size < 2 ^ 31 ∧ v = .int c.slots.size.toInt32 := by
  obtain ⟨x, hx⟩ := len_v h
  cases hc : s.arrayAt? x with
  | none => simp [Term.eval, hx, hc] at h
  | some c =>
    by_cases hl : c.slots.size < 2 ^ 31
    · rw [len_f hx hc hl] at h
      exact ⟨x, c, hx, hc, hl, (Option.some.inj h).symm⟩
    · simp [Term.eval, hx, hc, hl] at h
set_option maxRecDepth 65536 in
set_option maxHeartbeats 40000000 in
theorem comes_1 {Post : Tables → Env → Array Value → State → Outcome → State → Prop} (hpost : ∀ tb e args s v u, (limb_1_1.after args s (.returned v) u = true ∧ limb_1_2.after args s (.returned v) u = true ∧ True) → FrameEnd s (.returned v) u (Jvm.fieldLocs frame_1_writes args s ++ Jvm.arrayLocs frame_1_arrays args s ++ Jvm.staticLocs frame_1_statics s) 0 0 → Post tb e args s (.returned v) u) :
    ArmFor flags0 classFile x code maxLocals ret World_1 tables_1 room_1 Calls_1 rest_1 Pre_1 Post := by
  intro l hfl _ _ p e ha hc hk s m args below hf hA hF happ hP
  obtain ⟨hcalls, hrest, hpre⟩ := hP
  obtain ⟨-, -, -, hnamed, -, -, -, hat⟩ := (Spec.applies_iff hf).mp happ
  obtain ⟨hg, hn⟩ := and_e (Cond.before_iff.mp (show (Jvm.Cond.and given_1 narrow_1).before args s = true from hpre))
  obtain ⟨g1, g2⟩ := and_e hg
  obtain ⟨w0, rfl⟩ : ∃ w0 : Value, args = #[w0] := by
    have hs : args.size = 1 := by simpa [Cond.value, given_1] using g1
    obtain ⟨L⟩ := args
    match L, hs with
    | [w0], _ => exact ⟨w0, rfl⟩
  have hw := fun d (hd : d ∈ tables_1) => atoms_spec (ws := Jvm.Cond.code x code maxLocals ret :: tables_1) hat d (List.mem_cons_of_mem _ hd)
  have hfit : Fit s := fun {y c} hc i hi => by
    obtain ⟨ha, rfl⟩ := Array.getElem?_eq_some_iff.mp hc
    have q := List.all_eq_true.mp ((Array.all_eq_true_iff_forall_mem.mp hF) _ (Array.getElem_mem ha)) i (List.mem_range.mpr hi)
    simpa [Array.getElem?_eq_getElem hi] using q
  obtain ⟨i0, ei0⟩ := is_v g2
  obtain rfl : w0 = (.int i0) := Option.some.inj ei0
  obtain ⟨m1, m2⟩ := and_e hn
  obtain ⟨m3, m4⟩ := and_e m2
  obtain ⟨m5, m6⟩ := and_e m4
  obtain ⟨m7, m8⟩ := and_e m6
  obtain ⟨m9, m10⟩ := and_e m8
  obtain ⟨m11, m12⟩ := and_e m10
  obtain ⟨m13, m14⟩ := and_e m12
  obtain ⟨m15, m16⟩ := and_e m14
  obtain ⟨m17, m18⟩ := and_e m16
  obtain ⟨m19, m20⟩ := and_e m18
  obtain ⟨aw, ev0⟩ := arr_v m1
  have ev : ∀ idx, (Jvm.Term.static "com/example/lokey/lokey/yaml/Cursor" "ASCII_ANYWHERE" "[Z").eval #[.int i0] s none idx s = some (.ref aw) := fun _ => ev0
  obtain ⟨cl, Ar⟩ := Arr.start ev0 m1
  obtain ⟨x1, y1, ex1, ey1, -, -⟩ := cmp_v (Or.inl m3)
  obtain ⟨a2, c2, ha2, hc2, hl2, rfl⟩ := own_len ex1
  obtain rfl : a2 = aw := by rw [ev0] at ha2; cases ha2; rfl
  obtain rfl : c2 = cl := by have q := Ar.fin (Vm.Alike.refl _); rw [q] at hc2; cases hc2; rfl
  have hsz : c2.slots.size.toInt32 = (128 : Int32) := by simpa [Cond.value, ex1, show (Term.int (128 : Int32)).eval #[.int i0] s none [] s = some (.int 128) from rfl] using m3
  have Tb : Tab s s.heap a2 c2 .boolean (128 : Int32) := Tab.start hfit Ar (Or.inr (Or.inl rfl)) hl2 hsz (by decide)
  have St := Sta.start ev0 (Or.inr ⟨hw _ (List.mem_of_getElem? (i := 3) rfl), hw _ (List.mem_of_getElem? (i := 6) rfl)⟩)
  have hv := own_fill c2 (fun j h0 h1 => own_all2 ev Tb m5 h0 h1) (own_tabk ev Tb (by decide) (by decide) m7) (own_tabk ev Tb (by decide) (by decide) m9) (own_tabk ev Tb (by decide) (by decide) m11) (own_tabk ev Tb (by decide) (by decide) m13) (own_tabk ev Tb (by decide) (by decide) m15) (fun j h0 h1 => own_all3 ev Tb m17 h0 h1) (fun j h0 h1 => own_all3 ev Tb m19 h0 h1) (own_tabk ev Tb (by decide) (by decide) m20)
  obtain ⟨n, o, h1, h2, h3, v, L, rfl, hQ, hq⟩ := rm0 l s _ hw tables_1 i0 a2 c2 s.heap s.heap.size (Nat.le_refl _) St Tb hv p e ha hc hk s m _ below hf ((Spec.applies_iff_loose hf).mp happ).1 ⟨rfl, State.Warmed39.refl s, rfl⟩ trivial
  obtain ⟨hv1, N⟩ := hQ
  rw [f0] at hv1
  subst hv1
  refine ⟨n, _, h1, h2, h3, hpost _ _ _ _ _ _ ⟨Cond.after_iff.mpr rfl, Cond.after_iff.mpr (eq_i res_at (Term.int_eval (1)) rfl), trivial⟩ ⟨hq.1, hq.2.1, (hq.2.2.sift fun y hy => Or.inr (N y hy)).mono (by decide) (by decide)⟩⟩
theorem main_1_1 : Claimed_1_1 := comes_1 fun _ _ _ _ _ _ h hF => ⟨h.1, hF⟩
theorem main_1_2 : Claimed_1_2 := comes_1 fun _ _ _ _ _ _ h hF => ⟨h.2.1, hF⟩
end Jvm.Pilot.@@N@@
namespace Jvm.Pilot.@@N@@
open Jvm Jvm.ClassFile Sem Op Lib Jvm.Free Jvm.Stand Jvm.Pilot.@@N@@.Jvm.D
/-! MADE BY PROGRAM (witnessworld.py) out of the Statement's table words and the real class files: 11 classes; the members and pool entries that the words name. The judged class is class 1, her method 2. -/
namespace start1
open Jvm.ClassFile
def u (s : String) : CpInfo := .utf8 (stringToUtf16 s)
/-- a pool by its gaps: so many unusable entries, then the entry; so many at the end -/
def gap : Nat → List CpInfo → List CpInfo
  | 0, r => r
  | n + 1, r => .unusable :: gap n r
def poolList (es : List (Nat × CpInfo)) (last : Nat) : List CpInfo := es.foldr (fun e r => gap e.1 (e.2 :: r)) (gap last [])
def pool (es : List (Nat × CpInfo)) (last : Nat) : Array CpInfo := ⟨poolList es last⟩
def fileOf (pool : Array CpInfo) (this : Nat) (attrs : Array Attribute := #[]) (ms : Array MethodInfo := #[]) (fl : Nat := 33) (sup : Nat := 0) (ifs : Array Nat := #[]) (fds : Array FieldInfo := #[]) : ClassFile where
  minorVersion := 0
  majorVersion := 65
  constantPool := pool
  accessFlags := fl
  thisClass := this
  superClass := sup
  interfaces := ifs
  fields := fds
  methods := ms
  attributes := attrs
def plain (name : String) (sup : Option ClassId) : Class where
  name := name
  kind := .ordinary
  loader := none
  accessFlags := 33
  super := sup
  interfaces := #[]
  cf := none
  fields := #[]
  methods := #[]
  instanceTypes := #[]
  staticTypes := #[]
  resolved := #[]
  callSites := []
  init := .initialized
  statics := none
  mirror := none

def pool0 : Array CpInfo := pool [(5, u "<init>"), (0, u "()V"), (1, .class_ 10), (1, u "java/lang/Object")] 113

def k0m0 : Method := { name := "<init>", desc := "()V", sig := { parameters := [], returnType := none }, accessFlags := 1, code := none }
/-- java/lang/Object -/
def k0 : Class := { plain "java/lang/Object" none with
  accessFlags := 33
  interfaces := #[]
  cf := some (fileOf pool0 8 #[] #[{ accessFlags := 1, nameIndex := 5, descriptorIndex := 6, attributes := #[] }] 33 0 #[] #[])
  fields := #[]
  methods := #[k0m0]
  instanceTypes := #[]
  staticTypes := #[]
  resolved := Array.replicate 124 none
  statics := none }

def pool1 : Array CpInfo := pool [(2, .class_ 4), (1, u "java/lang/Object"), (0, u "<init>"), (0, u "()V"), (0, .integer 55295), (0, .integer 57344), (0, .integer 65533), (0, .integer 65279), (0, .integer 65535), (0, .methodref 13 14), (0, .class_ 15), (0, .nameAndType 16 17), (0, u "com/example/lokey/lokey/yaml/Cursor"), (0, u "mayStandAnywhere"), (0, u "(C)Z"), (0, .methodref 19 20), (0, .class_ 21), (0, .nameAndType 22 23), (0, u "com/example/lokey/lokey/yaml/CursorMayStandAnywherePinLaw"), (0, u "expected"), (0, u "(I)Z"), (3, u "law")] 2

def k1m0 : Method := { name := "<init>", desc := "()V", sig := { parameters := [], returnType := none }, accessFlags := 2, code := none }
def k1c1 : Code := { maxStack := 2, maxLocals := 1, code := method_2_code, exceptionTable := #[], attributes := #[] }
def k1m1 : Method := { name := "expected", desc := "(I)Z", sig := { parameters := [.int], returnType := some .boolean }, accessFlags := 10, code := some k1c1 }
def k1c2 : Code := { maxStack := 2, maxLocals := 3, code := code, exceptionTable := #[], attributes := #[] }
def k1m2 : Method := { name := "law", desc := "(I)Z", sig := { parameters := [.int], returnType := some .boolean }, accessFlags := 9, code := some k1c2 }
/-- com/example/lokey/lokey/yaml/CursorMayStandAnywherePinLaw -/
def k1 : Class := { plain "com/example/lokey/lokey/yaml/CursorMayStandAnywherePinLaw" (some 0) with
  accessFlags := 49
  interfaces := #[]
  cf := some (fileOf pool1 19 #[] #[{ accessFlags := 2, nameIndex := 5, descriptorIndex := 6, attributes := #[] }, { accessFlags := 10, nameIndex := 22, descriptorIndex := 23, attributes := #[] }, { accessFlags := 9, nameIndex := 27, descriptorIndex := 23, attributes := #[] }] 49 2 #[] #[])
  fields := #[]
  methods := #[k1m0, k1m1, k1m2]
  instanceTypes := #[]
  staticTypes := #[]
  resolved := Array.replicate 30 none
  statics := none }

def pool2 : Array CpInfo := pool [(4, .class_ 6), (1, u "java/lang/Object"), (3, .class_ 12), (1, u "com/example/lokey/lokey/yaml/Cursor"), (0, u "line"), (0, u "I"), (4, u "chars"), (0, u "Ljava/lang/String;"), (2, u "measuredLine"), (2, u "text"), (0, u "Lcom/example/lokey/lokey/input/InputText;"), (2, u "warnings"), (0, u "Ljava/util/function/Consumer;"), (5, u "charsFrom"), (2, u "charsLimit"), (17, u "charsToEnd"), (0, u "Z"), (2, u "charsLength"), (2, u "pos"), (29, u "lineStart"), (9, u "lineSpacesEnd"), (2, u "lineBlanksEnd"), (9, .integer 65279), (8, u "cleared"), (80, u "inQuotedScalar"), (9, u "mayStandAnywhere"), (0, u "(C)Z"), (0, .fieldref 10 221), (0, .nameAndType 222 223), (0, u "ASCII_ANYWHERE"), (0, u "[Z"), (0, .integer 55296), (0, .integer 57344), (0, .integer 65533), (70, u "END"), (2, u "BOM"), (0, u "C"), (0, u "TAB_INDENTATION"), (0, u "DIRECTIVE_IN_DOCUMENT"), (0, u "MISPLACED_BOM"), (0, u "LOOKAHEAD")] 54

def k2c0 : Code := { maxStack := 2, maxLocals := 1, code := prog_120_method_39_code, exceptionTable := #[], attributes := #[] }
def k2m0 : Method := { name := "mayStandAnywhere", desc := "(C)Z", sig := { parameters := [.char], returnType := some .boolean }, accessFlags := 8, code := some k2c0 }
/-- com/example/lokey/lokey/yaml/Cursor -/
def k2 : Class := { plain "com/example/lokey/lokey/yaml/Cursor" (some 0) with
  accessFlags := 32
  interfaces := #[]
  cf := some (fileOf pool2 10 #[] #[{ accessFlags := 8, nameIndex := 218, descriptorIndex := 219, attributes := #[] }] 32 4 #[] #[{ accessFlags := 24, nameIndex := 297, descriptorIndex := 14, attributes := #[] }, { accessFlags := 24, nameIndex := 300, descriptorIndex := 301, attributes := #[] }, { accessFlags := 24, nameIndex := 302, descriptorIndex := 20, attributes := #[] }, { accessFlags := 24, nameIndex := 303, descriptorIndex := 20, attributes := #[] }, { accessFlags := 24, nameIndex := 304, descriptorIndex := 20, attributes := #[] }, { accessFlags := 26, nameIndex := 305, descriptorIndex := 14, attributes := #[] }, { accessFlags := 26, nameIndex := 222, descriptorIndex := 223, attributes := #[] }, { accessFlags := 16, nameIndex := 26, descriptorIndex := 27, attributes := #[] }, { accessFlags := 0, nameIndex := 65, descriptorIndex := 14, attributes := #[] }, { accessFlags := 0, nameIndex := 95, descriptorIndex := 14, attributes := #[] }, { accessFlags := 2, nameIndex := 13, descriptorIndex := 14, attributes := #[] }, { accessFlags := 18, nameIndex := 30, descriptorIndex := 31, attributes := #[] }, { accessFlags := 2, nameIndex := 19, descriptorIndex := 20, attributes := #[] }, { accessFlags := 2, nameIndex := 37, descriptorIndex := 14, attributes := #[] }, { accessFlags := 2, nameIndex := 62, descriptorIndex := 14, attributes := #[] }, { accessFlags := 2, nameIndex := 58, descriptorIndex := 59, attributes := #[] }, { accessFlags := 2, nameIndex := 40, descriptorIndex := 14, attributes := #[] }, { accessFlags := 2, nameIndex := 23, descriptorIndex := 14, attributes := #[] }, { accessFlags := 2, nameIndex := 105, descriptorIndex := 14, attributes := #[] }, { accessFlags := 2, nameIndex := 108, descriptorIndex := 14, attributes := #[] }, { accessFlags := 2, nameIndex := 127, descriptorIndex := 14, attributes := #[] }, { accessFlags := 2, nameIndex := 208, descriptorIndex := 59, attributes := #[] }])
  fields := #[{ name := "END", type := .int, accessFlags := 24, slot := 0, constantValue := 0 }, { name := "BOM", type := .char, accessFlags := 24, slot := 1, constantValue := 0 }, { name := "TAB_INDENTATION", type := (.object "java/lang/String"), accessFlags := 24, slot := 2, constantValue := 0 }, { name := "DIRECTIVE_IN_DOCUMENT", type := (.object "java/lang/String"), accessFlags := 24, slot := 3, constantValue := 0 }, { name := "MISPLACED_BOM", type := (.object "java/lang/String"), accessFlags := 24, slot := 4, constantValue := 0 }, { name := "LOOKAHEAD", type := .int, accessFlags := 26, slot := 5, constantValue := 0 }, { name := "ASCII_ANYWHERE", type := (.array .boolean), accessFlags := 26, slot := 6, constantValue := 0 }, { name := "text", type := (.object "com/example/lokey/lokey/input/InputText"), accessFlags := 16, slot := 0, constantValue := 0 }, { name := "pos", type := .int, accessFlags := 0, slot := 1, constantValue := 0 }, { name := "lineStart", type := .int, accessFlags := 0, slot := 2, constantValue := 0 }, { name := "line", type := .int, accessFlags := 2, slot := 3, constantValue := 0 }, { name := "warnings", type := (.object "java/util/function/Consumer"), accessFlags := 18, slot := 4, constantValue := 0 }, { name := "chars", type := (.object "java/lang/String"), accessFlags := 2, slot := 5, constantValue := 0 }, { name := "charsFrom", type := .int, accessFlags := 2, slot := 6, constantValue := 0 }, { name := "charsLength", type := .int, accessFlags := 2, slot := 7, constantValue := 0 }, { name := "charsToEnd", type := .boolean, accessFlags := 2, slot := 8, constantValue := 0 }, { name := "charsLimit", type := .int, accessFlags := 2, slot := 9, constantValue := 0 }, { name := "measuredLine", type := .int, accessFlags := 2, slot := 10, constantValue := 0 }, { name := "lineSpacesEnd", type := .int, accessFlags := 2, slot := 11, constantValue := 0 }, { name := "lineBlanksEnd", type := .int, accessFlags := 2, slot := 12, constantValue := 0 }, { name := "cleared", type := .int, accessFlags := 2, slot := 13, constantValue := 0 }, { name := "inQuotedScalar", type := .boolean, accessFlags := 2, slot := 14, constantValue := 0 }]
  methods := #[k2m0]
  instanceTypes := #[(.object "com/example/lokey/lokey/input/InputText"), .int, .int, .int, (.object "java/util/function/Consumer"), (.object "java/lang/String"), .int, .int, .boolean, .int, .int, .int, .int, .int, .boolean]
  staticTypes := #[.int, .char, (.object "java/lang/String"), (.object "java/lang/String"), (.object "java/lang/String"), .int, (.array .boolean)]
  resolved := Array.replicate 360 none
  statics := some 0 }

def pool3 : Array CpInfo := pool [(1, u "java/lang/Cloneable"), (0, .class_ 1), (0, u "java/lang/Object"), (0, .class_ 3)] 3

/-- java/lang/Cloneable -/
def k3 : Class := { plain "java/lang/Cloneable" (some 0) with
  accessFlags := 1537
  interfaces := #[]
  cf := some (fileOf pool3 2 #[] #[] 1537 4 #[] #[])
  fields := #[]
  methods := #[]
  instanceTypes := #[]
  staticTypes := #[]
  resolved := Array.replicate 8 none
  statics := none }

def pool4 : Array CpInfo := pool [(1, u "java/io/Serializable"), (0, .class_ 1), (0, u "java/lang/Object"), (0, .class_ 3)] 3

/-- java/io/Serializable -/
def k4 : Class := { plain "java/io/Serializable" (some 0) with
  accessFlags := 1537
  interfaces := #[]
  cf := some (fileOf pool4 2 #[] #[] 1537 4 #[] #[])
  fields := #[]
  methods := #[]
  instanceTypes := #[]
  staticTypes := #[]
  resolved := Array.replicate 8 none
  statics := none }

/-- the primitive boolean -/
def k5 : Class := { plain "boolean" none with kind := .primitive 'Z', accessFlags := 0x411 }
/-- [Z -/
def k6 : Class := { plain "[Z" (some 0) with kind := .array 5 .boolean, interfaces := #[3, 4], accessFlags := 1041 }

/-- the primitive byte -/
def k7 : Class := { plain "byte" none with kind := .primitive 'B', accessFlags := 0x411 }
/-- [B -/
def k8 : Class := { plain "[B" (some 0) with kind := .array 7 .byte, interfaces := #[3, 4], accessFlags := 1041 }

/-- the primitive int -/
def k9 : Class := { plain "int" none with kind := .primitive 'I', accessFlags := 0x411 }
/-- [I -/
def k10 : Class := { plain "[I" (some 0) with kind := .array 9 .int, interfaces := #[3, 4], accessFlags := 1041 }

def heap : Heap := #[{ cls := 2, slots := #[.int 0, .int 0, .null, .null, .null, .int 0, .ref 1], vm := .statics 2 },
  { cls := 6, slots := #[.int 0, .int 0, .int 0, .int 0, .int 0, .int 0, .int 0, .int 0, .int 0, .int 1, .int 1, .int 0, .int 0, .int 1, .int 0, .int 0, .int 0, .int 0, .int 0, .int 0, .int 0, .int 0, .int 0, .int 0, .int 0, .int 0, .int 0, .int 0, .int 0, .int 0, .int 0, .int 0, .int 1, .int 1, .int 1, .int 1, .int 1, .int 1, .int 1, .int 1, .int 1, .int 1, .int 1, .int 1, .int 1, .int 1, .int 1, .int 1, .int 1, .int 1, .int 1, .int 1, .int 1, .int 1, .int 1, .int 1, .int 1, .int 1, .int 1, .int 1, .int 1, .int 1, .int 1, .int 1, .int 1, .int 1, .int 1, .int 1, .int 1, .int 1, .int 1, .int 1, .int 1, .int 1, .int 1, .int 1, .int 1, .int 1, .int 1, .int 1, .int 1, .int 1, .int 1, .int 1, .int 1, .int 1, .int 1, .int 1, .int 1, .int 1, .int 1, .int 1, .int 1, .int 1, .int 1, .int 1, .int 1, .int 1, .int 1, .int 1, .int 1, .int 1, .int 1, .int 1, .int 1, .int 1, .int 1, .int 1, .int 1, .int 1, .int 1, .int 1, .int 1, .int 1, .int 1, .int 1, .int 1, .int 1, .int 1, .int 1, .int 1, .int 1, .int 1, .int 1, .int 1, .int 1, .int 1, .int 0], vm := .none }]
def classes : Array Class := #[k0, k1, k2, k3, k4, k5, k6, k7, k8, k9, k10]
def interned : List (Array UInt16 × Addr) := []
def slotsUsed : Nat := 135
def theMethod : MethodId := ⟨1, 2⟩
def args0 : Array Value := #[.int 65]
def aboutOver (below : List Frame) : State where
  vm := { classes := classes, interned := interned.toArray }
  heap := heap
  slotsUsed := slotsUsed
  threads := #[{ frames := .invoking theMethod args0 :: below }]
def below0 : List Frame := [.native { method := ⟨0, 0⟩, args := #[] }]
def about1 : State := aboutOver below0
def p0 : Program := .bare "" "" ""
def e0 : Env := launch0.env 0 0 0
theorem w_frames : about1.frames = Frame.invoking theMethod args0 :: below0 := rfl
set_option maxRecDepth 65536 in
theorem w_args : argsFit about1.vm theMethod args0 = true := by decide +kernel
set_option maxRecDepth 65536 in
theorem w_heap : heapFits about1 = true := by decide +kernel
set_option maxRecDepth 65536 in
theorem w_runnable : about1.curStatus? = some .runnable := by decide +kernel
set_option maxRecDepth 65536 in
theorem w_alone : about1.alone = true := by decide +kernel
set_option maxRecDepth 65536 in
theorem w_named : about1.methodNamed? x = some theMethod := by decide +kernel
set_option maxRecDepth 65536 in
theorem w_hears : about1.hears theMethod below0 = true := by decide +kernel
set_option maxRecDepth 65536 in
theorem w_ripe : about1.ripe theMethod args0 below0 = true := by decide +kernel
theorem w_running : about1.status = .running := rfl
set_option maxRecDepth 65536 in
theorem w_room : about1.hasRoom e0.platform room_1 = true :=
  launch0.hasRoom_least _ room_1 (by decide +kernel) (by decide +kernel) (by decide +kernel) (by decide +kernel) (by decide +kernel) (by decide +kernel)
theorem allAtoms_all (ts : List Jvm.Cond) (a : Array Jvm.Value) (st : Jvm.State) : (allAtoms ts).before a st = ts.all (fun c => c.before a st) := by
  induction ts with
  | nil => rfl
  | cons c t ih =>
    show (Jvm.Cond.and c (allAtoms t)).before a st = _
    rw [Jvm.Cond.before_and, ih, List.all_cons]
def words1 : List Jvm.Cond := Jvm.Cond.code x code maxLocals ret :: tables_1
/-- a 'code' word, met by the world's own term for the bytes: nothing is compared byte by byte -/
theorem code_word {y : MethodName} {bytes : ByteArray} {mx : Nat} {rt : Option FieldType} {a : Array Value} {s : State} {m : MethodId} {meth : Method} {c : Code} (h1 : s.methodNamed? y = some m) (h2 : s.vm.method? m = some meth) (h3 : meth.code = some c) (h4 : c.code = bytes)
    (h5 : (c.maxLocals == mx && c.exceptionTable.isEmpty && decide (c.maxStack ≤ mostOperands) && decide (meth.sig.returnType = rt) && !meth.locks && decide (parseMethodDescriptor y.desc = some meth.sig)) = true) : (Jvm.Cond.code y bytes mx rt).before a s = true := by
  simp only [Bool.and_eq_true, beq_iff_eq, Bool.not_eq_true', decide_eq_true_eq] at h5
  obtain ⟨⟨⟨⟨⟨g1, g2⟩, g3⟩, g4⟩, g5⟩, g6⟩ := h5
  simp [Cond.before, Cond.holds, Cond.value, h1, h2, h3, h4, g1, g2, g3, g4, g5, g6]
def isCode : Jvm.Cond → Bool
  | .code _ _ _ _ => true
  | _ => false
theorem all_split {L : List Jvm.Cond} {P : Jvm.Cond → Bool} (h1 : L.all (fun c => isCode c || P c) = true) (h2 : ∀ c ∈ L.filter isCode, P c = true) : L.all P = true := by
  refine List.all_eq_true.mpr fun c hc => ?_
  have h := List.all_eq_true.mp h1 c hc
  rcases Bool.eq_false_or_eq_true (isCode c) with hi | hi
  · exact h2 c (List.mem_filter.mpr ⟨hc, hi⟩)
  · simpa [hi] using h
set_option maxRecDepth 65536 in
theorem w_c0 : (Jvm.Cond.code x code maxLocals ret).before args0 about1 = true := code_word (m := ⟨1, 2⟩) (meth := k1m2) (c := k1c2) (by decide +kernel) rfl rfl rfl (by decide +kernel)
set_option maxRecDepth 65536 in
theorem w_c1 : (Jvm.Cond.code ({ cls := "com/example/lokey/lokey/yaml/Cursor", name := "mayStandAnywhere", desc := "(C)Z" } : Jvm.MethodName) prog_120_method_39_code (1 : Nat) (Option.some Jvm.ClassFile.FieldType.boolean)).before args0 about1 = true := code_word (m := ⟨2, 0⟩) (meth := k2m0) (c := k2c0) (by decide +kernel) rfl rfl rfl (by decide +kernel)
set_option maxRecDepth 65536 in
theorem w_c2 : (Jvm.Cond.code ({ cls := "com/example/lokey/lokey/yaml/CursorMayStandAnywherePinLaw", name := "expected", desc := "(I)Z" } : Jvm.MethodName) method_2_code (1 : Nat) (Option.some Jvm.ClassFile.FieldType.boolean)).before args0 about1 = true := code_word (m := ⟨1, 1⟩) (meth := k1m1) (c := k1c1) (by decide +kernel) rfl rfl rfl (by decide +kernel)
def codes1 : List Jvm.Cond := [Jvm.Cond.code x code maxLocals ret, Jvm.Cond.code ({ cls := "com/example/lokey/lokey/yaml/Cursor", name := "mayStandAnywhere", desc := "(C)Z" } : Jvm.MethodName) prog_120_method_39_code (1 : Nat) (Option.some Jvm.ClassFile.FieldType.boolean), Jvm.Cond.code ({ cls := "com/example/lokey/lokey/yaml/CursorMayStandAnywherePinLaw", name := "expected", desc := "(I)Z" } : Jvm.MethodName) method_2_code (1 : Nat) (Option.some Jvm.ClassFile.FieldType.boolean)]
set_option maxRecDepth 65536 in
theorem codes_eq : words1.filter isCode = codes1 := rfl
theorem w_codes : ∀ c ∈ words1.filter isCode, c.before args0 about1 = true := by
  rw [codes_eq]
  intro c hc
  simp only [codes1, List.mem_cons, List.not_mem_nil, or_false] at hc
  rcases hc with rfl | rfl | rfl
  · exact w_c0
  · exact w_c1
  · exact w_c2
set_option maxRecDepth 65536 in
theorem w_t1 : words1.all (fun c => isCode c || c.before args0 about1) = true := by decide +kernel
theorem w_tables : (allAtoms (Jvm.Cond.code x code maxLocals ret :: tables_1)).before args0 about1 = true := by
  rw [allAtoms_all]
  show words1.all (fun c => c.before args0 about1) = true
  refine all_split ?_ w_codes
  rw [w_t1]
set_option maxRecDepth 65536 in
theorem w_case : (Jvm.Cond.and given_1 narrow_1).before args0 about1 = true := by decide +kernel
theorem w_applies : (headSpec (Jvm.Cond.code x code maxLocals ret :: tables_1) room_1).applies x e0.platform about1 = true :=
  (Spec.applies_iff w_frames).mpr ⟨w_running, w_runnable, w_alone, w_named, w_hears, w_ripe, w_room, w_tables⟩
theorem atStart : AtStart classFile x code maxLocals ret World_1 tables_1 room_1 Calls_1 rest_1 Pre_1 launch0 p0 e0 about1 theMethod args0 below0 :=
  ⟨lists_1, trivial, launch0.admits_env _ _ _, launch0.least_env, fairChoices_fair.cas, fairChoices_fair.clock, w_frames, w_args, w_heap, w_applies, trivial, trivial, w_case⟩
end start1
theorem witness_1 : WitnessClaimed_1 := ⟨start1.p0, start1.e0, start1.about1, start1.theMethod, start1.args0, start1.below0, start1.atStart⟩
end Jvm.Pilot.@@N@@
