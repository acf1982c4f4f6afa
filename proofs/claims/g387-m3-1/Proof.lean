import JvmDerived
import JvmDerived.Pilot.@@N@@Statement
import JvmDerived.Pilot.@@N@@Code
set_option linter.unusedVariables false
set_option linter.unusedSimpArgs false
namespace Jvm.RoadKit
open Sem ClassFile Op Lib Jvm.Stand Jvm.Free Jvm.LawKit
section New
variable {p : Program} {l : Launch} {e : Env} {R : Room} {s : State} {m : MethodId} {args : Array Value} {below : List Frame} {meth : Method} {c : Code} {T : State} {locs : List Loc} {cells slots : Nat}
theorem retI (X : Stand p l e R s m args below meth c T locs cells slots) (hx : p.tables.exec = Jvm.exec) {pc : Nat} {Ls : Array Slot} {z : Int32} {rest : List Value} (hret : meth.sig.returnType = some .int) (hd : decode c.code pc = .ok (.ireturn, 1)) {fs : List Frame}
    (hl : ∀ (f : JFrame) (acts : List Action), f.method = m → f.locked = none → f.entered = [] → (doReturn e (T.setTop f) acts (some (.int z))).1 = T.setFrames fs) : Steps p.tables e below (T.setTop (mkF m pc Ls (.int z :: rest))) (T.setFrames fs) := by
  have hm' : T.vm.method? m = some meth := X.method'
  have hn : narrow .int (.int z) = .int z := rfl
  show Steps p.tables e below (T.setTop { method := m, pc := pc, locals := Ls, stack := _ :: rest, locked := none }) _
  jvm_step X.here [X.here.top, hx, hd, hm', hret, hn]
  first | (intro acts; rw [hl _ acts rfl rfl rfl]) | rw [hl _ _ rfl rfl rfl]
  exact Steps.refl _
end New
end Jvm.RoadKit
namespace Jvm.Pilot.@@N@@
open Jvm Jvm.ClassFile Sem Op Lib Jvm.Free Jvm.Stand Jvm.LawKit Jvm.RoadKit Bundle Jvm.Pilot.@@N@@.Jvm.D
/-! own_x1: one plain instruction over locals and stack, as a function; own_blk: a stretch of them in one row -/
def own_x1 : Instr → Nat → Array Slot → List Value → Option (Array Slot × List Value)
  | .iload_n k, 1, Ls, st => match Ls[k.val]? with | some (.val (.int x)) => some (Ls, .int x :: st) | _ => none
  | .iload k, 2, Ls, st => match Ls[k]? with | some (.val (.int x)) => some (Ls, .int x :: st) | _ => none
  | .lload_n k, 1, Ls, st => match Ls[k.val]? with | some (.val (.long x)) => some (Ls, .long x :: st) | _ => none
  | .lload k, 2, Ls, st => match Ls[k]? with | some (.val (.long x)) => some (Ls, .long x :: st) | _ => none
  | .aload_n k, 1, Ls, st => match Ls[k.val]? with | some (.val (.ref x)) => some (Ls, .ref x :: st) | some (.val .null) => some (Ls, .null :: st) | _ => none
  | .aload k, 2, Ls, st => match Ls[k]? with | some (.val (.ref x)) => some (Ls, .ref x :: st) | some (.val .null) => some (Ls, .null :: st) | _ => none
  | .istore_n k, 1, Ls, .int x :: st => match storeLocals Ls k.val (.int x) with | some L => some (L, st) | none => none
  | .istore k, 2, Ls, .int x :: st => match storeLocals Ls k (.int x) with | some L => some (L, st) | none => none
  | .lstore_n k, 1, Ls, .long x :: st => match storeLocals Ls k.val (.long x) with | some L => some (L, st) | none => none
  | .lstore k, 2, Ls, .long x :: st => match storeLocals Ls k (.long x) with | some L => some (L, st) | none => none
  | .astore_n k, 1, Ls, .ref x :: st => match storeLocals Ls k.val (.ref x) with | some L => some (L, st) | none => none
  | .astore k, 2, Ls, .ref x :: st => match storeLocals Ls k (.ref x) with | some L => some (L, st) | none => none
  | .iconst i, 1, Ls, st => some (Ls, .int (Int32.ofInt i) :: st)
  | .bipush i, 2, Ls, st => some (Ls, .int (Int8.ofInt i).toInt32 :: st)
  | .sipush i, 3, Ls, st => some (Ls, .int (Int16.ofInt i).toInt32 :: st)
  | .lconst k, 1, Ls, st => some (Ls, .long (Int64.ofNat k) :: st)
  | .aconst_null, 1, Ls, st => some (Ls, .null :: st)
  | .iadd, 1, Ls, .int y :: .int x :: st => some (Ls, .int (x + y) :: st)
  | .isub, 1, Ls, .int y :: .int x :: st => some (Ls, .int (x - y) :: st)
  | .imul, 1, Ls, .int y :: .int x :: st => some (Ls, .int (x * y) :: st)
  | .iand, 1, Ls, .int y :: .int x :: st => some (Ls, .int (x &&& y) :: st)
  | .ior, 1, Ls, .int y :: .int x :: st => some (Ls, .int (x ||| y) :: st)
  | .ixor, 1, Ls, .int y :: .int x :: st => some (Ls, .int (x ^^^ y) :: st)
  | .ishl, 1, Ls, .int y :: .int x :: st => some (Ls, .int (x <<< (y &&& 31)) :: st)
  | .ishr, 1, Ls, .int y :: .int x :: st => some (Ls, .int (x >>> (y &&& 31)) :: st)
  | .iushr, 1, Ls, .int y :: .int x :: st => some (Ls, .int ((x.toUInt32 >>> (y &&& 31).toUInt32).toInt32) :: st)
  | .ladd, 1, Ls, .long y :: .long x :: st => some (Ls, .long (x + y) :: st)
  | .lsub, 1, Ls, .long y :: .long x :: st => some (Ls, .long (x - y) :: st)
  | .lmul, 1, Ls, .long y :: .long x :: st => some (Ls, .long (x * y) :: st)
  | .land, 1, Ls, .long y :: .long x :: st => some (Ls, .long (x &&& y) :: st)
  | .lor, 1, Ls, .long y :: .long x :: st => some (Ls, .long (x ||| y) :: st)
  | .lxor, 1, Ls, .long y :: .long x :: st => some (Ls, .long (x ^^^ y) :: st)
  | .lushr, 1, Ls, .int y :: .long x :: st => some (Ls, .long ((x.toUInt64 >>> (y &&& 0x3f).toInt64.toUInt64).toInt64) :: st)
  | .ineg, 1, Ls, .int x :: st => some (Ls, .int (-x) :: st)
  | .i2l, 1, Ls, .int x :: st => some (Ls, .long x.toInt64 :: st)
  | .i2b, 1, Ls, .int x :: st => some (Ls, .int x.toInt8.toInt32 :: st)
  | .i2c, 1, Ls, .int x :: st => some (Ls, .int x.toUInt32.toUInt16.toUInt32.toInt32 :: st)
  | .i2s, 1, Ls, .int x :: st => some (Ls, .int x.toInt16.toInt32 :: st)
  | .lcmp, 1, Ls, .long y :: .long x :: st => some (Ls, .int (lcmpW x y) :: st)
  | .dup, 1, Ls, .int x :: st => some (Ls, .int x :: .int x :: st)
  | .dup, 1, Ls, .ref x :: st => some (Ls, .ref x :: .ref x :: st)
  | .iinc k i, 3, Ls, st => match Ls[k]? with | some (.val (.int x)) => (match storeLocals Ls k (.int (x + Int32.ofInt i)) with | some L => some (L, st) | none => none) | _ => none
  | _, _, _, _ => none
section OwnBlk
variable {p : Program} {l : Launch} {e : Env} {R : Room} {s : State} {m : MethodId} {args : Array Value} {below : List Frame} {meth : Method} {c : Code} {T target : State} {locs : List Loc} {cells slots : Nat}
set_option maxHeartbeats 4000000 in
theorem own_x1_ok (X : Stand p l e R s m args below meth c T locs cells slots) (hx : p.tables.exec = Jvm.exec) {i : Instr} {len pc : Nat} {Ls Ls' : Array Slot} {st st' : List Value} (hd : decode c.code pc = .ok (i, len)) (h : own_x1 i len Ls st = some (Ls', st'))
    (k : Steps p.tables e below (T.setTop (mkF m (pc + len) Ls' st')) target) : Steps p.tables e below (T.setTop (mkF m pc Ls st)) target := by
  unfold own_x1 at h
  split at h
  all_goals (try (split at h))
  all_goals (try (split at h))
  all_goals (try (cases h; done))
  all_goals (cases h)
  all_goals first
    | exact XS.iloadN X.here hx rfl hd (by assumption) k
    | exact XS.iload X.here hx rfl hd (by assumption) k
    | exact XS.lloadN X.here hx rfl hd (by assumption) k
    | exact XS.lload X.here hx rfl hd (by assumption) k
    | exact XS.aloadN X.here hx rfl hd (by assumption) rfl k
    | exact XS.aload X.here hx rfl hd (by assumption) rfl k
    | exact XS.istoreN X.here hx rfl hd rfl (by assumption) k
    | exact XS.istore X.here hx rfl hd rfl (by assumption) k
    | exact XS.lstoreN X.here hx rfl hd rfl (by assumption) k
    | exact XS.lstore X.here hx rfl hd rfl (by assumption) k
    | exact XS.astoreN X.here hx rfl hd rfl rfl (by assumption) k
    | exact XS.astore X.here hx rfl hd rfl rfl (by assumption) k
    | exact XS.iconst X.here hx rfl hd k
    | exact XS.bipush X.here hx rfl hd k
    | exact XS.sipush X.here hx rfl hd k
    | exact XS.lconst X.here hx rfl hd k
    | exact XS.aconstNull X.here hx rfl hd k
    | exact XS.iadd X.here hx rfl hd rfl k
    | exact XS.isub X.here hx rfl hd rfl k
    | exact XS.imul X.here hx rfl hd rfl k
    | exact XS.iand X.here hx rfl hd rfl k
    | exact XS.ior X.here hx rfl hd rfl k
    | exact XS.ixor X.here hx rfl hd rfl k
    | exact XS.ishl X.here hx rfl hd rfl k
    | exact XS.ishr X.here hx rfl hd rfl k
    | exact XS.iushr X.here hx rfl hd rfl k
    | exact XS.ladd X.here hx rfl hd rfl k
    | exact XS.lsub X.here hx rfl hd rfl k
    | exact XS.lmul X.here hx rfl hd rfl k
    | exact XS.land X.here hx rfl hd rfl k
    | exact XS.lor X.here hx rfl hd rfl k
    | exact XS.lxor X.here hx rfl hd rfl k
    | exact XS.lushr X.here hx rfl hd rfl k
    | exact XS.ineg X.here hx rfl hd rfl k
    | exact XS.i2l X.here hx rfl hd rfl k
    | exact XS.i2b X.here hx rfl hd rfl k
    | exact XS.i2c X.here hx rfl hd rfl k
    | exact XS.i2s X.here hx rfl hd rfl k
    | exact XS.lcmp X.here hx rfl hd rfl k
    | exact XS.dup X.here hx rfl hd rfl rfl k
    | exact XS.iinc X.here hx rfl hd (by assumption) (by assumption) k
/-- a stretch: each row's pc, instruction and length; a 'goto' among them goes where its row says -/
def own_xs : List (Nat × Instr × Nat) → Nat → Array Slot → List Value → Option (Nat × Array Slot × List Value)
  | [], pc, Ls, st => some (pc, Ls, st)
  | (q, .goto o, 3) :: is, pc, Ls, st => if q = pc then own_xs is ((pc : Int) + o).toNat Ls st else none
  | (q, i, len) :: is, pc, Ls, st => if q = pc then (match own_x1 i len Ls st with | some (L, t) => own_xs is (pc + len) L t | none => none) else none
def own_dec (b : ByteArray) (is : List (Nat × Instr × Nat)) : Bool := is.all fun r => (match decode b r.1 with | .ok (i, n) => decide (i = r.2.1) && decide (n = r.2.2) | .error _ => false) && (match r.2.1 with | .goto o => decide (0 ≤ (r.1 : Int) + o) | _ => true)
theorem own_blk (X : Stand p l e R s m args below meth c T locs cells slots) (hx : p.tables.exec = Jvm.exec) : ∀ (is : List (Nat × Instr × Nat)) {pc pc' : Nat} {Ls Ls' : Array Slot} {st st' : List Value}, own_dec c.code is = true → own_xs is pc Ls st = some (pc', Ls', st') →
    Steps p.tables e below (T.setTop (mkF m pc' Ls' st')) target → Steps p.tables e below (T.setTop (mkF m pc Ls st)) target := by
  intro is
  induction is with
  | nil => intro pc pc' Ls Ls' st st' _ h k; simp only [own_xs] at h; cases h; exact k
  | cons r is ih =>
    intro pc pc' Ls Ls' st st' hd h k
    simp only [own_dec, List.all_cons, Bool.and_eq_true] at hd
    obtain ⟨⟨h1, h2⟩, h3⟩ := hd
    obtain ⟨q, i, len⟩ := r
    have hdec : decode c.code q = .ok (i, len) := by
      revert h1
      dsimp only
      cases decode c.code q with
      | error _ => intro h; cases h
      | ok v => obtain ⟨i', n'⟩ := v; intro h; simp only [Bool.and_eq_true, decide_eq_true_eq] at h; obtain ⟨rfl, rfl⟩ := h; rfl
    have h3' : own_dec c.code is = true := h3
    unfold own_xs at h
    split at h
    · cases ‹_ :: _ = []›
    · rename_i e1
      cases e1
      split at h
      · rename_i e2
        subst e2
        exact XS.goto X.here hx rfl rfl hdec (by simpa using h2) rfl (ih h3' h k)
      · cases h
    · rename_i e1
      cases e1
      split at h
      · rename_i e2
        subst e2
        split at h
        · rename_i e3
          exact own_x1_ok X hx hdec e3 (ih h3' h k)
        · cases h
      · cases h
theorem own_hb {c : Code} {b : ByteArray} {is : List (Nat × Instr × Nat)} (h : c.code = b) (h2 : own_dec b is = true) : own_dec c.code is = true := h ▸ h2
end OwnBlk
/-! the three calls by contract, each as one 'obtain' (over the library's callS, specialBack, virtualBack and backOf) -/
section OwnCall
variable {p : Program} {l : Launch} {e : Env} {R : Room} {s : State} {m : MethodId} {args : Array Value} {below : List Frame} {meth : Method} {c : Code} {T : State} {locs : List Loc} {cells slots : Nat} {Z : State} {a0 : Array Value} {h : Heap}
theorem own_callS (X : Stand p l e R s m args below meth c T locs cells slots) (hx : p.tables.exec = Jvm.exec) (hZ : Z.Warmed39 s.vm) {own : String} {index : Nat} {y : MethodName} {bytes : ByteArray} {maxL : Nat} {ret : Option FieldType} {rm : Room} {Q : Option Value → Heap → List Loc → Prop}
    (hown : s.vm.findClass own = some m.cls) (w1 : (Jvm.Cond.methodLink own index y).before a0 Z = true) (w2 : (Jvm.Cond.static y).before a0 Z = true) (w3 : (Jvm.Cond.initialized y.cls).before a0 Z = true) (w4 : (Jvm.Cond.code y bytes maxL ret).before a0 Z = true)
    (hy : y.cls ≠ "java/lang/invoke/MethodHandle" ∧ y.cls ≠ "java/lang/invoke/VarHandle") {W : Nat} {argsL rest : List Value}
    (hM : MetFree l y (head1 [Jvm.Cond.code y bytes maxL ret] rm) (fun a U => a = argsL.toArray ∧ Z.Warmed39 U.vm ∧ U.heap = h) (fun _ _ _ _ _ => True) (fun _ U o U' => ∃ v L, o = .returned v ∧ Q v U'.heap L ∧ FrameEnd U o U' L rm.cells rm.slots))
    (hf : rm.frames + 1 ≤ R.frames) (hl : W + (maxL + 11) + rm.locals ≤ R.locals) {c' s' : Nat} (hc' : cells + rm.cells = c') (hs' : slots + rm.slots = s') (hc : c' ≤ R.cells) (hs : s' ≤ R.slots) (eT : T.heap = h)
    {g : JFrame} (hg : g.method = m) (hsize : g.locals.size = c.maxLocals) (hlen : ∀ sig, parseMethodDescriptor y.desc = some sig → argsL.length = sig.parameters.length) (hstack : g.stack = argsL.reverse ++ rest) (hW : 2 * g.monitorRoom + (rest.map fun v => v.category).sum ≤ W) (hdg : decode c.code g.pc = .ok (.invokestatic index, 3)) :
    ∃ (v : Option Value) (T' : State) (L : List Loc), Stand p l e R s m args below meth c T' (locs ++ L) c' s' ∧ Q v T'.heap L ∧ ∀ target, Steps p.tables e below (T'.setTop { g with pc := g.pc + 3, stack := v.toList ++ rest }) target → Steps p.tables e below (T.setTop g) target := by
  subst hc' hs'
  obtain ⟨v, vm₁, ⟨T', L', k', n'⟩, -, X', ⟨L, hQ, e1, e2, e3⟩, st⟩ := Jvm.LawKit.callS X hx hown (mvT hZ w1) (mvT hZ w2) (mvT hZ w3) (mvT hZ w4) hy (backOf (W := W) hM hZ w4 w3 hf hl) hg hsize hlen hstack hW hdg (fun _ _ => ⟨rfl, eT, hc, hs⟩)
  dsimp only [Pt.U, Pt.locs, Pt.cells, Pt.slots] at X' e1 e2 e3 st hQ
  subst e1 e2 e3
  exact ⟨v, T', L, X', hQ, st⟩
theorem own_callI (X : Stand p l e R s m args below meth c T locs cells slots) (hx : p.tables.exec = Jvm.exec) (hZ : Z.Warmed39 s.vm) {own : String} {index : Nat} {y : MethodName} (hy1 : y.name = "<init>") {bytes : ByteArray} {maxL : Nat} {rm : Room} {Q : Option Value → Heap → List Loc → Prop}
    (hown : s.vm.findClass own = some m.cls) (w1 : (Jvm.Cond.methodLink own index y).before a0 Z = true) (w2 : (Jvm.Cond.instanceMethod y).before a0 Z = true) (w3 : (Jvm.Cond.initialized y.cls).before a0 Z = true) (w4 : (Jvm.Cond.code y bytes maxL none).before a0 Z = true)
    (hy : y.cls ≠ "java/lang/invoke/MethodHandle" ∧ y.cls ≠ "java/lang/invoke/VarHandle") {W : Nat} {a : Addr} {argsL rest : List Value}
    (hM : MetFree l y (head1 [Jvm.Cond.code y bytes maxL none] rm) (fun b U => b = (.ref a :: argsL).toArray ∧ Z.Warmed39 U.vm ∧ U.heap = h) (fun _ _ _ _ _ => True) (fun _ U o U' => ∃ v L, o = .returned v ∧ Q v U'.heap L ∧ FrameEnd U o U' L rm.cells rm.slots))
    (hf : rm.frames + 1 ≤ R.frames) (hl : W + (maxL + 11) + rm.locals ≤ R.locals) {c' s' : Nat} (hc' : cells + rm.cells = c') (hs' : slots + rm.slots = s') (hc : c' ≤ R.cells) (hs : s' ≤ R.slots) (eT : T.heap = h)
    {g : JFrame} (hg : g.method = m) (hsize : g.locals.size = c.maxLocals) (hlen : ∀ sig, parseMethodDescriptor y.desc = some sig → argsL.length = sig.parameters.length) (hstack : g.stack = argsL.reverse ++ .ref a :: rest) (hW : 2 * g.monitorRoom + (rest.map fun v => v.category).sum ≤ W) (hdg : decode c.code g.pc = .ok (.invokespecial index, 3)) :
    ∃ (v : Option Value) (T' : State) (L : List Loc), Stand p l e R s m args below meth c T' (locs ++ L) c' s' ∧ Q v T'.heap L ∧ ∀ target, Steps p.tables e below (T'.setTop { g with pc := g.pc + 3, stack := v.toList ++ rest }) target → Steps p.tables e below (T.setTop g) target := by
  subst hc' hs'
  obtain ⟨v, vm₁, ⟨T', L', k', n'⟩, -, X', ⟨L, hQ, e1, e2, e3⟩, st⟩ := X.specialBack hx hy1 hown (mvT hZ w1) (mvT hZ w2) (mvT hZ w4) hy (backOf (W := W) hM hZ w4 w3 hf hl) hg hsize (Steps.refl _) (a := a) hlen hstack hW hdg (fun _ _ => ⟨rfl, eT, hc, hs⟩)
  dsimp only [Pt.U, Pt.locs, Pt.cells, Pt.slots] at X' e1 e2 e3 st hQ
  subst e1 e2 e3
  exact ⟨v, T', L, X', hQ, fun target k => st.trans k⟩
theorem own_callV (X : Stand p l e R s m args below meth c T locs cells slots) (hx : p.tables.exec = Jvm.exec) (hZ : Z.Warmed39 s.vm) {own C : String} {index : Nat} {y : MethodName} {bytes : ByteArray} {maxL : Nat} {ret : Option FieldType} {rm : Room} {Q : Option Value → Heap → List Loc → Prop}
    (hown : s.vm.findClass own = some m.cls) (w1 : (Jvm.Cond.methodLink own index y).before a0 Z = true) (w5 : (Jvm.Cond.declares y).before a0 Z = true) (w6 : (Jvm.Cond.selects C y y).before a0 Z = true) (w2 : (Jvm.Cond.instanceMethod y).before a0 Z = true) (w3 : (Jvm.Cond.initialized y.cls).before a0 Z = true) (w4 : (Jvm.Cond.code y bytes maxL ret).before a0 Z = true)
    (hy : y.cls ≠ "java/lang/invoke/MethodHandle" ∧ y.cls ≠ "java/lang/invoke/VarHandle") {W : Nat} {a : Addr} (E : Exa Z h a C) {argsL rest : List Value}
    (hM : MetFree l y (head1 [Jvm.Cond.code y bytes maxL ret] rm) (fun b U => b = (.ref a :: argsL).toArray ∧ Z.Warmed39 U.vm ∧ U.heap = h) (fun _ _ _ _ _ => True) (fun _ U o U' => ∃ v L, o = .returned v ∧ Q v U'.heap L ∧ FrameEnd U o U' L rm.cells rm.slots))
    (hf : rm.frames + 1 ≤ R.frames) (hl : W + (maxL + 11) + rm.locals ≤ R.locals) {c' s' : Nat} (hc' : cells + rm.cells = c') (hs' : slots + rm.slots = s') (hc : c' ≤ R.cells) (hs : s' ≤ R.slots) (eT : T.heap = h)
    {g : JFrame} (hg : g.method = m) (hsize : g.locals.size = c.maxLocals) (hlen : ∀ sig, parseMethodDescriptor y.desc = some sig → argsL.length = sig.parameters.length) (hstack : g.stack = argsL.reverse ++ .ref a :: rest) (hW : 2 * g.monitorRoom + (rest.map fun v => v.category).sum ≤ W) (hdg : decode c.code g.pc = .ok (.invokevirtual index, 3)) :
    ∃ (v : Option Value) (T' : State) (L : List Loc), Stand p l e R s m args below meth c T' (locs ++ L) c' s' ∧ Q v T'.heap L ∧ ∀ target, Steps p.tables e below (T'.setTop { g with pc := g.pc + 3, stack := v.toList ++ rest }) target → Steps p.tables e below (T.setTop g) target := by
  subst hc' hs'
  obtain ⟨cB, kB, q1, q2, q3⟩ := isOf hZ eT E
  obtain ⟨v, vm₁, ⟨T', L', k', n'⟩, -, X', ⟨L, hQ, e1, e2, e3⟩, st⟩ := X.virtualBack hx (z := y) hown (mvT hZ w1) (mvT hZ w5) (notFace_of_selects (args := #[]) (mvT hZ w6)) (mvT hZ w6) (mvT hZ w2) hy (backOf (W := W) hM hZ w4 w3 hf hl) q1 q3 hg hsize (Steps.refl _) hlen hstack hW hdg (fun _ _ => ⟨rfl, eT, hc, hs⟩)
  dsimp only [Pt.U, Pt.locs, Pt.cells, Pt.slots] at X' e1 e2 e3 st hQ
  subst e1 e2 e3
  exact ⟨v, T', L, X', hQ, fun target k => st.trans k⟩
end OwnCall
theorem own_small {n : Nat} (P : Int32 → Prop) (h : ∀ i : Fin n, P (Int32.ofNat i.1)) {x : Int32} (h0 : ¬ x < 0) (h1 : x.toInt < n) : P x := by
  have e0 : (0 : Int32).toInt = 0 := by decide
  have hx : Int32.ofNat x.toNatClampNeg = x := (back32 h0).1
  have hp : 0 ≤ x.toInt := by rw [Int32.lt_iff_toInt_lt] at h0; omega
  have hlt : x.toNatClampNeg < n := by
    show x.toInt.toNat < n
    omega
  have q := h ⟨x.toNatClampNeg, hlt⟩
  rw [← hx]; exact q
theorem own_ws {Z : State} {a0 : Array Value} (hw : ∀ d ∈ tables_1, d.before a0 Z = true) : ∀ a ∈ Bundle.stringAtoms, a.before a0 Z = true := fun d hd => by
  simp only [Bundle.stringAtoms, List.mem_cons, List.not_mem_nil, or_false] at hd
  rcases hd with rfl | rfl | rfl | rfl | rfl | rfl | rfl
  all_goals first | exact hw _ (List.mem_of_getElem? (i := 7) rfl) | exact hw _ (List.mem_of_getElem? (i := 6) rfl) | exact hw _ (List.mem_of_getElem? (i := 20) rfl) | exact hw _ (List.mem_of_getElem? (i := 21) rfl) | exact hw _ (List.mem_of_getElem? (i := 22) rfl) | exact hw _ (List.mem_of_getElem? (i := 23) rfl) | exact hw _ (List.mem_of_getElem? (i := 24) rfl)
section OwnCH
variable {p : Program} {l : Launch} {e : Env} {R : Room} {s : State} {m : MethodId} {args : Array Value} {below : List Frame} {meth : Method} {c : Code} {T : State} {locs : List Loc} {cells slots : Nat} {Z : State} {a0 : Array Value} {h h' : Heap} {EL : List (String × Nat)} {vm : Vm}
theorem own_callSH (X : Stand p l e R s m args below meth c T locs cells slots) (hx : p.tables.exec = Jvm.exec) (hZ : Z.Warmed39 s.vm) {own : String} {index : Nat} {y : MethodName} {bytes : ByteArray} {maxL : Nat} {ret : Option FieldType} {rm : Room} {Q : Option Value → Heap → List Loc → Prop}
    (hown : s.vm.findClass own = some m.cls) (w1 : (Jvm.Cond.methodLink own index y).before a0 Z = true) (w2 : (Jvm.Cond.static y).before a0 Z = true) (w3 : (Jvm.Cond.initialized y.cls).before a0 Z = true) (w4 : (Jvm.Cond.code y bytes maxL ret).before a0 Z = true)
    (hy : y.cls ≠ "java/lang/invoke/MethodHandle" ∧ y.cls ≠ "java/lang/invoke/VarHandle") {W : Nat} {argsL rest : List Value}
    (hM : MetFree l y (head1 [Jvm.Cond.code y bytes maxL ret] rm) (fun a U => a = argsL.toArray ∧ Z.Warmed39 U.vm ∧ U.heap = h ∧ CHv Z EL U.vm h) (fun _ _ _ _ _ => True) (fun _ U o U' => ∃ v L, o = .returned v ∧ Q v U'.heap L ∧ CHr Z EL U.vm U.heap U'.vm U'.heap ∧ ReturnedEndW U o U' L rm.cells rm.slots))
    (hEL : EW Z a0 EL) (H : CHv Z EL s.vm h)
    (hf : rm.frames + 1 ≤ R.frames) (hl : W + (maxL + 11) + rm.locals ≤ R.locals) {c' s' : Nat} (hc' : cells + rm.cells = c') (hs' : slots + rm.slots = s') (hc : c' ≤ R.cells) (hs : s' ≤ R.slots) (eT : T.heap = h)
    {g : JFrame} (hg : g.method = m) (hsize : g.locals.size = c.maxLocals) (hlen : ∀ sig, parseMethodDescriptor y.desc = some sig → argsL.length = sig.parameters.length) (hstack : g.stack = argsL.reverse ++ rest) (hW : 2 * g.monitorRoom + (rest.map fun v => v.category).sum ≤ W) (hdg : decode c.code g.pc = .ok (.invokestatic index, 3)) :
    ∃ (v : Option Value) (T' : State) (L : List Loc), Stand p l e R (s.setVm T'.vm) m args below meth c T' (locs ++ L) c' s' ∧ Q v T'.heap L ∧ CHr Z EL s.vm h T'.vm T'.heap ∧ s.Since T'.vm T'.heap.size ∧ Z.Warmed39 (s.setVm T'.vm).vm ∧ (s.setVm T'.vm).vm.findClass own = some m.cls ∧
      ∀ target, Steps p.tables e below (T'.setTop { g with pc := g.pc + 3, stack := v.toList ++ rest }) target → Steps p.tables e below (T.setTop g) target := by
  subst hc' hs'
  obtain ⟨v, vm₁, ⟨T', L', k', n'⟩, -, X', hS, -, ⟨L, hQ, e1, e2, e3, hC⟩, st⟩ := callSS X hx hown (mvT hZ w1) (mvT hZ w2) (mvT hZ w3) (mvT hZ w4) hy (backOfSH (s := s) (vm0 := s.vm) (W := W) hM hZ w4 w3 hf hl hEL H) hg hsize hlen hstack hW hdg (fun _ _ => ⟨rfl, eT, hc, hs⟩)
  dsimp only [Pt.U, Pt.locs, Pt.cells, Pt.slots] at X' e1 e2 e3 st hQ hS hC
  subst e1 e2 e3
  exact ⟨v, T', L, X', hQ, hC, hS, State.Warmed39.trans hZ hS.1, by show T'.vm.findClass own = some m.cls; rw [hS.1.alike.findClass]; exact hown, fun target k => st.trans k⟩
theorem own_callIH (X : Stand p l e R s m args below meth c T locs cells slots) (hx : p.tables.exec = Jvm.exec) (hZ : Z.Warmed39 s.vm) {own : String} {index : Nat} {y : MethodName} (hy1 : y.name = "<init>") {bytes : ByteArray} {maxL : Nat} {rm : Room} {Q : Option Value → Heap → List Loc → Prop}
    (hown : s.vm.findClass own = some m.cls) (w1 : (Jvm.Cond.methodLink own index y).before a0 Z = true) (w2 : (Jvm.Cond.instanceMethod y).before a0 Z = true) (w3 : (Jvm.Cond.initialized y.cls).before a0 Z = true) (w4 : (Jvm.Cond.code y bytes maxL none).before a0 Z = true)
    (hy : y.cls ≠ "java/lang/invoke/MethodHandle" ∧ y.cls ≠ "java/lang/invoke/VarHandle") {W : Nat} {a : Addr} {argsL rest : List Value}
    (hM : MetFree l y (head1 [Jvm.Cond.code y bytes maxL none] rm) (fun b U => b = (.ref a :: argsL).toArray ∧ Z.Warmed39 U.vm ∧ U.heap = h ∧ CHv Z EL U.vm h) (fun _ _ _ _ _ => True) (fun _ U o U' => ∃ v L, o = .returned v ∧ Q v U'.heap L ∧ CHr Z EL U.vm U.heap U'.vm U'.heap ∧ ReturnedEndW U o U' L rm.cells rm.slots))
    (hEL : EW Z a0 EL) (H : CHv Z EL s.vm h)
    (hf : rm.frames + 1 ≤ R.frames) (hl : W + (maxL + 11) + rm.locals ≤ R.locals) {c' s' : Nat} (hc' : cells + rm.cells = c') (hs' : slots + rm.slots = s') (hc : c' ≤ R.cells) (hs : s' ≤ R.slots) (eT : T.heap = h)
    {g : JFrame} (hg : g.method = m) (hsize : g.locals.size = c.maxLocals) (hlen : ∀ sig, parseMethodDescriptor y.desc = some sig → argsL.length = sig.parameters.length) (hstack : g.stack = argsL.reverse ++ .ref a :: rest) (hW : 2 * g.monitorRoom + (rest.map fun v => v.category).sum ≤ W) (hdg : decode c.code g.pc = .ok (.invokespecial index, 3)) :
    ∃ (v : Option Value) (T' : State) (L : List Loc), Stand p l e R (s.setVm T'.vm) m args below meth c T' (locs ++ L) c' s' ∧ Q v T'.heap L ∧ CHr Z EL s.vm h T'.vm T'.heap ∧ s.Since T'.vm T'.heap.size ∧ Z.Warmed39 (s.setVm T'.vm).vm ∧ (s.setVm T'.vm).vm.findClass own = some m.cls ∧
      ∀ target, Steps p.tables e below (T'.setTop { g with pc := g.pc + 3, stack := v.toList ++ rest }) target → Steps p.tables e below (T.setTop g) target := by
  subst hc' hs'
  obtain ⟨v, vm₁, ⟨T', L', k', n'⟩, -, X', hS, -, ⟨L, hQ, e1, e2, e3, hC⟩, st⟩ := X.specialBackS hx hy1 hown (mvT hZ w1) (mvT hZ w2) (mvT hZ w4) hy (backOfSH (s := s) (vm0 := s.vm) (W := W) hM hZ w4 w3 hf hl hEL H) hg hsize (Steps.refl _) (a := a) hlen hstack hW hdg (fun _ _ => ⟨rfl, eT, hc, hs⟩)
  dsimp only [Pt.U, Pt.locs, Pt.cells, Pt.slots] at X' e1 e2 e3 st hQ hS hC
  subst e1 e2 e3
  exact ⟨v, T', L, X', hQ, hC, hS, State.Warmed39.trans hZ hS.1, by show T'.vm.findClass own = some m.cls; rw [hS.1.alike.findClass]; exact hown, fun target k => st.trans k⟩
theorem own_sta_keep {C n d : String} {w : Value} (F : Sta Z h C n d w) (K : Keep h h' []) : Sta Z h' C n d w := by
  obtain ⟨cf, i, k, f, st, cell, h1, h2, h3, h4, h5, r⟩ := F
  exact ⟨cf, i, k, f, st, cell, h1, h2, h3, h4, K.2.1 _ _ h5 (by simp), r⟩
/-- a String whose value is still null is booked nowhere -/
theorem own_safe {x : Addr} (hal : Z.vm.Alike vm) (E : Exa Z h x "java/lang/String") (F : Fld Z h x "java/lang/String" "value" "[B" .null) : Safe Z EL vm h x := fun B => by
  obtain ⟨p, -, u, a, -, q, -, G, rfl | rfl⟩ := B
  · obtain ⟨cell, cf, k, i, f, e1, e2, -, -, -, -, e7⟩ := F
    cases (show h[q.sa]? = some q.sC from G.ha).symm.trans e1
    obtain ⟨cS, ⟨⟨-, -, -, ⟨c1, k1, i1, f1, -⟩, -, -, -, v1, -⟩, -⟩, -⟩ := G
    obtain ⟨k3, e3, -⟩ := State.fieldFound?_setVm (s := ({ Z with heap := h } : State)) hal e2
    have e4 := (show (Wst Z vm h).fieldFound? _ _ _ = _ from e3).symm.trans f1
    simp only [Option.some.injEq, Prod.mk.injEq] at e4
    rw [← e4.2.2.2, e7] at v1
    simp at v1
  · obtain ⟨cell, k, e1, e2, e3, -, -⟩ := E
    cases (show h[q.sd]? = some q.SA from G.hd).symm.trans e1
    obtain ⟨cS, -, -, f, -⟩ := G
    have f' : vm.findClass "[B" = some q.SA.cls := f
    rw [hal.findClass] at f'
    obtain ⟨k1, q1, q2⟩ := Vm.findClass_spec f'
    obtain ⟨k2, q3, q4⟩ := Vm.findClass_spec e2
    cases q1.symm.trans q3
    have := q2.symm.trans q4
    exact absurd this (by decide)
def own_EL : List (String × Nat) := [("java/lang/String", 7)]
theorem own_ew (hw : ∀ d ∈ tables_1, d.before a0 Z = true) : EW Z a0 own_EL := EW.cons (hw _ (List.mem_of_getElem? (i := 19) rfl)) (fun _ hm => nomatch hm) EW.nil
end OwnCH
theorem d7_0 : decode jdk_30_method_1_code 0 = .ok (.aload_n 0, 1) := by decide +kernel
theorem d7_1 : decode jdk_30_method_1_code 1 = .ok (.invokespecial 1, 3) := by decide +kernel
theorem d7_4 : decode jdk_30_method_1_code 4 = .ok (.return_, 1) := by decide +kernel
theorem pn_7 : plainName "java/lang/Record" = true := by first | (simp [plainName, overriddenIn]; done) | decide +kernel
theorem ef_7 (m : MethodId) (x0 : Addr) : entryFrame m #[(.ref x0)] 1 = mkF m 0 #[.val (.ref x0)] [] := by first | (simp [entryFrame, mkF, argsToLocals, Value.category]; done) | rfl
def bl7_0_1 : List (Nat × Instr × Nat) := [(0, .aload_n 0, 1)]
theorem bd7_0_1 : own_dec jdk_30_method_1_code bl7_0_1 = true := by decide +kernel

def Q7 (Z : State) (a1 : Addr) (h0 : Heap) (n0 : Nat) (v : Option Value) (h : Heap) (L : List Loc) : Prop := v = none ∧ Fr n0 L ∧ h = h0
set_option maxRecDepth 65536 in
set_option maxHeartbeats 40000000 in
theorem rm7 (l : Launch) (Z : State) (a0 : Array Value) (hw : ∀ d ∈ tables_1, d.before a0 Z = true) (ws : List Jvm.Cond) (a1 : Addr) (h0 : Heap) (n0 : Nat) (Z0 : n0 ≤ h0.size) :
    MetFree l (⟨"java/lang/Record", "<init>", "()V"⟩ : MethodName) (head1 (Jvm.Cond.code (⟨"java/lang/Record", "<init>", "()V"⟩ : MethodName) jdk_30_method_1_code 1 none :: ws) ({ frames := 1, cells := 0, slots := 0, locals := 12 } : Room)) (fun a U => a = #[(.ref a1)] ∧ Z.Warmed39 U.vm ∧ U.heap = h0) (fun _ _ _ _ _ => True) (fun _ U o U' => ∃ v L, o = .returned v ∧ Q7 Z a1 h0 n0 v U'.heap L ∧ FrameEnd U o U' L ({ frames := 1, cells := 0, slots := 0, locals := 12 } : Room).cells ({ frames := 1, cells := 0, slots := 0, locals := 12 } : Room).slots) := by
  refine MetFree.of_bodySF (plainFor_of_name pn_7) hisR ?_
  intro p e s m args below meth c s₁ Bd hml0 hP hK
  obtain ⟨rfl, hZ, hh⟩ := hP
  have hx := Bd.exec
  have hby := Bd.bytes
  have hml : c.maxLocals = 1 := hml0
  have hown : s.vm.findClass "java/lang/Record" = some m.cls := findClass_of_methodNamed Bd.named
  have hnm := (name_of_methodNamed Bd.named Bd.method).1
  have X0 : Stand p l e ({ frames := 1, cells := 0, slots := 0, locals := 12 } : Room) s m #[(.ref a1)] below meth c s₁ [] 0 0 := Stand.of_body Bd
  have e0 : s₁.heap = h0 := by rw [← hh, Bd.state]; rfl
  have N0 := Fr.nil n0
  have pre0 : ∀ t, Steps p.tables e below (s₁.setTop (mkF m 0 #[.val (.ref a1)] [])) t → Steps p.tables e below (s₁.setTop (entryFrame m #[(.ref a1)] 1)) t := fun t k => castTop (ef_7 m a1) k
  obtain ⟨T1, X1, e1, st1⟩ := initO X0 hx hZ hown (hw _ (List.mem_of_getElem? (i := 44) rfl)) (hw _ (List.mem_of_getElem? (i := 17) rfl)) (hw _ (List.mem_of_getElem? (i := 18) rfl)) e0 (g := (mkF m 1 #[.val (.ref a1)] [(.ref a1)])) rfl (by rw [hml]; rfl) rfl (hb hby d7_1) (by decide) (W := 0) (by show 2 * 0 + _ ≤ _; exact Nat.le_of_eq rfl) (by decide)
  obtain ⟨fs, hr, hrun, hended, hW, hsame⟩ := X1.leave (v := none) (fun _ => rfl)
  refine ⟨_, _, pre0 _ ?_, hrun, hended, _, _, rfl, ?_, ⟨_, rfl⟩, hW, hsame.mono (by decide) (by decide)⟩
  · show Steps p.tables e below (s₁.setTop (mkF m 0 #[.val (.ref a1)] [])) _
    refine own_blk X0 hx bl7_0_1 (own_hb hby bd7_0_1) (pc' := 1) (Ls' := #[.val (.ref a1)]) (st' := [(.ref a1)]) rfl ?_
    refine st1 _ ?_
    show Steps p.tables e below (T1.setTop (mkF m 4 #[.val (.ref a1)] [])) _
    exact X1.returnOut hx Bd.returns (hb hby d7_4) hr
  · show Q7 Z a1 h0 n0 _ T1.heap _
    rw [e1]
    exact ⟨rfl, N0, rfl⟩
theorem d6_0 : decode prog_32_method_2_code 0 = .ok (.aload_n 0, 1) := by decide +kernel
theorem d6_1 : decode prog_32_method_2_code 1 = .ok (.invokespecial 1, 3) := by decide +kernel
theorem d6_4 : decode prog_32_method_2_code 4 = .ok (.aload_n 0, 1) := by decide +kernel
theorem d6_5 : decode prog_32_method_2_code 5 = .ok (.iload_n 1, 1) := by decide +kernel
theorem d6_6 : decode prog_32_method_2_code 6 = .ok (.putfield 7, 3) := by decide +kernel
theorem d6_9 : decode prog_32_method_2_code 9 = .ok (.aload_n 0, 1) := by decide +kernel
theorem d6_10 : decode prog_32_method_2_code 10 = .ok (.aload_n 2, 1) := by decide +kernel
theorem d6_11 : decode prog_32_method_2_code 11 = .ok (.putfield 13, 3) := by decide +kernel
theorem d6_14 : decode prog_32_method_2_code 14 = .ok (.aload_n 0, 1) := by decide +kernel
theorem d6_15 : decode prog_32_method_2_code 15 = .ok (.aload_n 3, 1) := by decide +kernel
theorem d6_16 : decode prog_32_method_2_code 16 = .ok (.putfield 17, 3) := by decide +kernel
theorem d6_19 : decode prog_32_method_2_code 19 = .ok (.return_, 1) := by decide +kernel
theorem pn_6 : plainName "com/example/vendsettle/vendsettle/Processor$Status" = true := by first | (simp [plainName, overriddenIn]; done) | decide +kernel
theorem pd_6_3 : parseMethodDescriptor "()V" = some ⟨[], none⟩ := by decide +kernel
theorem ef_6 (m : MethodId) (x0 : Addr) (x1 : Int32) (x2 : Addr) (x3 : Addr) : entryFrame m #[(.ref x0), (.int x1), (.ref x2), (.ref x3)] 4 = mkF m 0 #[.val (.ref x0), .val (.int x1), .val (.ref x2), .val (.ref x3)] [] := by first | (simp [entryFrame, mkF, argsToLocals, Value.category]; done) | rfl
def bl6_0_1 : List (Nat × Instr × Nat) := [(0, .aload_n 0, 1)]
theorem bd6_0_1 : own_dec prog_32_method_2_code bl6_0_1 = true := by decide +kernel
def bl6_4_2 : List (Nat × Instr × Nat) := [(4, .aload_n 0, 1), (5, .iload_n 1, 1)]
theorem bd6_4_2 : own_dec prog_32_method_2_code bl6_4_2 = true := by decide +kernel
def bl6_9_2 : List (Nat × Instr × Nat) := [(9, .aload_n 0, 1), (10, .aload_n 2, 1)]
theorem bd6_9_2 : own_dec prog_32_method_2_code bl6_9_2 = true := by decide +kernel
def bl6_14_2 : List (Nat × Instr × Nat) := [(14, .aload_n 0, 1), (15, .aload_n 3, 1)]
theorem bd6_14_2 : own_dec prog_32_method_2_code bl6_14_2 = true := by decide +kernel

def Q6r (Z : State) (a1 : Addr) (p2 : Int32) (a3 : Addr) (a4 : Addr) (h0 : Heap) (n0 : Nat) (v : Option Value) (h : Heap) (L : List Loc) : Prop := v = none ∧ Fr n0 L ∧ Keep h0 h [a1] ∧ Exa Z h a1 "com/example/vendsettle/vendsettle/Processor$Status" ∧ Fld Z h a1 "com/example/vendsettle/vendsettle/Processor$Status" "errorCode" "I" (.int p2) ∧ Fld Z h a1 "com/example/vendsettle/vendsettle/Processor$Status" "statusMessage" "Ljava/lang/String;" (.ref a3) ∧ Fld Z h a1 "com/example/vendsettle/vendsettle/Processor$Status" "reason" "Lcom/example/vendsettle/vendsettle/Processor$Reason;" (.ref a4)
set_option maxRecDepth 65536 in
set_option maxHeartbeats 40000000 in
theorem rm6r (l : Launch) (Z : State) (a0 : Array Value) (hw : ∀ d ∈ tables_1, d.before a0 Z = true) (ws : List Jvm.Cond) (a1 : Addr) (p2 : Int32) (a3 : Addr) (a4 : Addr) (h0 : Heap) (n0 : Nat) (Z0 : n0 ≤ h0.size) (E_a1 : Exa Z h0 a1 "com/example/vendsettle/vendsettle/Processor$Status") (F_a1_errorCode : Fld Z h0 a1 "com/example/vendsettle/vendsettle/Processor$Status" "errorCode" "I" (.int (0 : Int32))) (F_a1_statusMessage : Fld Z h0 a1 "com/example/vendsettle/vendsettle/Processor$Status" "statusMessage" "Ljava/lang/String;" .null) (F_a1_reason : Fld Z h0 a1 "com/example/vendsettle/vendsettle/Processor$Status" "reason" "Lcom/example/vendsettle/vendsettle/Processor$Reason;" .null) (g_a1 : n0 ≤ a1) :
    MetFree l (⟨"com/example/vendsettle/vendsettle/Processor$Status", "<init>", "(ILjava/lang/String;Lcom/example/vendsettle/vendsettle/Processor$Reason;)V"⟩ : MethodName) (head1 (Jvm.Cond.code (⟨"com/example/vendsettle/vendsettle/Processor$Status", "<init>", "(ILjava/lang/String;Lcom/example/vendsettle/vendsettle/Processor$Reason;)V"⟩ : MethodName) prog_32_method_2_code 4 none :: ws) ({ frames := 2, cells := 0, slots := 0, locals := 24 } : Room)) (fun a U => a = #[(.ref a1), (.int p2), (.ref a3), (.ref a4)] ∧ Z.Warmed39 U.vm ∧ U.heap = h0) (fun _ _ _ _ _ => True) (fun _ U o U' => ∃ v L, o = .returned v ∧ Q6r Z a1 p2 a3 a4 h0 n0 v U'.heap L ∧ FrameEnd U o U' L ({ frames := 2, cells := 0, slots := 0, locals := 24 } : Room).cells ({ frames := 2, cells := 0, slots := 0, locals := 24 } : Room).slots) := by
  refine MetFree.of_bodySF (plainFor_of_name pn_6) hisR ?_
  intro p e s m args below meth c s₁ Bd hml0 hP hK
  obtain ⟨rfl, hZ, hh⟩ := hP
  have hx := Bd.exec
  have hby := Bd.bytes
  have hml : c.maxLocals = 4 := hml0
  have hown : s.vm.findClass "com/example/vendsettle/vendsettle/Processor$Status" = some m.cls := findClass_of_methodNamed Bd.named
  have hnm := (name_of_methodNamed Bd.named Bd.method).1
  have X0 : Stand p l e ({ frames := 2, cells := 0, slots := 0, locals := 24 } : Room) s m #[(.ref a1), (.int p2), (.ref a3), (.ref a4)] below meth c s₁ [] 0 0 := Stand.of_body Bd
  have e0 : s₁.heap = h0 := by rw [← hh, Bd.state]; rfl
  have N0 := Fr.nil n0
  have pre0 : ∀ t, Steps p.tables e below (s₁.setTop (mkF m 0 #[.val (.ref a1), .val (.int p2), .val (.ref a3), .val (.ref a4)] [])) t → Steps p.tables e below (s₁.setTop (entryFrame m #[(.ref a1), (.int p2), (.ref a3), (.ref a4)] 4)) t := fun t k => castTop (ef_6 m a1 p2 a3 a4) k
  obtain ⟨_, T1, Lc1, X1, hQ1, st1⟩ := own_callI X0 hx hZ (y := (⟨"java/lang/Record", "<init>", "()V"⟩ : MethodName)) rfl hown (hw _ (List.mem_of_getElem? (i := 39) rfl)) (hw _ (List.mem_of_getElem? (i := 40) rfl)) (hw _ (List.mem_of_getElem? (i := 42) rfl)) (hw _ (List.mem_of_getElem? (i := 43) rfl)) (by decide) (W := 0) (a := a1) (argsL := []) (rest := []) (rm7 l Z a0 hw [] a1 h0 n0 Z0 ) (by decide) (by decide) (c' := 0) (s' := 0) rfl rfl (by decide) (by decide) e0 (g := (mkF m 1 #[.val (.ref a1), .val (.int p2), .val (.ref a3), .val (.ref a4)] [(.ref a1)])) rfl (by rw [hml]; rfl) (lenOf pd_6_3 rfl) rfl (by show 2 * 0 + _ ≤ _; exact Nat.le_of_eq rfl) (hb hby d6_1)
  obtain ⟨rfl, N1q, e1⟩ := hQ1
  have N1 := Fr.app N0 N1q
  obtain ⟨T2, h2, X2, e2, W2, st2⟩ := putF X1 hx hZ hown (host := "") (Or.inl (hw _ (List.mem_of_getElem? (i := 45) rfl))) Via.refl e1 F_a1_errorCode E_a1 (Or.inr ⟨(hw _ (List.mem_of_getElem? (i := 46) rfl)), rfl, hnm⟩) (hw _ (List.mem_of_getElem? (i := 34) rfl)) (ty := .int) (by decide) rfl rfl (g := (mkF m 6 #[.val (.ref a1), .val (.int p2), .val (.ref a3), .val (.ref a4)] [(.int p2), (.ref a1)])) rfl rfl (hb hby d6_6)
  have Fw2 : Fld Z h2 a1 "com/example/vendsettle/vendsettle/Processor$Status" "errorCode" "I" (.int p2) := F_a1_errorCode.same W2
  have zs3 : n0 ≤ h2.size := Nat.le_trans Z0 (Keep.of_wr W2).1
  have kp4 : Keep h0 h2 [a1] := (Keep.refl h0 [a1]).wr W2 (Or.inl (List.mem_of_getElem? (i := 0) rfl))
  have N2 := Fr.snoc X2 N1 g_a1
  have fa5 : Fld Z h2 a1 "com/example/vendsettle/vendsettle/Processor$Status" "statusMessage" "Ljava/lang/String;" .null := (F_a1_statusMessage.other W2 (Or.inr (slot_ne (Or.inr (hw _ (List.mem_of_getElem? (i := 48) rfl))) (Or.inr (hw _ (List.mem_of_getElem? (i := 46) rfl))) (by decide) (t := (.object "java/lang/String")) (t' := .int) (by decide) (by decide))))
  have fa6 : Exa Z h2 a1 "com/example/vendsettle/vendsettle/Processor$Status" := (E_a1.wr W2)
  obtain ⟨T7, h7, X7, e7, W7, st7⟩ := putF X2 hx hZ hown (host := "") (Or.inl (hw _ (List.mem_of_getElem? (i := 47) rfl))) Via.refl e2 fa5 fa6 (Or.inr ⟨(hw _ (List.mem_of_getElem? (i := 48) rfl)), rfl, hnm⟩) (hw _ (List.mem_of_getElem? (i := 34) rfl)) (ty := (.object "java/lang/String")) (by decide) rfl rfl (g := (mkF m 11 #[.val (.ref a1), .val (.int p2), .val (.ref a3), .val (.ref a4)] [(.ref a3), (.ref a1)])) rfl rfl (hb hby d6_11)
  have Fw7 : Fld Z h7 a1 "com/example/vendsettle/vendsettle/Processor$Status" "statusMessage" "Ljava/lang/String;" (.ref a3) := fa5.same W7
  have zs8 : n0 ≤ h7.size := Nat.le_trans zs3 (Keep.of_wr W7).1
  have kp9 : Keep h0 h7 [a1] := kp4.wr W7 (Or.inl (List.mem_of_getElem? (i := 0) rfl))
  have N7 := Fr.snoc X7 N2 g_a1
  have fa10 : Fld Z h7 a1 "com/example/vendsettle/vendsettle/Processor$Status" "reason" "Lcom/example/vendsettle/vendsettle/Processor$Reason;" .null := ((F_a1_reason.other W2 (Or.inr (slot_ne (Or.inr (hw _ (List.mem_of_getElem? (i := 50) rfl))) (Or.inr (hw _ (List.mem_of_getElem? (i := 46) rfl))) (by decide) (t := (.object "com/example/vendsettle/vendsettle/Processor$Reason")) (t' := .int) (by decide) (by decide)))).other W7 (Or.inr (slot_ne (Or.inr (hw _ (List.mem_of_getElem? (i := 50) rfl))) (Or.inr (hw _ (List.mem_of_getElem? (i := 48) rfl))) (by decide) (t := (.object "com/example/vendsettle/vendsettle/Processor$Reason")) (t' := (.object "java/lang/String")) (by decide) (by decide))))
  have fa11 : Exa Z h7 a1 "com/example/vendsettle/vendsettle/Processor$Status" := (fa6.wr W7)
  obtain ⟨T12, h12, X12, e12, W12, st12⟩ := putF X7 hx hZ hown (host := "") (Or.inl (hw _ (List.mem_of_getElem? (i := 49) rfl))) Via.refl e7 fa10 fa11 (Or.inr ⟨(hw _ (List.mem_of_getElem? (i := 50) rfl)), rfl, hnm⟩) (hw _ (List.mem_of_getElem? (i := 34) rfl)) (ty := (.object "com/example/vendsettle/vendsettle/Processor$Reason")) (by decide) rfl rfl (g := (mkF m 16 #[.val (.ref a1), .val (.int p2), .val (.ref a3), .val (.ref a4)] [(.ref a4), (.ref a1)])) rfl rfl (hb hby d6_16)
  have Fw12 : Fld Z h12 a1 "com/example/vendsettle/vendsettle/Processor$Status" "reason" "Lcom/example/vendsettle/vendsettle/Processor$Reason;" (.ref a4) := fa10.same W12
  have zs13 : n0 ≤ h12.size := Nat.le_trans zs8 (Keep.of_wr W12).1
  have kp14 : Keep h0 h12 [a1] := kp9.wr W12 (Or.inl (List.mem_of_getElem? (i := 0) rfl))
  have N12 := Fr.snoc X12 N7 g_a1
  obtain ⟨fs, hr, hrun, hended, hW, hsame⟩ := X12.leave (v := none) (fun _ => rfl)
  refine ⟨_, _, pre0 _ ?_, hrun, hended, _, _, rfl, ?_, ⟨_, rfl⟩, hW, hsame.mono (by decide) (by decide)⟩
  · show Steps p.tables e below (s₁.setTop (mkF m 0 #[.val (.ref a1), .val (.int p2), .val (.ref a3), .val (.ref a4)] [])) _
    refine own_blk X0 hx bl6_0_1 (own_hb hby bd6_0_1) (pc' := 1) (Ls' := #[.val (.ref a1), .val (.int p2), .val (.ref a3), .val (.ref a4)]) (st' := [(.ref a1)]) rfl ?_
    refine st1 _ ?_
    show Steps p.tables e below (T1.setTop (mkF m 4 #[.val (.ref a1), .val (.int p2), .val (.ref a3), .val (.ref a4)] [])) _
    refine own_blk X1 hx bl6_4_2 (own_hb hby bd6_4_2) (pc' := 6) (Ls' := #[.val (.ref a1), .val (.int p2), .val (.ref a3), .val (.ref a4)]) (st' := [(.int p2), (.ref a1)]) rfl ?_
    refine st2 _ ?_
    show Steps p.tables e below (T2.setTop (mkF m 9 #[.val (.ref a1), .val (.int p2), .val (.ref a3), .val (.ref a4)] [])) _
    refine own_blk X2 hx bl6_9_2 (own_hb hby bd6_9_2) (pc' := 11) (Ls' := #[.val (.ref a1), .val (.int p2), .val (.ref a3), .val (.ref a4)]) (st' := [(.ref a3), (.ref a1)]) rfl ?_
    refine st7 _ ?_
    show Steps p.tables e below (T7.setTop (mkF m 14 #[.val (.ref a1), .val (.int p2), .val (.ref a3), .val (.ref a4)] [])) _
    refine own_blk X7 hx bl6_14_2 (own_hb hby bd6_14_2) (pc' := 16) (Ls' := #[.val (.ref a1), .val (.int p2), .val (.ref a3), .val (.ref a4)]) (st' := [(.ref a4), (.ref a1)]) rfl ?_
    refine st12 _ ?_
    show Steps p.tables e below (T12.setTop (mkF m 19 #[.val (.ref a1), .val (.int p2), .val (.ref a3), .val (.ref a4)] [])) _
    exact X12.returnOut hx Bd.returns (hb hby d6_19) hr
  · show Q6r Z a1 p2 a3 a4 h0 n0 _ T12.heap _
    rw [e12]
    have fa15 : Exa Z h12 a1 "com/example/vendsettle/vendsettle/Processor$Status" := (fa11.wr W12)
    have fa16 : Fld Z h12 a1 "com/example/vendsettle/vendsettle/Processor$Status" "errorCode" "I" (.int p2) := ((Fw2.other W7 (Or.inr (slot_ne (Or.inr (hw _ (List.mem_of_getElem? (i := 46) rfl))) (Or.inr (hw _ (List.mem_of_getElem? (i := 48) rfl))) (by decide) (t := .int) (t' := (.object "java/lang/String")) (by decide) (by decide)))).other W12 (Or.inr (slot_ne (Or.inr (hw _ (List.mem_of_getElem? (i := 46) rfl))) (Or.inr (hw _ (List.mem_of_getElem? (i := 50) rfl))) (by decide) (t := .int) (t' := (.object "com/example/vendsettle/vendsettle/Processor$Reason")) (by decide) (by decide))))
    have lf17 := fa16
    have fa18 : Fld Z h12 a1 "com/example/vendsettle/vendsettle/Processor$Status" "statusMessage" "Ljava/lang/String;" (.ref a3) := (Fw7.other W12 (Or.inr (slot_ne (Or.inr (hw _ (List.mem_of_getElem? (i := 48) rfl))) (Or.inr (hw _ (List.mem_of_getElem? (i := 50) rfl))) (by decide) (t := (.object "java/lang/String")) (t' := (.object "com/example/vendsettle/vendsettle/Processor$Reason")) (by decide) (by decide))))
    have lf19 := fa18
    have lf20 := Fw12
    exact ⟨rfl, N12, kp14, fa15, lf17, lf19, lf20⟩
theorem ef_6n (m : MethodId) (x0 : Addr) (x1 : Int32) (x2 : Addr) : entryFrame m #[(.ref x0), (.int x1), (.ref x2), .null] 4 = mkF m 0 #[.val (.ref x0), .val (.int x1), .val (.ref x2), .val .null] [] := by first | (simp [entryFrame, mkF, argsToLocals, Value.category]; done) | rfl

def Q6z (Z : State) (a1 : Addr) (p2 : Int32) (a3 : Addr) (h0 : Heap) (n0 : Nat) (v : Option Value) (h : Heap) (L : List Loc) : Prop := v = none ∧ Fr n0 L ∧ Keep h0 h [a1] ∧ Exa Z h a1 "com/example/vendsettle/vendsettle/Processor$Status" ∧ Fld Z h a1 "com/example/vendsettle/vendsettle/Processor$Status" "errorCode" "I" (.int p2) ∧ Fld Z h a1 "com/example/vendsettle/vendsettle/Processor$Status" "statusMessage" "Ljava/lang/String;" (.ref a3) ∧ Fld Z h a1 "com/example/vendsettle/vendsettle/Processor$Status" "reason" "Lcom/example/vendsettle/vendsettle/Processor$Reason;" .null
set_option maxRecDepth 65536 in
set_option maxHeartbeats 40000000 in
theorem rm6z (l : Launch) (Z : State) (a0 : Array Value) (hw : ∀ d ∈ tables_1, d.before a0 Z = true) (ws : List Jvm.Cond) (a1 : Addr) (p2 : Int32) (a3 : Addr) (h0 : Heap) (n0 : Nat) (Z0 : n0 ≤ h0.size) (E_a1 : Exa Z h0 a1 "com/example/vendsettle/vendsettle/Processor$Status") (F_a1_errorCode : Fld Z h0 a1 "com/example/vendsettle/vendsettle/Processor$Status" "errorCode" "I" (.int (0 : Int32))) (F_a1_statusMessage : Fld Z h0 a1 "com/example/vendsettle/vendsettle/Processor$Status" "statusMessage" "Ljava/lang/String;" .null) (F_a1_reason : Fld Z h0 a1 "com/example/vendsettle/vendsettle/Processor$Status" "reason" "Lcom/example/vendsettle/vendsettle/Processor$Reason;" .null) (g_a1 : n0 ≤ a1) :
    MetFree l (⟨"com/example/vendsettle/vendsettle/Processor$Status", "<init>", "(ILjava/lang/String;Lcom/example/vendsettle/vendsettle/Processor$Reason;)V"⟩ : MethodName) (head1 (Jvm.Cond.code (⟨"com/example/vendsettle/vendsettle/Processor$Status", "<init>", "(ILjava/lang/String;Lcom/example/vendsettle/vendsettle/Processor$Reason;)V"⟩ : MethodName) prog_32_method_2_code 4 none :: ws) ({ frames := 2, cells := 0, slots := 0, locals := 24 } : Room)) (fun a U => a = #[(.ref a1), (.int p2), (.ref a3), .null] ∧ Z.Warmed39 U.vm ∧ U.heap = h0) (fun _ _ _ _ _ => True) (fun _ U o U' => ∃ v L, o = .returned v ∧ Q6z Z a1 p2 a3 h0 n0 v U'.heap L ∧ FrameEnd U o U' L ({ frames := 2, cells := 0, slots := 0, locals := 24 } : Room).cells ({ frames := 2, cells := 0, slots := 0, locals := 24 } : Room).slots) := by
  refine MetFree.of_bodySF (plainFor_of_name pn_6) hisR ?_
  intro p e s m args below meth c s₁ Bd hml0 hP hK
  obtain ⟨rfl, hZ, hh⟩ := hP
  have hx := Bd.exec
  have hby := Bd.bytes
  have hml : c.maxLocals = 4 := hml0
  have hown : s.vm.findClass "com/example/vendsettle/vendsettle/Processor$Status" = some m.cls := findClass_of_methodNamed Bd.named
  have hnm := (name_of_methodNamed Bd.named Bd.method).1
  have X0 : Stand p l e ({ frames := 2, cells := 0, slots := 0, locals := 24 } : Room) s m #[(.ref a1), (.int p2), (.ref a3), .null] below meth c s₁ [] 0 0 := Stand.of_body Bd
  have e0 : s₁.heap = h0 := by rw [← hh, Bd.state]; rfl
  have N0 := Fr.nil n0
  have pre0 : ∀ t, Steps p.tables e below (s₁.setTop (mkF m 0 #[.val (.ref a1), .val (.int p2), .val (.ref a3), .val .null] [])) t → Steps p.tables e below (s₁.setTop (entryFrame m #[(.ref a1), (.int p2), (.ref a3), .null] 4)) t := fun t k => castTop (ef_6n m a1 p2 a3) k
  obtain ⟨_, T1, Lc1, X1, hQ1, st1⟩ := own_callI X0 hx hZ (y := (⟨"java/lang/Record", "<init>", "()V"⟩ : MethodName)) rfl hown (hw _ (List.mem_of_getElem? (i := 39) rfl)) (hw _ (List.mem_of_getElem? (i := 40) rfl)) (hw _ (List.mem_of_getElem? (i := 42) rfl)) (hw _ (List.mem_of_getElem? (i := 43) rfl)) (by decide) (W := 0) (a := a1) (argsL := []) (rest := []) (rm7 l Z a0 hw [] a1 h0 n0 Z0 ) (by decide) (by decide) (c' := 0) (s' := 0) rfl rfl (by decide) (by decide) e0 (g := (mkF m 1 #[.val (.ref a1), .val (.int p2), .val (.ref a3), .val .null] [(.ref a1)])) rfl (by rw [hml]; rfl) (lenOf pd_6_3 rfl) rfl (by show 2 * 0 + _ ≤ _; exact Nat.le_of_eq rfl) (hb hby d6_1)
  obtain ⟨rfl, N1q, e1⟩ := hQ1
  have N1 := Fr.app N0 N1q
  obtain ⟨T2, h2, X2, e2, W2, st2⟩ := putF X1 hx hZ hown (host := "") (Or.inl (hw _ (List.mem_of_getElem? (i := 45) rfl))) Via.refl e1 F_a1_errorCode E_a1 (Or.inr ⟨(hw _ (List.mem_of_getElem? (i := 46) rfl)), rfl, hnm⟩) (hw _ (List.mem_of_getElem? (i := 34) rfl)) (ty := .int) (by decide) rfl rfl (g := (mkF m 6 #[.val (.ref a1), .val (.int p2), .val (.ref a3), .val .null] [(.int p2), (.ref a1)])) rfl rfl (hb hby d6_6)
  have Fw2 : Fld Z h2 a1 "com/example/vendsettle/vendsettle/Processor$Status" "errorCode" "I" (.int p2) := F_a1_errorCode.same W2
  have zs3 : n0 ≤ h2.size := Nat.le_trans Z0 (Keep.of_wr W2).1
  have kp4 : Keep h0 h2 [a1] := (Keep.refl h0 [a1]).wr W2 (Or.inl (List.mem_of_getElem? (i := 0) rfl))
  have N2 := Fr.snoc X2 N1 g_a1
  have fa5 : Fld Z h2 a1 "com/example/vendsettle/vendsettle/Processor$Status" "statusMessage" "Ljava/lang/String;" .null := (F_a1_statusMessage.other W2 (Or.inr (slot_ne (Or.inr (hw _ (List.mem_of_getElem? (i := 48) rfl))) (Or.inr (hw _ (List.mem_of_getElem? (i := 46) rfl))) (by decide) (t := (.object "java/lang/String")) (t' := .int) (by decide) (by decide))))
  have fa6 : Exa Z h2 a1 "com/example/vendsettle/vendsettle/Processor$Status" := (E_a1.wr W2)
  obtain ⟨T7, h7, X7, e7, W7, st7⟩ := putF X2 hx hZ hown (host := "") (Or.inl (hw _ (List.mem_of_getElem? (i := 47) rfl))) Via.refl e2 fa5 fa6 (Or.inr ⟨(hw _ (List.mem_of_getElem? (i := 48) rfl)), rfl, hnm⟩) (hw _ (List.mem_of_getElem? (i := 34) rfl)) (ty := (.object "java/lang/String")) (by decide) rfl rfl (g := (mkF m 11 #[.val (.ref a1), .val (.int p2), .val (.ref a3), .val .null] [(.ref a3), (.ref a1)])) rfl rfl (hb hby d6_11)
  have Fw7 : Fld Z h7 a1 "com/example/vendsettle/vendsettle/Processor$Status" "statusMessage" "Ljava/lang/String;" (.ref a3) := fa5.same W7
  have zs8 : n0 ≤ h7.size := Nat.le_trans zs3 (Keep.of_wr W7).1
  have kp9 : Keep h0 h7 [a1] := kp4.wr W7 (Or.inl (List.mem_of_getElem? (i := 0) rfl))
  have N7 := Fr.snoc X7 N2 g_a1
  have fa10 : Fld Z h7 a1 "com/example/vendsettle/vendsettle/Processor$Status" "reason" "Lcom/example/vendsettle/vendsettle/Processor$Reason;" .null := ((F_a1_reason.other W2 (Or.inr (slot_ne (Or.inr (hw _ (List.mem_of_getElem? (i := 50) rfl))) (Or.inr (hw _ (List.mem_of_getElem? (i := 46) rfl))) (by decide) (t := (.object "com/example/vendsettle/vendsettle/Processor$Reason")) (t' := .int) (by decide) (by decide)))).other W7 (Or.inr (slot_ne (Or.inr (hw _ (List.mem_of_getElem? (i := 50) rfl))) (Or.inr (hw _ (List.mem_of_getElem? (i := 48) rfl))) (by decide) (t := (.object "com/example/vendsettle/vendsettle/Processor$Reason")) (t' := (.object "java/lang/String")) (by decide) (by decide))))
  have fa11 : Exa Z h7 a1 "com/example/vendsettle/vendsettle/Processor$Status" := (fa6.wr W7)
  obtain ⟨T12, h12, X12, e12, W12, st12⟩ := putF X7 hx hZ hown (host := "") (Or.inl (hw _ (List.mem_of_getElem? (i := 49) rfl))) Via.refl e7 fa10 fa11 (Or.inr ⟨(hw _ (List.mem_of_getElem? (i := 50) rfl)), rfl, hnm⟩) (hw _ (List.mem_of_getElem? (i := 34) rfl)) (ty := (.object "com/example/vendsettle/vendsettle/Processor$Reason")) (by decide) rfl rfl (g := (mkF m 16 #[.val (.ref a1), .val (.int p2), .val (.ref a3), .val .null] [.null, (.ref a1)])) rfl rfl (hb hby d6_16)
  have Fw12 : Fld Z h12 a1 "com/example/vendsettle/vendsettle/Processor$Status" "reason" "Lcom/example/vendsettle/vendsettle/Processor$Reason;" .null := fa10.same W12
  have zs13 : n0 ≤ h12.size := Nat.le_trans zs8 (Keep.of_wr W12).1
  have kp14 : Keep h0 h12 [a1] := kp9.wr W12 (Or.inl (List.mem_of_getElem? (i := 0) rfl))
  have N12 := Fr.snoc X12 N7 g_a1
  obtain ⟨fs, hr, hrun, hended, hW, hsame⟩ := X12.leave (v := none) (fun _ => rfl)
  refine ⟨_, _, pre0 _ ?_, hrun, hended, _, _, rfl, ?_, ⟨_, rfl⟩, hW, hsame.mono (by decide) (by decide)⟩
  · show Steps p.tables e below (s₁.setTop (mkF m 0 #[.val (.ref a1), .val (.int p2), .val (.ref a3), .val .null] [])) _
    refine own_blk X0 hx bl6_0_1 (own_hb hby bd6_0_1) (pc' := 1) (Ls' := #[.val (.ref a1), .val (.int p2), .val (.ref a3), .val .null]) (st' := [(.ref a1)]) rfl ?_
    refine st1 _ ?_
    show Steps p.tables e below (T1.setTop (mkF m 4 #[.val (.ref a1), .val (.int p2), .val (.ref a3), .val .null] [])) _
    refine own_blk X1 hx bl6_4_2 (own_hb hby bd6_4_2) (pc' := 6) (Ls' := #[.val (.ref a1), .val (.int p2), .val (.ref a3), .val .null]) (st' := [(.int p2), (.ref a1)]) rfl ?_
    refine st2 _ ?_
    show Steps p.tables e below (T2.setTop (mkF m 9 #[.val (.ref a1), .val (.int p2), .val (.ref a3), .val .null] [])) _
    refine own_blk X2 hx bl6_9_2 (own_hb hby bd6_9_2) (pc' := 11) (Ls' := #[.val (.ref a1), .val (.int p2), .val (.ref a3), .val .null]) (st' := [(.ref a3), (.ref a1)]) rfl ?_
    refine st7 _ ?_
    show Steps p.tables e below (T7.setTop (mkF m 14 #[.val (.ref a1), .val (.int p2), .val (.ref a3), .val .null] [])) _
    refine own_blk X7 hx bl6_14_2 (own_hb hby bd6_14_2) (pc' := 16) (Ls' := #[.val (.ref a1), .val (.int p2), .val (.ref a3), .val .null]) (st' := [.null, (.ref a1)]) rfl ?_
    refine st12 _ ?_
    show Steps p.tables e below (T12.setTop (mkF m 19 #[.val (.ref a1), .val (.int p2), .val (.ref a3), .val .null] [])) _
    exact X12.returnOut hx Bd.returns (hb hby d6_19) hr
  · show Q6z Z a1 p2 a3 h0 n0 _ T12.heap _
    rw [e12]
    have fa15 : Exa Z h12 a1 "com/example/vendsettle/vendsettle/Processor$Status" := (fa11.wr W12)
    have fa16 : Fld Z h12 a1 "com/example/vendsettle/vendsettle/Processor$Status" "errorCode" "I" (.int p2) := ((Fw2.other W7 (Or.inr (slot_ne (Or.inr (hw _ (List.mem_of_getElem? (i := 46) rfl))) (Or.inr (hw _ (List.mem_of_getElem? (i := 48) rfl))) (by decide) (t := .int) (t' := (.object "java/lang/String")) (by decide) (by decide)))).other W12 (Or.inr (slot_ne (Or.inr (hw _ (List.mem_of_getElem? (i := 46) rfl))) (Or.inr (hw _ (List.mem_of_getElem? (i := 50) rfl))) (by decide) (t := .int) (t' := (.object "com/example/vendsettle/vendsettle/Processor$Reason")) (by decide) (by decide))))
    have lf17 := fa16
    have fa18 : Fld Z h12 a1 "com/example/vendsettle/vendsettle/Processor$Status" "statusMessage" "Ljava/lang/String;" (.ref a3) := (Fw7.other W12 (Or.inr (slot_ne (Or.inr (hw _ (List.mem_of_getElem? (i := 48) rfl))) (Or.inr (hw _ (List.mem_of_getElem? (i := 50) rfl))) (by decide) (t := (.object "java/lang/String")) (t' := (.object "com/example/vendsettle/vendsettle/Processor$Reason")) (by decide) (by decide))))
    have lf19 := fa18
    have lf20 := Fw12
    exact ⟨rfl, N12, kp14, fa15, lf17, lf19, lf20⟩
theorem d8_0 : decode prog_32_method_6_code 0 = .ok (.aload_n 0, 1) := by decide +kernel
theorem d8_1 : decode prog_32_method_6_code 1 = .ok (.getfield 7, 3) := by decide +kernel
theorem d8_4 : decode prog_32_method_6_code 4 = .ok (.ifCond .ne 7, 3) := by decide +kernel
theorem d8_7 : decode prog_32_method_6_code 7 = .ok (.iconst 1, 1) := by decide +kernel
theorem d8_8 : decode prog_32_method_6_code 8 = .ok (.goto 4, 3) := by decide +kernel
theorem d8_11 : decode prog_32_method_6_code 11 = .ok (.iconst 0, 1) := by decide +kernel
theorem d8_12 : decode prog_32_method_6_code 12 = .ok (.ireturn, 1) := by decide +kernel
theorem pn_8 : plainName "com/example/vendsettle/vendsettle/Processor$Status" = true := by first | (simp [plainName, overriddenIn]; done) | decide +kernel
theorem ef_8 (m : MethodId) (x0 : Addr) : entryFrame m #[(.ref x0)] 1 = mkF m 0 #[.val (.ref x0)] [] := by first | (simp [entryFrame, mkF, argsToLocals, Value.category]; done) | rfl
def bl8_0_1 : List (Nat × Instr × Nat) := [(0, .aload_n 0, 1)]
theorem bd8_0_1 : own_dec prog_32_method_6_code bl8_0_1 = true := by decide +kernel
def bl8_7_2 : List (Nat × Instr × Nat) := [(7, .iconst 1, 1), (8, .goto 4, 3)]
theorem bd8_7_2 : own_dec prog_32_method_6_code bl8_7_2 = true := by decide +kernel
def bl8_11_1 : List (Nat × Instr × Nat) := [(11, .iconst 0, 1)]
theorem bd8_11_1 : own_dec prog_32_method_6_code bl8_11_1 = true := by decide +kernel

def f8 (v_e : Int32) : Int32 := (if v_e = (0 : Int32) then (1 : Int32) else (0 : Int32))
def Q8 (Z : State) (a1 : Addr) (v_e : Int32) (h0 : Heap) (n0 : Nat) (v : Option Value) (h : Heap) (L : List Loc) : Prop := v = some (.int (f8 v_e)) ∧ Fr n0 L ∧ h = h0
set_option maxRecDepth 65536 in
set_option maxHeartbeats 40000000 in
theorem rm8 (l : Launch) (Z : State) (a0 : Array Value) (hw : ∀ d ∈ tables_1, d.before a0 Z = true) (ws : List Jvm.Cond) (a1 : Addr) (v_e : Int32) (h0 : Heap) (n0 : Nat) (Z0 : n0 ≤ h0.size) (E_a1 : Exa Z h0 a1 "com/example/vendsettle/vendsettle/Processor$Status") (F_a1_errorCode : Fld Z h0 a1 "com/example/vendsettle/vendsettle/Processor$Status" "errorCode" "I" (.int v_e)) :
    MetFree l (⟨"com/example/vendsettle/vendsettle/Processor$Status", "isSuccess", "()Z"⟩ : MethodName) (head1 (Jvm.Cond.code (⟨"com/example/vendsettle/vendsettle/Processor$Status", "isSuccess", "()Z"⟩ : MethodName) prog_32_method_6_code 1 (some .boolean) :: ws) ({ frames := 0, cells := 0, slots := 0, locals := 0 } : Room)) (fun a U => a = #[(.ref a1)] ∧ Z.Warmed39 U.vm ∧ U.heap = h0) (fun _ _ _ _ _ => True) (fun _ U o U' => ∃ v L, o = .returned v ∧ Q8 Z a1 v_e h0 n0 v U'.heap L ∧ FrameEnd U o U' L ({ frames := 0, cells := 0, slots := 0, locals := 0 } : Room).cells ({ frames := 0, cells := 0, slots := 0, locals := 0 } : Room).slots) := by
  refine MetFree.of_bodySF (plainFor_of_name pn_8) hisR ?_
  intro p e s m args below meth c s₁ Bd hml0 hP hK
  obtain ⟨rfl, hZ, hh⟩ := hP
  have hx := Bd.exec
  have hby := Bd.bytes
  have hml : c.maxLocals = 1 := hml0
  have hown : s.vm.findClass "com/example/vendsettle/vendsettle/Processor$Status" = some m.cls := findClass_of_methodNamed Bd.named
  have hnm := (name_of_methodNamed Bd.named Bd.method).1
  have X0 : Stand p l e ({ frames := 0, cells := 0, slots := 0, locals := 0 } : Room) s m #[(.ref a1)] below meth c s₁ [] 0 0 := Stand.of_body Bd
  have e0 : s₁.heap = h0 := by rw [← hh, Bd.state]; rfl
  have N0 := Fr.nil n0
  have pre0 : ∀ t, Steps p.tables e below (s₁.setTop (mkF m 0 #[.val (.ref a1)] [])) t → Steps p.tables e below (s₁.setTop (entryFrame m #[(.ref a1)] 1)) t := fun t k => castTop (ef_8 m a1) k
  obtain ⟨T1, X1, e1, st1⟩ := getF X0 hx hZ hown (host := "") (Or.inl (hw _ (List.mem_of_getElem? (i := 45) rfl))) Via.refl e0 F_a1_errorCode (g := (mkF m 1 #[.val (.ref a1)] [(.ref a1)])) rfl rfl (hb hby d8_1)
  have pre2 : ∀ t, Steps p.tables e below (T1.setTop (mkF m 4 #[.val (.ref a1)] [(.int v_e)])) t → Steps p.tables e below (s₁.setTop (entryFrame m #[(.ref a1)] 1)) t := fun t kt => by
    refine pre0 _ ?_
    show Steps p.tables e below (s₁.setTop (mkF m 0 #[.val (.ref a1)] [])) _
    refine own_blk X0 hx bl8_0_1 (own_hb hby bd8_0_1) (pc' := 1) (Ls' := #[.val (.ref a1)]) (st' := [(.ref a1)]) rfl ?_
    refine st1 _ ?_
    exact kt
  by_cases hc3 : v_e = (0 : Int32)
  · obtain ⟨fs, hr, hrun, hended, hW, hsame⟩ := X1.leave (v := some (.int (1 : Int32))) (fun h => by rw [Bd.returns] at h; cases h)
    refine ⟨_, _, pre2 _ ?_, hrun, hended, _, _, rfl, ?_, ⟨_, rfl⟩, hW, hsame.mono (by decide) (by decide)⟩
    · show Steps p.tables e below (T1.setTop (mkF m 4 #[.val (.ref a1)] [(.int v_e)])) _
      refine XS.ifNo X1.here hx rfl (hb hby d8_4) rfl ((if0 _ _).trans (teq hc3).2) ?_
      show Steps p.tables e below (T1.setTop (mkF m 7 #[.val (.ref a1)] [])) _
      refine own_blk X1 hx bl8_7_2 (own_hb hby bd8_7_2) (pc' := 12) (Ls' := #[.val (.ref a1)]) (st' := [(.int (1 : Int32))]) rfl ?_
      exact retN X1 hx (t := .boolean) Bd.returns (by simp) (hb hby d8_12) hr
    · show Q8 Z a1 v_e h0 n0 _ T1.heap _
      rw [e1]
      exact ⟨by rw [f8, if_pos hc3], N0, rfl⟩
  · obtain ⟨fs, hr, hrun, hended, hW, hsame⟩ := X1.leave (v := some (.int (0 : Int32))) (fun h => by rw [Bd.returns] at h; cases h)
    refine ⟨_, _, pre2 _ ?_, hrun, hended, _, _, rfl, ?_, ⟨_, rfl⟩, hW, hsame.mono (by decide) (by decide)⟩
    · show Steps p.tables e below (T1.setTop (mkF m 4 #[.val (.ref a1)] [(.int v_e)])) _
      refine XS.ifYes X1.here hx rfl (pc0 := 4) (pc' := 11) rfl (hb hby d8_4) rfl ((if0 _ _).trans (feq hc3).2) (by decide) (by decide) ?_
      show Steps p.tables e below (T1.setTop (mkF m 11 #[.val (.ref a1)] [])) _
      refine own_blk X1 hx bl8_11_1 (own_hb hby bd8_11_1) (pc' := 12) (Ls' := #[.val (.ref a1)]) (st' := [(.int (0 : Int32))]) rfl ?_
      exact retN X1 hx (t := .boolean) Bd.returns (by simp) (hb hby d8_12) hr
    · show Q8 Z a1 v_e h0 n0 _ T1.heap _
      rw [e1]
      exact ⟨by rw [f8, if_neg hc3], N0, rfl⟩
theorem d5_0 : decode method_2_code 0 = .ok (.iload_n 0, 1) := by decide +kernel
theorem d5_1 : decode method_2_code 1 = .ok (.iconst 1, 1) := by decide +kernel
theorem d5_2 : decode method_2_code 2 = .ok (.if_icmp .ne 7, 3) := by decide +kernel
theorem d5_5 : decode method_2_code 5 = .ok (.getstatic 7, 3) := by decide +kernel
theorem d5_8 : decode method_2_code 8 = .ok (.areturn, 1) := by decide +kernel
theorem d5_9 : decode method_2_code 9 = .ok (.iload_n 0, 1) := by decide +kernel
theorem d5_10 : decode method_2_code 10 = .ok (.iconst 2, 1) := by decide +kernel
theorem d5_11 : decode method_2_code 11 = .ok (.if_icmp .ne 7, 3) := by decide +kernel
theorem d5_14 : decode method_2_code 14 = .ok (.getstatic 13, 3) := by decide +kernel
theorem d5_17 : decode method_2_code 17 = .ok (.areturn, 1) := by decide +kernel
theorem d5_18 : decode method_2_code 18 = .ok (.aconst_null, 1) := by decide +kernel
theorem d5_19 : decode method_2_code 19 = .ok (.areturn, 1) := by decide +kernel
theorem pn_5 : plainName "com/example/vendsettle/vendsettle/StatusIsSuccessPinLaw" = true := by first | (simp [plainName, overriddenIn]; done) | decide +kernel
theorem ef_5 (m : MethodId) (x0 : Int32) : entryFrame m #[(.int x0)] 1 = mkF m 0 #[.val (.int x0)] [] := by first | (simp [entryFrame, mkF, argsToLocals, Value.category]; done) | rfl
def bl5_0_2 : List (Nat × Instr × Nat) := [(0, .iload_n 0, 1), (1, .iconst 1, 1)]
theorem bd5_0_2 : own_dec method_2_code bl5_0_2 = true := by decide +kernel
def bl5_9_2 : List (Nat × Instr × Nat) := [(9, .iload_n 0, 1), (10, .iconst 2, 1)]
theorem bd5_9_2 : own_dec method_2_code bl5_9_2 = true := by decide +kernel
def bl5_18_1 : List (Nat × Instr × Nat) := [(18, .aconst_null, 1)]
theorem bd5_18_1 : own_dec method_2_code bl5_18_1 = true := by decide +kernel

def f5 (p1 : Int32) (w1 : Addr) (w2 : Addr) : Value := (if p1 = (1 : Int32) then (.ref w1) else (if p1 = (2 : Int32) then (.ref w2) else .null))
def Q5 (Z : State) (p1 : Int32) (w1 : Addr) (w2 : Addr) (h0 : Heap) (n0 : Nat) (v : Option Value) (h : Heap) (L : List Loc) : Prop := v = some (f5 p1 w1 w2) ∧ Fr n0 L ∧ h = h0
set_option maxRecDepth 65536 in
set_option maxHeartbeats 40000000 in
theorem rm5 (l : Launch) (Z : State) (a0 : Array Value) (hw : ∀ d ∈ tables_1, d.before a0 Z = true) (ws : List Jvm.Cond) (p1 : Int32) (w1 : Addr) (w2 : Addr) (h0 : Heap) (n0 : Nat) (Z0 : n0 ≤ h0.size) (S_ALREADY_COMPLETED : Sta Z h0 "com/example/vendsettle/vendsettle/Processor$Reason" "ALREADY_COMPLETED" "Lcom/example/vendsettle/vendsettle/Processor$Reason;" (.ref w1)) (S_NOT_FOUND : Sta Z h0 "com/example/vendsettle/vendsettle/Processor$Reason" "NOT_FOUND" "Lcom/example/vendsettle/vendsettle/Processor$Reason;" (.ref w2)) :
    MetFree l (⟨"com/example/vendsettle/vendsettle/StatusIsSuccessPinLaw", "reasonOf", "(I)Lcom/example/vendsettle/vendsettle/Processor$Reason;"⟩ : MethodName) (head1 (Jvm.Cond.code (⟨"com/example/vendsettle/vendsettle/StatusIsSuccessPinLaw", "reasonOf", "(I)Lcom/example/vendsettle/vendsettle/Processor$Reason;"⟩ : MethodName) method_2_code 1 (some (.object "com/example/vendsettle/vendsettle/Processor$Reason")) :: ws) ({ frames := 0, cells := 0, slots := 0, locals := 0 } : Room)) (fun a U => a = #[(.int p1)] ∧ Z.Warmed39 U.vm ∧ U.heap = h0) (fun _ _ _ _ _ => True) (fun _ U o U' => ∃ v L, o = .returned v ∧ Q5 Z p1 w1 w2 h0 n0 v U'.heap L ∧ FrameEnd U o U' L ({ frames := 0, cells := 0, slots := 0, locals := 0 } : Room).cells ({ frames := 0, cells := 0, slots := 0, locals := 0 } : Room).slots) := by
  refine MetFree.of_bodySF (plainFor_of_name pn_5) hisR ?_
  intro p e s m args below meth c s₁ Bd hml0 hP hK
  obtain ⟨rfl, hZ, hh⟩ := hP
  have hx := Bd.exec
  have hby := Bd.bytes
  have hml : c.maxLocals = 1 := hml0
  have hown : s.vm.findClass "com/example/vendsettle/vendsettle/StatusIsSuccessPinLaw" = some m.cls := findClass_of_methodNamed Bd.named
  have hnm := (name_of_methodNamed Bd.named Bd.method).1
  have X0 : Stand p l e ({ frames := 0, cells := 0, slots := 0, locals := 0 } : Room) s m #[(.int p1)] below meth c s₁ [] 0 0 := Stand.of_body Bd
  have e0 : s₁.heap = h0 := by rw [← hh, Bd.state]; rfl
  have N0 := Fr.nil n0
  have pre0 : ∀ t, Steps p.tables e below (s₁.setTop (mkF m 0 #[.val (.int p1)] [])) t → Steps p.tables e below (s₁.setTop (entryFrame m #[(.int p1)] 1)) t := fun t k => castTop (ef_5 m p1) k
  have pre1 : ∀ t, Steps p.tables e below (s₁.setTop (mkF m 2 #[.val (.int p1)] [(.int (1 : Int32)), (.int p1)])) t → Steps p.tables e below (s₁.setTop (entryFrame m #[(.int p1)] 1)) t := fun t kt => by
    refine pre0 _ ?_
    show Steps p.tables e below (s₁.setTop (mkF m 0 #[.val (.int p1)] [])) _
    refine own_blk X0 hx bl5_0_2 (own_hb hby bd5_0_2) (pc' := 2) (Ls' := #[.val (.int p1)]) (st' := [(.int (1 : Int32)), (.int p1)]) rfl ?_
    exact kt
  by_cases hc2 : p1 = (1 : Int32)
  · obtain ⟨T3, X3, e3, st3⟩ := getS2 X0 hx hZ hown (host := "") (Or.inl (hw _ (List.mem_of_getElem? (i := 30) rfl))) Via.refl e0 S_ALREADY_COMPLETED (g := (mkF m 5 #[.val (.int p1)] [])) rfl (hb hby d5_5)
    obtain ⟨fs, hr, hrun, hended, hW, hsame⟩ := X3.leave (v := some (.ref w1)) (fun h => by rw [Bd.returns] at h; cases h)
    refine ⟨_, _, pre1 _ ?_, hrun, hended, _, _, rfl, ?_, ⟨_, rfl⟩, hW, hsame.mono (by decide) (by decide)⟩
    · show Steps p.tables e below (s₁.setTop (mkF m 2 #[.val (.int p1)] [(.int (1 : Int32)), (.int p1)])) _
      refine XS.icmpNo X0.here hx rfl (hb hby d5_2) rfl (teq hc2).2 ?_
      show Steps p.tables e below (s₁.setTop (mkF m 5 #[.val (.int p1)] [])) _
      refine st3 _ ?_
      show Steps p.tables e below (T3.setTop (mkF m 8 #[.val (.int p1)] [(.ref w1)])) _
      jvm_step X3.here [X3.here.top, hx, (hb hby d5_8), X3.method', Bd.returns, Value.isRef, FieldType.isReference]
      first | (intro acts; rw [hr _ acts rfl rfl rfl]) | rw [hr _ _ rfl rfl rfl]
      exact Steps.refl _
    · show Q5 Z p1 w1 w2 h0 n0 _ T3.heap _
      rw [e3]
      exact ⟨by rw [f5, if_pos hc2], N0, rfl⟩
  · have pre4 : ∀ t, Steps p.tables e below (s₁.setTop (mkF m 11 #[.val (.int p1)] [(.int (2 : Int32)), (.int p1)])) t → Steps p.tables e below (s₁.setTop (entryFrame m #[(.int p1)] 1)) t := fun t kt => by
      refine pre1 _ ?_
      show Steps p.tables e below (s₁.setTop (mkF m 2 #[.val (.int p1)] [(.int (1 : Int32)), (.int p1)])) _
      refine XS.icmpYes X0.here hx rfl (pc0 := 2) (pc' := 9) rfl (hb hby d5_2) rfl (feq hc2).2 (by decide) (by decide) ?_
      show Steps p.tables e below (s₁.setTop (mkF m 9 #[.val (.int p1)] [])) _
      refine own_blk X0 hx bl5_9_2 (own_hb hby bd5_9_2) (pc' := 11) (Ls' := #[.val (.int p1)]) (st' := [(.int (2 : Int32)), (.int p1)]) rfl ?_
      exact kt
    by_cases hc5 : p1 = (2 : Int32)
    · obtain ⟨T6, X6, e6, st6⟩ := getS2 X0 hx hZ hown (host := "") (Or.inl (hw _ (List.mem_of_getElem? (i := 67) rfl))) Via.refl e0 S_NOT_FOUND (g := (mkF m 14 #[.val (.int p1)] [])) rfl (hb hby d5_14)
      obtain ⟨fs, hr, hrun, hended, hW, hsame⟩ := X6.leave (v := some (.ref w2)) (fun h => by rw [Bd.returns] at h; cases h)
      refine ⟨_, _, pre4 _ ?_, hrun, hended, _, _, rfl, ?_, ⟨_, rfl⟩, hW, hsame.mono (by decide) (by decide)⟩
      · show Steps p.tables e below (s₁.setTop (mkF m 11 #[.val (.int p1)] [(.int (2 : Int32)), (.int p1)])) _
        refine XS.icmpNo X0.here hx rfl (hb hby d5_11) rfl (teq hc5).2 ?_
        show Steps p.tables e below (s₁.setTop (mkF m 14 #[.val (.int p1)] [])) _
        refine st6 _ ?_
        show Steps p.tables e below (T6.setTop (mkF m 17 #[.val (.int p1)] [(.ref w2)])) _
        jvm_step X6.here [X6.here.top, hx, (hb hby d5_17), X6.method', Bd.returns, Value.isRef, FieldType.isReference]
        first | (intro acts; rw [hr _ acts rfl rfl rfl]) | rw [hr _ _ rfl rfl rfl]
        exact Steps.refl _
      · show Q5 Z p1 w1 w2 h0 n0 _ T6.heap _
        rw [e6]
        exact ⟨by rw [f5, if_neg hc2, if_pos hc5], N0, rfl⟩
    · obtain ⟨fs, hr, hrun, hended, hW, hsame⟩ := X0.leave (v := some .null) (fun h => by rw [Bd.returns] at h; cases h)
      refine ⟨_, _, pre4 _ ?_, hrun, hended, _, _, rfl, ?_, ⟨_, rfl⟩, hW, hsame.mono (by decide) (by decide)⟩
      · show Steps p.tables e below (s₁.setTop (mkF m 11 #[.val (.int p1)] [(.int (2 : Int32)), (.int p1)])) _
        refine XS.icmpYes X0.here hx rfl (pc0 := 11) (pc' := 18) rfl (hb hby d5_11) rfl (feq hc5).2 (by decide) (by decide) ?_
        show Steps p.tables e below (s₁.setTop (mkF m 18 #[.val (.int p1)] [])) _
        refine own_blk X0 hx bl5_18_1 (own_hb hby bd5_18_1) (pc' := 19) (Ls' := #[.val (.int p1)]) (st' := [.null]) rfl ?_
        jvm_step X0.here [X0.here.top, hx, (hb hby d5_19), X0.method', Bd.returns, Value.isRef, FieldType.isReference]
        first | (intro acts; rw [hr _ acts rfl rfl rfl]) | rw [hr _ _ rfl rfl rfl]
        exact Steps.refl _
      · show Q5 Z p1 w1 w2 h0 n0 _ s₁.heap _
        rw [e0]
        exact ⟨by rw [f5, if_neg hc2, if_neg hc5], N0, rfl⟩
theorem d10_0 : decode jdk_52_method_21_code 0 = .ok (.iconst 0, 1) := by decide +kernel
theorem d10_1 : decode jdk_52_method_21_code 1 = .ok (.istore 5, 2) := by decide +kernel
theorem d10_3 : decode jdk_52_method_21_code 3 = .ok (.iload 5, 2) := by decide +kernel
theorem d10_5 : decode jdk_52_method_21_code 5 = .ok (.iload 4, 2) := by decide +kernel
theorem d10_7 : decode jdk_52_method_21_code 7 = .ok (.if_icmp .ge 37, 3) := by decide +kernel
theorem d10_10 : decode jdk_52_method_21_code 10 = .ok (.aload_n 0, 1) := by decide +kernel
theorem d10_11 : decode jdk_52_method_21_code 11 = .ok (.iload_n 1, 1) := by decide +kernel
theorem d10_12 : decode jdk_52_method_21_code 12 = .ok (.caload, 1) := by decide +kernel
theorem d10_13 : decode jdk_52_method_21_code 13 = .ok (.istore 6, 2) := by decide +kernel
theorem d10_15 : decode jdk_52_method_21_code 15 = .ok (.iload 6, 2) := by decide +kernel
theorem d10_17 : decode jdk_52_method_21_code 17 = .ok (.sipush 255, 3) := by decide +kernel
theorem d10_20 : decode jdk_52_method_21_code 20 = .ok (.if_icmp .le 6, 3) := by decide +kernel
theorem d10_26 : decode jdk_52_method_21_code 26 = .ok (.aload_n 2, 1) := by decide +kernel
theorem d10_27 : decode jdk_52_method_21_code 27 = .ok (.iload_n 3, 1) := by decide +kernel
theorem d10_28 : decode jdk_52_method_21_code 28 = .ok (.iload 6, 2) := by decide +kernel
theorem d10_30 : decode jdk_52_method_21_code 30 = .ok (.i2b, 1) := by decide +kernel
theorem d10_31 : decode jdk_52_method_21_code 31 = .ok (.bastore, 1) := by decide +kernel
theorem d10_32 : decode jdk_52_method_21_code 32 = .ok (.iinc 1 1, 3) := by decide +kernel
theorem d10_35 : decode jdk_52_method_21_code 35 = .ok (.iinc 3 1, 3) := by decide +kernel
theorem d10_38 : decode jdk_52_method_21_code 38 = .ok (.iinc 5 1, 3) := by decide +kernel
theorem d10_41 : decode jdk_52_method_21_code 41 = .ok (.goto (-38), 3) := by decide +kernel
theorem d10_44 : decode jdk_52_method_21_code 44 = .ok (.iload 4, 2) := by decide +kernel
theorem d10_46 : decode jdk_52_method_21_code 46 = .ok (.ireturn, 1) := by decide +kernel
theorem pn_10 : plainName "java/lang/StringUTF16" = true := by first | (simp [plainName, overriddenIn]; done) | decide +kernel
theorem ef_10 (m : MethodId) (x0 : Addr) (x1 : Int32) (x2 : Addr) (x3 : Int32) (x4 : Int32) : entryFrame m #[(.ref x0), (.int x1), (.ref x2), (.int x3), (.int x4)] 7 = mkF m 0 #[.val (.ref x0), .val (.int x1), .val (.ref x2), .val (.int x3), .val (.int x4), .unset, .unset] [] := by first | (simp [entryFrame, mkF, argsToLocals, Value.category]; done) | rfl
def bl10_0_2 : List (Nat × Instr × Nat) := [(0, .iconst 0, 1), (1, .istore 5, 2)]
theorem bd10_0_2 : own_dec jdk_52_method_21_code bl10_0_2 = true := by decide +kernel
def bl10_3_2 : List (Nat × Instr × Nat) := [(3, .iload 5, 2), (5, .iload 4, 2)]
theorem bd10_3_2 : own_dec jdk_52_method_21_code bl10_3_2 = true := by decide +kernel
def bl10_10_2 : List (Nat × Instr × Nat) := [(10, .aload_n 0, 1), (11, .iload_n 1, 1)]
theorem bd10_10_2 : own_dec jdk_52_method_21_code bl10_10_2 = true := by decide +kernel
def bl10_13_1 : List (Nat × Instr × Nat) := [(13, .istore 6, 2)]
theorem bd10_13_1 : own_dec jdk_52_method_21_code bl10_13_1 = true := by decide +kernel
def bl10_15_2 : List (Nat × Instr × Nat) := [(15, .iload 6, 2), (17, .sipush 255, 3)]
theorem bd10_15_2 : own_dec jdk_52_method_21_code bl10_15_2 = true := by decide +kernel
def bl10_26_4 : List (Nat × Instr × Nat) := [(26, .aload_n 2, 1), (27, .iload_n 3, 1), (28, .iload 6, 2), (30, .i2b, 1)]
theorem bd10_26_4 : own_dec jdk_52_method_21_code bl10_26_4 = true := by decide +kernel
def bl10_32_1 : List (Nat × Instr × Nat) := [(32, .iinc 1 1, 3)]
theorem bd10_32_1 : own_dec jdk_52_method_21_code bl10_32_1 = true := by decide +kernel
def bl10_35_1 : List (Nat × Instr × Nat) := [(35, .iinc 3 1, 3)]
theorem bd10_35_1 : own_dec jdk_52_method_21_code bl10_35_1 = true := by decide +kernel
def bl10_38_1 : List (Nat × Instr × Nat) := [(38, .iinc 5 1, 3)]
theorem bd10_38_1 : own_dec jdk_52_method_21_code bl10_38_1 = true := by decide +kernel
def bl10_41_3 : List (Nat × Instr × Nat) := [(41, .goto (-38), 3), (3, .iload 5, 2), (5, .iload 4, 2)]
theorem bd10_41_3 : own_dec jdk_52_method_21_code bl10_41_3 = true := by decide +kernel
def bl10_44_1 : List (Nat × Instr × Nat) := [(44, .iload 4, 2)]
theorem bd10_44_1 : own_dec jdk_52_method_21_code bl10_44_1 = true := by decide +kernel

def f10_1 (c0 : Int32) : Int32 := (1 : Int32)
def Q10_1 (Z : State) (a1 : Addr) (a3 : Addr) (c0 : Int32) (k_a1 : ClassId) (k_a3 : ClassId) (h0 : Heap) (n0 : Nat) (v : Option Value) (h : Heap) (L : List Loc) : Prop := v = some (.int (f10_1 c0)) ∧ Fr n0 L ∧ Keep h0 h [a3] ∧ Arv Z h a3 k_a3 .byte (1 : Int32) [(.int (nar .byte (c0.toInt8.toInt32)))] (.int (0 : Int32))
set_option maxRecDepth 65536 in
set_option maxHeartbeats 40000000 in
theorem rm10_1 (l : Launch) (Z : State) (a0 : Array Value) (hw : ∀ d ∈ tables_1, d.before a0 Z = true) (ws : List Jvm.Cond) (a1 : Addr) (a3 : Addr) (c0 : Int32) (k_a1 : ClassId) (k_a3 : ClassId) (h0 : Heap) (n0 : Nat) (Z0 : n0 ≤ h0.size) (V_a1 : Arv Z h0 a1 k_a1 .char (1 : Int32) [(.int c0)] (.int (0 : Int32))) (V_a3 : Arv Z h0 a3 k_a3 .byte (1 : Int32) [(.int (0 : Int32))] (.int (0 : Int32))) (g_a3 : n0 ≤ a3) (ne_a1_a3 : a1 ≠ a3) (hc0 : ¬ ((255 : Int32) < c0)) :
    MetFree l (⟨"java/lang/StringUTF16", "compress", "([CI[BII)I"⟩ : MethodName) (head1 (Jvm.Cond.code (⟨"java/lang/StringUTF16", "compress", "([CI[BII)I"⟩ : MethodName) jdk_52_method_21_code 7 (some .int) :: ws) ({ frames := 0, cells := 0, slots := 0, locals := 0 } : Room)) (fun a U => a = #[(.ref a1), (.int (0 : Int32)), (.ref a3), (.int (0 : Int32)), (.int (1 : Int32))] ∧ Z.Warmed39 U.vm ∧ U.heap = h0) (fun _ _ _ _ _ => True) (fun _ U o U' => ∃ v L, o = .returned v ∧ Q10_1 Z a1 a3 c0 k_a1 k_a3 h0 n0 v U'.heap L ∧ FrameEnd U o U' L ({ frames := 0, cells := 0, slots := 0, locals := 0 } : Room).cells ({ frames := 0, cells := 0, slots := 0, locals := 0 } : Room).slots) := by
  refine MetFree.of_bodySF (plainFor_of_name pn_10) hisR ?_
  intro p e s m args below meth c s₁ Bd hml0 hP hK
  obtain ⟨rfl, hZ, hh⟩ := hP
  have hx := Bd.exec
  have hby := Bd.bytes
  have hml : c.maxLocals = 7 := hml0
  have hown : s.vm.findClass "java/lang/StringUTF16" = some m.cls := findClass_of_methodNamed Bd.named
  have hnm := (name_of_methodNamed Bd.named Bd.method).1
  have X0 : Stand p l e ({ frames := 0, cells := 0, slots := 0, locals := 0 } : Room) s m #[(.ref a1), (.int (0 : Int32)), (.ref a3), (.int (0 : Int32)), (.int (1 : Int32))] below meth c s₁ [] 0 0 := Stand.of_body Bd
  have e0 : s₁.heap = h0 := by rw [← hh, Bd.state]; rfl
  have N0 := Fr.nil n0
  have pre0 : ∀ t, Steps p.tables e below (s₁.setTop (mkF m 0 #[.val (.ref a1), .val (.int (0 : Int32)), .val (.ref a3), .val (.int (0 : Int32)), .val (.int (1 : Int32)), .unset, .unset] [])) t → Steps p.tables e below (s₁.setTop (entryFrame m #[(.ref a1), (.int (0 : Int32)), (.ref a3), (.int (0 : Int32)), (.int (1 : Int32))] 7)) t := fun t k => castTop (ef_10 m a1 (0 : Int32) a3 (0 : Int32) (1 : Int32)) k
  obtain ⟨cx1, Ar1, qq1, S1, N1_, H1, G1⟩ := id V_a1
  have hin1 : ¬ ((0 : Int32) < 0 ∨ cx1.slots.size ≤ ((0 : Int32)).toNatClampNeg) := inb_of S1 ⟨by decide, by decide⟩
  have hat1 : cx1.slots[((0 : Int32)).toNatClampNeg]? = some (.int c0) := (H1 ((0 : Int32)).toNatClampNeg (Nat.lt_of_not_le fun w => hin1 (Or.inr w))).trans (congrArg some (rfl))
  obtain ⟨cx2, Ar2, qq2, S2, N2_, H2, G2⟩ := id V_a3
  have hin2 : ¬ ((0 : Int32) < 0 ∨ cx2.slots.size ≤ ((0 : Int32)).toNatClampNeg) := inb_of S2 ⟨by decide, by decide⟩
  obtain ⟨T2, h2, X2, e2, W2, st2⟩ := stB X0 hx hZ e0 Ar2 (j := (0 : Int32)) hin2 (g := (mkF m 31 #[.val (.ref a1), .val (.int (0 : Int32)), .val (.ref a3), .val (.int (0 : Int32)), .val (.int (1 : Int32)), .val (.int (0 : Int32)), .val (.int c0)] [(.int (c0.toInt8.toInt32)), (.int (0 : Int32)), (.ref a3)])) rfl rfl (hb hby d10_31)
  have V2 : Arv Z h2 a3 k_a3 .byte (1 : Int32) [(.int (nar .byte (c0.toInt8.toInt32)))] (.int (0 : Int32)) := Arv.set Ar2 qq2 S2 N2_ H2 G2 (fits_nar_byte _) W2 0 rfl (Nat.le_of_ble_eq_true rfl)
  have zs3 : n0 ≤ h2.size := Nat.le_trans Z0 (Keep.of_wr W2).1
  have kp4 : Keep h0 h2 [a3] := (Keep.refl h0 [a3]).wr W2 (Or.inl (List.mem_of_getElem? (i := 0) rfl))
  have N2 := Fr.snoc X2 N0 g_a3
  obtain ⟨fs, hr, hrun, hended, hW, hsame⟩ := X2.leave (v := some (.int (1 : Int32))) (fun h => by rw [Bd.returns] at h; cases h)
  refine ⟨_, _, pre0 _ ?_, hrun, hended, _, _, rfl, ?_, ⟨_, rfl⟩, hW, hsame.mono (by decide) (by decide)⟩
  · show Steps p.tables e below (s₁.setTop (mkF m 0 #[.val (.ref a1), .val (.int (0 : Int32)), .val (.ref a3), .val (.int (0 : Int32)), .val (.int (1 : Int32)), .unset, .unset] [])) _
    refine own_blk X0 hx bl10_0_2 (own_hb hby bd10_0_2) (pc' := 3) (Ls' := #[.val (.ref a1), .val (.int (0 : Int32)), .val (.ref a3), .val (.int (0 : Int32)), .val (.int (1 : Int32)), .val (.int (0 : Int32)), .unset]) (st' := []) rfl ?_
    refine own_blk X0 hx bl10_3_2 (own_hb hby bd10_3_2) (pc' := 7) (Ls' := #[.val (.ref a1), .val (.int (0 : Int32)), .val (.ref a3), .val (.int (0 : Int32)), .val (.int (1 : Int32)), .val (.int (0 : Int32)), .unset]) (st' := [(.int (1 : Int32)), (.int (0 : Int32))]) rfl ?_
    refine XS.icmpNo X0.here hx rfl (hb hby d10_7) rfl (tlt (by decide : (0 : Int32) < (1 : Int32))).2.1 ?_
    show Steps p.tables e below (s₁.setTop (mkF m 10 #[.val (.ref a1), .val (.int (0 : Int32)), .val (.ref a3), .val (.int (0 : Int32)), .val (.int (1 : Int32)), .val (.int (0 : Int32)), .unset] [])) _
    refine own_blk X0 hx bl10_10_2 (own_hb hby bd10_10_2) (pc' := 12) (Ls' := #[.val (.ref a1), .val (.int (0 : Int32)), .val (.ref a3), .val (.int (0 : Int32)), .val (.int (1 : Int32)), .val (.int (0 : Int32)), .unset]) (st' := [(.int (0 : Int32)), (.ref a1)]) rfl ?_
    refine X0.caload hx (j := (0 : Int32)) (v := (.int c0)) (by rw [e0]; exact Ar1.1) (State.isArrayOf_alike hZ.alike Ar1.2.1) Ar1.2.2 hin1 hat1 (g := (mkF m 12 #[.val (.ref a1), .val (.int (0 : Int32)), .val (.ref a3), .val (.int (0 : Int32)), .val (.int (1 : Int32)), .val (.int (0 : Int32)), .unset] [(.int (0 : Int32)), (.ref a1)])) rfl rfl (hb hby d10_12) _ ?_
    show Steps p.tables e below (s₁.setTop (mkF m 13 #[.val (.ref a1), .val (.int (0 : Int32)), .val (.ref a3), .val (.int (0 : Int32)), .val (.int (1 : Int32)), .val (.int (0 : Int32)), .unset] [(.int c0)])) _
    refine own_blk X0 hx bl10_13_1 (own_hb hby bd10_13_1) (pc' := 15) (Ls' := #[.val (.ref a1), .val (.int (0 : Int32)), .val (.ref a3), .val (.int (0 : Int32)), .val (.int (1 : Int32)), .val (.int (0 : Int32)), .val (.int c0)]) (st' := []) rfl ?_
    refine own_blk X0 hx bl10_15_2 (own_hb hby bd10_15_2) (pc' := 20) (Ls' := #[.val (.ref a1), .val (.int (0 : Int32)), .val (.ref a3), .val (.int (0 : Int32)), .val (.int (1 : Int32)), .val (.int (0 : Int32)), .val (.int c0)]) (st' := [(.int (255 : Int32)), (.int c0)]) rfl ?_
    refine XS.icmpYes X0.here hx rfl (pc0 := 20) (pc' := 26) rfl (hb hby d10_20) rfl (flt hc0).2.2.2 (by decide) (by decide) ?_
    show Steps p.tables e below (s₁.setTop (mkF m 26 #[.val (.ref a1), .val (.int (0 : Int32)), .val (.ref a3), .val (.int (0 : Int32)), .val (.int (1 : Int32)), .val (.int (0 : Int32)), .val (.int c0)] [])) _
    refine own_blk X0 hx bl10_26_4 (own_hb hby bd10_26_4) (pc' := 31) (Ls' := #[.val (.ref a1), .val (.int (0 : Int32)), .val (.ref a3), .val (.int (0 : Int32)), .val (.int (1 : Int32)), .val (.int (0 : Int32)), .val (.int c0)]) (st' := [(.int (c0.toInt8.toInt32)), (.int (0 : Int32)), (.ref a3)]) rfl ?_
    refine st2 _ ?_
    show Steps p.tables e below (T2.setTop (mkF m 32 #[.val (.ref a1), .val (.int (0 : Int32)), .val (.ref a3), .val (.int (0 : Int32)), .val (.int (1 : Int32)), .val (.int (0 : Int32)), .val (.int c0)] [])) _
    refine own_blk X2 hx bl10_32_1 (own_hb hby bd10_32_1) (pc' := 35) (Ls' := #[.val (.ref a1), .val (.int (1 : Int32)), .val (.ref a3), .val (.int (0 : Int32)), .val (.int (1 : Int32)), .val (.int (0 : Int32)), .val (.int c0)]) (st' := []) rfl ?_
    refine own_blk X2 hx bl10_35_1 (own_hb hby bd10_35_1) (pc' := 38) (Ls' := #[.val (.ref a1), .val (.int (1 : Int32)), .val (.ref a3), .val (.int (1 : Int32)), .val (.int (1 : Int32)), .val (.int (0 : Int32)), .val (.int c0)]) (st' := []) rfl ?_
    refine own_blk X2 hx bl10_38_1 (own_hb hby bd10_38_1) (pc' := 41) (Ls' := #[.val (.ref a1), .val (.int (1 : Int32)), .val (.ref a3), .val (.int (1 : Int32)), .val (.int (1 : Int32)), .val (.int (1 : Int32)), .val (.int c0)]) (st' := []) rfl ?_
    refine own_blk X2 hx bl10_41_3 (own_hb hby bd10_41_3) (pc' := 7) (Ls' := #[.val (.ref a1), .val (.int (1 : Int32)), .val (.ref a3), .val (.int (1 : Int32)), .val (.int (1 : Int32)), .val (.int (1 : Int32)), .val (.int c0)]) (st' := [(.int (1 : Int32)), (.int (1 : Int32))]) rfl ?_
    refine XS.icmpYes X2.here hx rfl (pc0 := 7) (pc' := 44) rfl (hb hby d10_7) rfl (flt (by decide : ¬ ((1 : Int32) < (1 : Int32)))).2.1 (by decide) (by decide) ?_
    show Steps p.tables e below (T2.setTop (mkF m 44 #[.val (.ref a1), .val (.int (1 : Int32)), .val (.ref a3), .val (.int (1 : Int32)), .val (.int (1 : Int32)), .val (.int (1 : Int32)), .val (.int c0)] [])) _
    refine own_blk X2 hx bl10_44_1 (own_hb hby bd10_44_1) (pc' := 46) (Ls' := #[.val (.ref a1), .val (.int (1 : Int32)), .val (.ref a3), .val (.int (1 : Int32)), .val (.int (1 : Int32)), .val (.int (1 : Int32)), .val (.int c0)]) (st' := [(.int (1 : Int32))]) rfl ?_
    exact retI X2 hx Bd.returns (hb hby d10_46) hr
  · show Q10_1 Z a1 a3 c0 k_a1 k_a3 h0 n0 _ T2.heap _
    rw [e2]
    exact ⟨by rw [f10_1], N2, kp4, V2⟩
theorem d9_0 : decode jdk_52_method_16_code 0 = .ok (.iload_n 2, 1) := by decide +kernel
theorem d9_1 : decode jdk_52_method_16_code 1 = .ok (.newarray .byte, 2) := by decide +kernel
theorem d9_3 : decode jdk_52_method_16_code 3 = .ok (.astore_n 3, 1) := by decide +kernel
theorem d9_4 : decode jdk_52_method_16_code 4 = .ok (.aload_n 0, 1) := by decide +kernel
theorem d9_5 : decode jdk_52_method_16_code 5 = .ok (.iload_n 1, 1) := by decide +kernel
theorem d9_6 : decode jdk_52_method_16_code 6 = .ok (.aload_n 3, 1) := by decide +kernel
theorem d9_7 : decode jdk_52_method_16_code 7 = .ok (.iconst 0, 1) := by decide +kernel
theorem d9_8 : decode jdk_52_method_16_code 8 = .ok (.iload_n 2, 1) := by decide +kernel
theorem d9_9 : decode jdk_52_method_16_code 9 = .ok (.invokestatic 115, 3) := by decide +kernel
theorem d9_12 : decode jdk_52_method_16_code 12 = .ok (.istore 4, 2) := by decide +kernel
theorem d9_14 : decode jdk_52_method_16_code 14 = .ok (.iload 4, 2) := by decide +kernel
theorem d9_16 : decode jdk_52_method_16_code 16 = .ok (.iload_n 2, 1) := by decide +kernel
theorem d9_17 : decode jdk_52_method_16_code 17 = .ok (.if_icmp .eq 40, 3) := by decide +kernel
theorem d9_57 : decode jdk_52_method_16_code 57 = .ok (.aload_n 3, 1) := by decide +kernel
theorem d9_58 : decode jdk_52_method_16_code 58 = .ok (.areturn, 1) := by decide +kernel
theorem pn_9 : plainName "java/lang/StringUTF16" = true := by first | (simp [plainName, overriddenIn]; done) | decide +kernel
theorem pd_9_8 : parseMethodDescriptor "([CI[BII)I" = some ⟨[(.array .char), .int, (.array .byte), .int, .int], some .int⟩ := by decide +kernel
theorem ef_9 (m : MethodId) (x0 : Addr) (x1 : Int32) (x2 : Int32) : entryFrame m #[(.ref x0), (.int x1), (.int x2)] 6 = mkF m 0 #[.val (.ref x0), .val (.int x1), .val (.int x2), .unset, .unset, .unset] [] := by first | (simp [entryFrame, mkF, argsToLocals, Value.category]; done) | rfl
def bl9_0_1 : List (Nat × Instr × Nat) := [(0, .iload_n 2, 1)]
theorem bd9_0_1 : own_dec jdk_52_method_16_code bl9_0_1 = true := by decide +kernel
def bl9_3_1 : List (Nat × Instr × Nat) := [(3, .astore_n 3, 1)]
theorem bd9_3_1 : own_dec jdk_52_method_16_code bl9_3_1 = true := by decide +kernel
def bl9_4_5 : List (Nat × Instr × Nat) := [(4, .aload_n 0, 1), (5, .iload_n 1, 1), (6, .aload_n 3, 1), (7, .iconst 0, 1), (8, .iload_n 2, 1)]
theorem bd9_4_5 : own_dec jdk_52_method_16_code bl9_4_5 = true := by decide +kernel
def bl9_12_1 : List (Nat × Instr × Nat) := [(12, .istore 4, 2)]
theorem bd9_12_1 : own_dec jdk_52_method_16_code bl9_12_1 = true := by decide +kernel
def bl9_14_2 : List (Nat × Instr × Nat) := [(14, .iload 4, 2), (16, .iload_n 2, 1)]
theorem bd9_14_2 : own_dec jdk_52_method_16_code bl9_14_2 = true := by decide +kernel
def bl9_57_1 : List (Nat × Instr × Nat) := [(57, .aload_n 3, 1)]
theorem bd9_57_1 : own_dec jdk_52_method_16_code bl9_57_1 = true := by decide +kernel

def Q9_1 (Z : State) (a1 : Addr) (c0 : Int32) (k_a1 : ClassId) (h0 : Heap) (n0 : Nat) (v : Option Value) (h : Heap) (L : List Loc) : Prop := ∃ (b : Addr) (k : ClassId), v = some (.ref b) ∧ Fr n0 L ∧ Keep h0 h [] ∧ n0 ≤ b ∧ h0.size ≤ b ∧ Arv Z h b k .byte (1 : Int32) [(.int (nar .byte (c0.toInt8.toInt32)))] (.int (0 : Int32))
set_option maxRecDepth 65536 in
set_option maxHeartbeats 40000000 in
theorem rm9_1 (l : Launch) (Z : State) (a0 : Array Value) (hw : ∀ d ∈ tables_1, d.before a0 Z = true) (ws : List Jvm.Cond) (a1 : Addr) (c0 : Int32) (k_a1 : ClassId) (h0 : Heap) (n0 : Nat) (Z0 : n0 ≤ h0.size) (V_a1 : Arv Z h0 a1 k_a1 .char (1 : Int32) [(.int c0)] (.int (0 : Int32))) (hc0 : ¬ ((255 : Int32) < c0)) :
    MetFree l (⟨"java/lang/StringUTF16", "compress", "([CII)[B"⟩ : MethodName) (head1 (Jvm.Cond.code (⟨"java/lang/StringUTF16", "compress", "([CII)[B"⟩ : MethodName) jdk_52_method_16_code 6 (some (.array .byte)) :: ws) ({ frames := 1, cells := 1, slots := 1, locals := 18 } : Room)) (fun a U => a = #[(.ref a1), (.int (0 : Int32)), (.int (1 : Int32))] ∧ Z.Warmed39 U.vm ∧ U.heap = h0) (fun _ _ _ _ _ => True) (fun _ U o U' => ∃ v L, o = .returned v ∧ Q9_1 Z a1 c0 k_a1 h0 n0 v U'.heap L ∧ FrameEnd U o U' L ({ frames := 1, cells := 1, slots := 1, locals := 18 } : Room).cells ({ frames := 1, cells := 1, slots := 1, locals := 18 } : Room).slots) := by
  refine MetFree.of_bodySF (plainFor_of_name pn_9) hisR ?_
  intro p e s m args below meth c s₁ Bd hml0 hP hK
  obtain ⟨rfl, hZ, hh⟩ := hP
  have hx := Bd.exec
  have hby := Bd.bytes
  have hml : c.maxLocals = 6 := hml0
  have hown : s.vm.findClass "java/lang/StringUTF16" = some m.cls := findClass_of_methodNamed Bd.named
  have hnm := (name_of_methodNamed Bd.named Bd.method).1
  have X0 : Stand p l e ({ frames := 1, cells := 1, slots := 1, locals := 18 } : Room) s m #[(.ref a1), (.int (0 : Int32)), (.int (1 : Int32))] below meth c s₁ [] 0 0 := Stand.of_body Bd
  have e0 : s₁.heap = h0 := by rw [← hh, Bd.state]; rfl
  have N0 := Fr.nil n0
  have pre0 : ∀ t, Steps p.tables e below (s₁.setTop (mkF m 0 #[.val (.ref a1), .val (.int (0 : Int32)), .val (.int (1 : Int32)), .unset, .unset, .unset] [])) t → Steps p.tables e below (s₁.setTop (entryFrame m #[(.ref a1), (.int (0 : Int32)), (.int (1 : Int32))] 6)) t := fun t k => castTop (ef_9 m a1 (0 : Int32) (1 : Int32)) k
  obtain ⟨T1, h1, k1, X1, e1, E1, A1, st1⟩ := newP X0 hx hZ (hw _ (List.mem_of_getElem? (i := 20) rfl)) e0 (g := (mkF m 1 #[.val (.ref a1), .val (.int (0 : Int32)), .val (.int (1 : Int32)), .unset, .unset, .unset] [(.int (1 : Int32))])) rfl (hb hby d9_1) rfl (by decide) (cap := 1) (by decide) (by decide) (by decide) (by decide)
  obtain ⟨b1, g1⟩ : ∃ z, z = h0.size := ⟨_, rfl⟩
  rw [← g1] at A1 st1
  have ne_a1_b1 : a1 ≠ b1 := Nat.ne_of_lt (Nat.lt_of_lt_of_le V_a1.lt (Nat.le_of_eq g1.symm))
  have g_b1 : n0 ≤ b1 := Nat.le_trans Z0 (Nat.le_of_eq g1.symm)
  have sz_b1 : h0.size ≤ b1 := Nat.le_trans (Keep.refl h0 []).1 (Nat.le_of_eq g1.symm)
  have zs2 : n0 ≤ h1.size := Nat.le_trans Z0 E1.1
  have kp3 : Keep h0 h1 [] := (Keep.refl h0 []).ext E1
  have V_b1 : Arv Z h1 b1 k1 .byte (1 : Int32) [(.int (0 : Int32))] (.int (0 : Int32)) := (Arv.new A1 (by decide)).pad (pad_rep [] (.int (0 : Int32)) 1)
  have fa5 : Arv Z h1 a1 k_a1 .char (1 : Int32) [(.int c0)] (.int (0 : Int32)) := (V_a1.ext E1)
  obtain ⟨_, T4, Lc4, X4, hQ4, st4⟩ := own_callS X1 hx hZ (y := (⟨"java/lang/StringUTF16", "compress", "([CI[BII)I"⟩ : MethodName)) hown (hw _ (List.mem_of_getElem? (i := 61) rfl)) (hw _ (List.mem_of_getElem? (i := 62) rfl)) (hw _ (List.mem_of_getElem? (i := 59) rfl)) (hw _ (List.mem_of_getElem? (i := 63) rfl)) (by decide) (W := 0) (argsL := [(.ref a1), (.int (0 : Int32)), (.ref b1), (.int (0 : Int32)), (.int (1 : Int32))]) (rest := []) (rm10_1 l Z a0 hw [] a1 b1 c0 k_a1 k1 h1 n0 zs2 fa5 V_b1 g_b1 ne_a1_b1 hc0) (by decide) (by decide) (c' := 1) (s' := 1) rfl rfl (by decide) (by decide) e1 (g := (mkF m 9 #[.val (.ref a1), .val (.int (0 : Int32)), .val (.int (1 : Int32)), .val (.ref b1), .unset, .unset] [(.int (1 : Int32)), (.int (0 : Int32)), (.ref b1), (.int (0 : Int32)), (.ref a1)])) rfl (by rw [hml]; rfl) (lenOf pd_9_8 rfl) rfl (by show 2 * 0 + _ ≤ _; exact Nat.le_of_eq rfl) (hb hby d9_9)
  obtain ⟨rfl, N4q, K4, Vc4_a3⟩ := hQ4
  have N4 := Fr.app N0 N4q
  have zs6 : n0 ≤ T4.heap.size := Nat.le_trans zs2 K4.1
  have kp7 : Keep h0 T4.heap [] := kp3.trans K4 (allS (Or.inr sz_b1) all0)
  obtain ⟨fs, hr, hrun, hended, hW, hsame⟩ := X4.leave (v := some (.ref b1)) (fun h => by rw [Bd.returns] at h; cases h)
  refine ⟨_, _, pre0 _ ?_, hrun, hended, _, _, rfl, ?_, ⟨_, rfl⟩, hW, hsame.mono (by decide) (by decide)⟩
  · show Steps p.tables e below (s₁.setTop (mkF m 0 #[.val (.ref a1), .val (.int (0 : Int32)), .val (.int (1 : Int32)), .unset, .unset, .unset] [])) _
    refine own_blk X0 hx bl9_0_1 (own_hb hby bd9_0_1) (pc' := 1) (Ls' := #[.val (.ref a1), .val (.int (0 : Int32)), .val (.int (1 : Int32)), .unset, .unset, .unset]) (st' := [(.int (1 : Int32))]) rfl ?_
    refine st1 _ ?_
    show Steps p.tables e below (T1.setTop (mkF m 3 #[.val (.ref a1), .val (.int (0 : Int32)), .val (.int (1 : Int32)), .unset, .unset, .unset] [(.ref b1)])) _
    refine own_blk X1 hx bl9_3_1 (own_hb hby bd9_3_1) (pc' := 4) (Ls' := #[.val (.ref a1), .val (.int (0 : Int32)), .val (.int (1 : Int32)), .val (.ref b1), .unset, .unset]) (st' := []) rfl ?_
    refine own_blk X1 hx bl9_4_5 (own_hb hby bd9_4_5) (pc' := 9) (Ls' := #[.val (.ref a1), .val (.int (0 : Int32)), .val (.int (1 : Int32)), .val (.ref b1), .unset, .unset]) (st' := [(.int (1 : Int32)), (.int (0 : Int32)), (.ref b1), (.int (0 : Int32)), (.ref a1)]) rfl ?_
    refine st4 _ ?_
    show Steps p.tables e below (T4.setTop (mkF m 12 #[.val (.ref a1), .val (.int (0 : Int32)), .val (.int (1 : Int32)), .val (.ref b1), .unset, .unset] [(.int (f10_1 c0))])) _
    refine own_blk X4 hx bl9_12_1 (own_hb hby bd9_12_1) (pc' := 14) (Ls' := #[.val (.ref a1), .val (.int (0 : Int32)), .val (.int (1 : Int32)), .val (.ref b1), .val (.int (f10_1 c0)), .unset]) (st' := []) rfl ?_
    refine own_blk X4 hx bl9_14_2 (own_hb hby bd9_14_2) (pc' := 17) (Ls' := #[.val (.ref a1), .val (.int (0 : Int32)), .val (.int (1 : Int32)), .val (.ref b1), .val (.int (f10_1 c0)), .unset]) (st' := [(.int (1 : Int32)), (.int (f10_1 c0))]) rfl ?_
    refine XS.icmpYes X4.here hx rfl (pc0 := 17) (pc' := 57) rfl (hb hby d9_17) rfl (teq (rfl : (f10_1 c0) = (1 : Int32))).1 (by decide) (by decide) ?_
    show Steps p.tables e below (T4.setTop (mkF m 57 #[.val (.ref a1), .val (.int (0 : Int32)), .val (.int (1 : Int32)), .val (.ref b1), .val (.int (f10_1 c0)), .unset] [])) _
    refine own_blk X4 hx bl9_57_1 (own_hb hby bd9_57_1) (pc' := 58) (Ls' := #[.val (.ref a1), .val (.int (0 : Int32)), .val (.int (1 : Int32)), .val (.ref b1), .val (.int (f10_1 c0)), .unset]) (st' := [(.ref b1)]) rfl ?_
    jvm_step X4.here [X4.here.top, hx, (hb hby d9_58), X4.method', Bd.returns, Value.isRef, FieldType.isReference]
    first | (intro acts; rw [hr _ acts rfl rfl rfl]) | rw [hr _ _ rfl rfl rfl]
    exact Steps.refl _
  · show Q9_1 Z a1 c0 k_a1 h0 n0 _ T4.heap _
    exact ⟨b1, k1, rfl, N4, kp7, g_b1, sz_b1, Vc4_a3⟩
theorem d11_0 : decode jdk_52_method_15_code 0 = .ok (.iload_n 1, 1) := by decide +kernel
theorem d11_1 : decode jdk_52_method_15_code 1 = .ok (.aload_n 0, 1) := by decide +kernel
theorem d11_2 : decode jdk_52_method_15_code 2 = .ok (.arraylength, 1) := by decide +kernel
theorem d11_3 : decode jdk_52_method_15_code 3 = .ok (.isub, 1) := by decide +kernel
theorem d11_4 : decode jdk_52_method_15_code 4 = .ok (.bipush 31, 2) := by decide +kernel
theorem d11_6 : decode jdk_52_method_15_code 6 = .ok (.iushr, 1) := by decide +kernel
theorem d11_7 : decode jdk_52_method_15_code 7 = .ok (.i2b, 1) := by decide +kernel
theorem d11_8 : decode jdk_52_method_15_code 8 = .ok (.ireturn, 1) := by decide +kernel
theorem pn_11 : plainName "java/lang/StringUTF16" = true := by first | (simp [plainName, overriddenIn]; done) | decide +kernel
theorem ef_11 (m : MethodId) (x0 : Addr) (x1 : Int32) : entryFrame m #[(.ref x0), (.int x1)] 2 = mkF m 0 #[.val (.ref x0), .val (.int x1)] [] := by first | (simp [entryFrame, mkF, argsToLocals, Value.category]; done) | rfl
def bl11_0_2 : List (Nat × Instr × Nat) := [(0, .iload_n 1, 1), (1, .aload_n 0, 1)]
theorem bd11_0_2 : own_dec jdk_52_method_15_code bl11_0_2 = true := by decide +kernel
def bl11_3_4 : List (Nat × Instr × Nat) := [(3, .isub, 1), (4, .bipush 31, 2), (6, .iushr, 1), (7, .i2b, 1)]
theorem bd11_3_4 : own_dec jdk_52_method_15_code bl11_3_4 = true := by decide +kernel

def f11_1 (b0_ : Int32) : Int32 := (nar .byte ((((0 : Int32).toUInt32 >>> ((31 : Int32) &&& 31).toUInt32).toInt32).toInt8.toInt32))
def Q11_1 (Z : State) (a1 : Addr) (b0_ : Int32) (k_a1 : ClassId) (h0 : Heap) (n0 : Nat) (v : Option Value) (h : Heap) (L : List Loc) : Prop := v = some (.int (f11_1 b0_)) ∧ Fr n0 L ∧ h = h0
set_option maxRecDepth 65536 in
set_option maxHeartbeats 40000000 in
theorem rm11_1 (l : Launch) (Z : State) (a0 : Array Value) (hw : ∀ d ∈ tables_1, d.before a0 Z = true) (ws : List Jvm.Cond) (a1 : Addr) (b0_ : Int32) (k_a1 : ClassId) (h0 : Heap) (n0 : Nat) (Z0 : n0 ≤ h0.size) (V_a1 : Arv Z h0 a1 k_a1 .byte (1 : Int32) [(.int b0_)] (.int (0 : Int32))) :
    MetFree l (⟨"java/lang/StringUTF16", "coderFromArrayLen", "([BI)B"⟩ : MethodName) (head1 (Jvm.Cond.code (⟨"java/lang/StringUTF16", "coderFromArrayLen", "([BI)B"⟩ : MethodName) jdk_52_method_15_code 2 (some .byte) :: ws) ({ frames := 0, cells := 0, slots := 0, locals := 0 } : Room)) (fun a U => a = #[(.ref a1), (.int (1 : Int32))] ∧ Z.Warmed39 U.vm ∧ U.heap = h0) (fun _ _ _ _ _ => True) (fun _ U o U' => ∃ v L, o = .returned v ∧ Q11_1 Z a1 b0_ k_a1 h0 n0 v U'.heap L ∧ FrameEnd U o U' L ({ frames := 0, cells := 0, slots := 0, locals := 0 } : Room).cells ({ frames := 0, cells := 0, slots := 0, locals := 0 } : Room).slots) := by
  refine MetFree.of_bodySF (plainFor_of_name pn_11) hisR ?_
  intro p e s m args below meth c s₁ Bd hml0 hP hK
  obtain ⟨rfl, hZ, hh⟩ := hP
  have hx := Bd.exec
  have hby := Bd.bytes
  have hml : c.maxLocals = 2 := hml0
  have hown : s.vm.findClass "java/lang/StringUTF16" = some m.cls := findClass_of_methodNamed Bd.named
  have hnm := (name_of_methodNamed Bd.named Bd.method).1
  have X0 : Stand p l e ({ frames := 0, cells := 0, slots := 0, locals := 0 } : Room) s m #[(.ref a1), (.int (1 : Int32))] below meth c s₁ [] 0 0 := Stand.of_body Bd
  have e0 : s₁.heap = h0 := by rw [← hh, Bd.state]; rfl
  have N0 := Fr.nil n0
  have pre0 : ∀ t, Steps p.tables e below (s₁.setTop (mkF m 0 #[.val (.ref a1), .val (.int (1 : Int32))] [])) t → Steps p.tables e below (s₁.setTop (entryFrame m #[(.ref a1), (.int (1 : Int32))] 2)) t := fun t k => castTop (ef_11 m a1 (1 : Int32)) k
  obtain ⟨cx1, Ar1, qq1, S1, N1_, H1, G1⟩ := id V_a1
  obtain ⟨fs, hr, hrun, hended, hW, hsame⟩ := X0.leave (v := some (.int (nar .byte ((((0 : Int32).toUInt32 >>> ((31 : Int32) &&& 31).toUInt32).toInt32).toInt8.toInt32)))) (fun h => by rw [Bd.returns] at h; cases h)
  refine ⟨_, _, pre0 _ ?_, hrun, hended, _, _, rfl, ?_, ⟨_, rfl⟩, hW, hsame.mono (by decide) (by decide)⟩
  · show Steps p.tables e below (s₁.setTop (mkF m 0 #[.val (.ref a1), .val (.int (1 : Int32))] [])) _
    refine own_blk X0 hx bl11_0_2 (own_hb hby bd11_0_2) (pc' := 2) (Ls' := #[.val (.ref a1), .val (.int (1 : Int32))]) (st' := [(.ref a1), (.int (1 : Int32))]) rfl ?_
    refine X0.arraylength hx (by rw [e0]; exact Ar1.1) (State.isArrayOf_alike hZ.alike Ar1.2.1) (g := (mkF m 2 #[.val (.ref a1), .val (.int (1 : Int32))] [(.ref a1), (.int (1 : Int32))])) rfl rfl (hb hby d11_2) _ ?_
    rw [len_of S1 N1_]
    show Steps p.tables e below (s₁.setTop (mkF m 3 #[.val (.ref a1), .val (.int (1 : Int32))] [(.int (1 : Int32)), (.int (1 : Int32))])) _
    refine own_blk X0 hx bl11_3_4 (own_hb hby bd11_3_4) (pc' := 8) (Ls' := #[.val (.ref a1), .val (.int (1 : Int32))]) (st' := [(.int ((((0 : Int32).toUInt32 >>> ((31 : Int32) &&& 31).toUInt32).toInt32).toInt8.toInt32))]) rfl ?_
    exact retN X0 hx (t := .byte) Bd.returns (by simp) (hb hby d11_8) hr
  · show Q11_1 Z a1 b0_ k_a1 h0 n0 _ s₁.heap _
    rw [e0]
    exact ⟨by rw [f11_1], N0, rfl⟩
theorem d3_0 : decode jdk_42_method_149_code 0 = .ok (.aload_n 0, 1) := by decide +kernel
theorem d3_1 : decode jdk_42_method_149_code 1 = .ok (.invokespecial 1, 3) := by decide +kernel
theorem d3_4 : decode jdk_42_method_149_code 4 = .ok (.iload_n 3, 1) := by decide +kernel
theorem d3_5 : decode jdk_42_method_149_code 5 = .ok (.ifCond .ne 22, 3) := by decide +kernel
theorem d3_27 : decode jdk_42_method_149_code 27 = .ok (.getstatic 38, 3) := by decide +kernel
theorem d3_30 : decode jdk_42_method_149_code 30 = .ok (.ifCond .eq 28, 3) := by decide +kernel
theorem d3_33 : decode jdk_42_method_149_code 33 = .ok (.aload_n 1, 1) := by decide +kernel
theorem d3_34 : decode jdk_42_method_149_code 34 = .ok (.iload_n 2, 1) := by decide +kernel
theorem d3_35 : decode jdk_42_method_149_code 35 = .ok (.iload_n 3, 1) := by decide +kernel
theorem d3_36 : decode jdk_42_method_149_code 36 = .ok (.invokestatic 177, 3) := by decide +kernel
theorem d3_39 : decode jdk_42_method_149_code 39 = .ok (.astore 5, 2) := by decide +kernel
theorem d3_41 : decode jdk_42_method_149_code 41 = .ok (.aload_n 0, 1) := by decide +kernel
theorem d3_42 : decode jdk_42_method_149_code 42 = .ok (.aload 5, 2) := by decide +kernel
theorem d3_44 : decode jdk_42_method_149_code 44 = .ok (.iload_n 3, 1) := by decide +kernel
theorem d3_45 : decode jdk_42_method_149_code 45 = .ok (.invokestatic 47, 3) := by decide +kernel
theorem d3_48 : decode jdk_42_method_149_code 48 = .ok (.putfield 15, 3) := by decide +kernel
theorem d3_51 : decode jdk_42_method_149_code 51 = .ok (.aload_n 0, 1) := by decide +kernel
theorem d3_52 : decode jdk_42_method_149_code 52 = .ok (.aload 5, 2) := by decide +kernel
theorem d3_54 : decode jdk_42_method_149_code 54 = .ok (.putfield 9, 3) := by decide +kernel
theorem d3_57 : decode jdk_42_method_149_code 57 = .ok (.return_, 1) := by decide +kernel
theorem pn_3 : plainName "java/lang/String" = true := by first | (simp [plainName, overriddenIn]; done) | decide +kernel
theorem pd_3_7 : parseMethodDescriptor "([CII)[B" = some ⟨[(.array .char), .int, .int], some (.array .byte)⟩ := by decide +kernel
theorem pd_3_9 : parseMethodDescriptor "([BI)B" = some ⟨[(.array .byte), .int], some .byte⟩ := by decide +kernel
theorem ef_3n (m : MethodId) (x0 : Addr) (x1 : Addr) (x2 : Int32) (x3 : Int32) : entryFrame m #[(.ref x0), (.ref x1), (.int x2), (.int x3), .null] 6 = mkF m 0 #[.val (.ref x0), .val (.ref x1), .val (.int x2), .val (.int x3), .val .null, .unset] [] := by first | (simp [entryFrame, mkF, argsToLocals, Value.category]; done) | rfl
def bl3_0_1 : List (Nat × Instr × Nat) := [(0, .aload_n 0, 1)]
theorem bd3_0_1 : own_dec jdk_42_method_149_code bl3_0_1 = true := by decide +kernel
def bl3_4_1 : List (Nat × Instr × Nat) := [(4, .iload_n 3, 1)]
theorem bd3_4_1 : own_dec jdk_42_method_149_code bl3_4_1 = true := by decide +kernel
def bl3_33_3 : List (Nat × Instr × Nat) := [(33, .aload_n 1, 1), (34, .iload_n 2, 1), (35, .iload_n 3, 1)]
theorem bd3_33_3 : own_dec jdk_42_method_149_code bl3_33_3 = true := by decide +kernel
def bl3_39_1 : List (Nat × Instr × Nat) := [(39, .astore 5, 2)]
theorem bd3_39_1 : own_dec jdk_42_method_149_code bl3_39_1 = true := by decide +kernel
def bl3_41_3 : List (Nat × Instr × Nat) := [(41, .aload_n 0, 1), (42, .aload 5, 2), (44, .iload_n 3, 1)]
theorem bd3_41_3 : own_dec jdk_42_method_149_code bl3_41_3 = true := by decide +kernel
def bl3_51_2 : List (Nat × Instr × Nat) := [(51, .aload_n 0, 1), (52, .aload 5, 2)]
theorem bd3_51_2 : own_dec jdk_42_method_149_code bl3_51_2 = true := by decide +kernel

def Q3_1 (Z : State) (a1 : Addr) (a2 : Addr) (c0 : Int32) (wz : Int32) (k_a2 : ClassId) (h0 : Heap) (n0 : Nat) (v : Option Value) (h : Heap) (L : List Loc) : Prop := v = none ∧ Fr n0 L ∧ Keep h0 h [a1]
set_option maxRecDepth 65536 in
set_option maxHeartbeats 40000000 in
theorem rm3_1 (l : Launch) (Z : State) (a0 : Array Value) (hw : ∀ d ∈ tables_1, d.before a0 Z = true) (ws : List Jvm.Cond) (a1 : Addr) (a2 : Addr) (c0 : Int32) (wz : Int32) (k_a2 : ClassId) (h0 : Heap) (n0 : Nat) (Z0 : n0 ≤ h0.size) (E_a1 : Exa Z h0 a1 "java/lang/String") (F_a1_value : Fld Z h0 a1 "java/lang/String" "value" "[B" .null) (F_a1_coder : Fld Z h0 a1 "java/lang/String" "coder" "B" (.int (0 : Int32))) (g_a1 : n0 ≤ a1) (V_a2 : Arv Z h0 a2 k_a2 .char (1 : Int32) [(.int c0)] (.int (0 : Int32))) (S_COMPACT_STRINGS : Sta Z h0 "java/lang/String" "COMPACT_STRINGS" "Z" (.int wz)) (ne_a2_a1 : a2 ≠ a1) (hc0 : ¬ ((255 : Int32) < c0)) (hwz : ¬ wz = 0) :
    MetFree l (⟨"java/lang/String", "<init>", "([CIILjava/lang/Void;)V"⟩ : MethodName) (head1 (Jvm.Cond.code (⟨"java/lang/String", "<init>", "([CIILjava/lang/Void;)V"⟩ : MethodName) jdk_42_method_149_code 6 none :: ws) ({ frames := 2, cells := 1, slots := 1, locals := 35 } : Room)) (fun a U => a = #[(.ref a1), (.ref a2), (.int (0 : Int32)), (.int (1 : Int32)), .null] ∧ Z.Warmed39 U.vm ∧ U.heap = h0) (fun _ _ _ _ _ => True) (fun _ U o U' => ∃ v L, o = .returned v ∧ Q3_1 Z a1 a2 c0 wz k_a2 h0 n0 v U'.heap L ∧ FrameEnd U o U' L ({ frames := 2, cells := 1, slots := 1, locals := 35 } : Room).cells ({ frames := 2, cells := 1, slots := 1, locals := 35 } : Room).slots) := by
  refine MetFree.of_bodySF (plainFor_of_name pn_3) hisR ?_
  intro p e s m args below meth c s₁ Bd hml0 hP hK
  obtain ⟨rfl, hZ, hh⟩ := hP
  have hx := Bd.exec
  have hby := Bd.bytes
  have hml : c.maxLocals = 6 := hml0
  have hown : s.vm.findClass "java/lang/String" = some m.cls := findClass_of_methodNamed Bd.named
  have hnm := (name_of_methodNamed Bd.named Bd.method).1
  have X0 : Stand p l e ({ frames := 2, cells := 1, slots := 1, locals := 35 } : Room) s m #[(.ref a1), (.ref a2), (.int (0 : Int32)), (.int (1 : Int32)), .null] below meth c s₁ [] 0 0 := Stand.of_body Bd
  have e0 : s₁.heap = h0 := by rw [← hh, Bd.state]; rfl
  have N0 := Fr.nil n0
  have pre0 : ∀ t, Steps p.tables e below (s₁.setTop (mkF m 0 #[.val (.ref a1), .val (.ref a2), .val (.int (0 : Int32)), .val (.int (1 : Int32)), .val .null, .unset] [])) t → Steps p.tables e below (s₁.setTop (entryFrame m #[(.ref a1), (.ref a2), (.int (0 : Int32)), (.int (1 : Int32)), .null] 6)) t := fun t k => castTop (ef_3n m a1 a2 (0 : Int32) (1 : Int32)) k
  obtain ⟨T1, X1, e1, st1⟩ := initO X0 hx hZ hown (hw _ (List.mem_of_getElem? (i := 16) rfl)) (hw _ (List.mem_of_getElem? (i := 17) rfl)) (hw _ (List.mem_of_getElem? (i := 18) rfl)) e0 (g := (mkF m 1 #[.val (.ref a1), .val (.ref a2), .val (.int (0 : Int32)), .val (.int (1 : Int32)), .val .null, .unset] [(.ref a1)])) rfl (by rw [hml]; rfl) rfl (hb hby d3_1) (by decide) (W := 0) (by show 2 * 0 + _ ≤ _; exact Nat.le_of_eq rfl) (by decide)
  obtain ⟨T2, X2, e2, st2⟩ := getS2 X1 hx hZ hown (host := "") (Or.inl (hw _ (List.mem_of_getElem? (i := 56) rfl))) Via.refl e1 S_COMPACT_STRINGS (g := (mkF m 27 #[.val (.ref a1), .val (.ref a2), .val (.int (0 : Int32)), .val (.int (1 : Int32)), .val .null, .unset] [])) rfl (hb hby d3_27)
  obtain ⟨_, T3, Lc3, X3, hQ3, st3⟩ := own_callS X2 hx hZ (y := (⟨"java/lang/StringUTF16", "compress", "([CII)[B"⟩ : MethodName)) hown (hw _ (List.mem_of_getElem? (i := 57) rfl)) (hw _ (List.mem_of_getElem? (i := 58) rfl)) (hw _ (List.mem_of_getElem? (i := 59) rfl)) (hw _ (List.mem_of_getElem? (i := 60) rfl)) (by decide) (W := 0) (argsL := [(.ref a2), (.int (0 : Int32)), (.int (1 : Int32))]) (rest := []) (rm9_1 l Z a0 hw [] a2 c0 k_a2 h0 n0 Z0 V_a2 hc0) (by decide) (by decide) (c' := 1) (s' := 1) rfl rfl (by decide) (by decide) e2 (g := (mkF m 36 #[.val (.ref a1), .val (.ref a2), .val (.int (0 : Int32)), .val (.int (1 : Int32)), .val .null, .unset] [(.int (1 : Int32)), (.int (0 : Int32)), (.ref a2)])) rfl (by rw [hml]; rfl) (lenOf pd_3_7 rfl) rfl (by show 2 * 0 + _ ≤ _; exact Nat.le_of_eq rfl) (hb hby d3_36)
  obtain ⟨b3, kk3, rfl, N3q, K3, g_b3, szz3, V_b3⟩ := hQ3
  have N3 := Fr.app N0 N3q
  have ne_a1_b3 : a1 ≠ b3 := Nat.ne_of_lt (Nat.lt_of_lt_of_le E_a1.lt szz3)
  have ne_a2_b3 : a2 ≠ b3 := Nat.ne_of_lt (Nat.lt_of_lt_of_le V_a2.lt szz3)
  have sz_b3 : h0.size ≤ b3 := Nat.le_trans (Keep.refl h0 [a1]).1 szz3
  have zs4 : n0 ≤ T3.heap.size := Nat.le_trans Z0 K3.1
  have kp5 : Keep h0 T3.heap [a1] := (Keep.refl h0 [a1]).trans K3 all0
  obtain ⟨_, T6, Lc6, X6, hQ6, st6⟩ := own_callS X3 hx hZ (y := (⟨"java/lang/StringUTF16", "coderFromArrayLen", "([BI)B"⟩ : MethodName)) hown (hw _ (List.mem_of_getElem? (i := 64) rfl)) (hw _ (List.mem_of_getElem? (i := 65) rfl)) (hw _ (List.mem_of_getElem? (i := 59) rfl)) (hw _ (List.mem_of_getElem? (i := 66) rfl)) (by decide) (W := 1) (argsL := [(.ref b3), (.int (1 : Int32))]) (rest := [(.ref a1)]) (rm11_1 l Z a0 hw [] b3 (nar .byte (c0.toInt8.toInt32)) kk3 T3.heap n0 zs4 V_b3) (by decide) (by decide) (c' := 1) (s' := 1) rfl rfl (by decide) (by decide) rfl (g := (mkF m 45 #[.val (.ref a1), .val (.ref a2), .val (.int (0 : Int32)), .val (.int (1 : Int32)), .val .null, .val (.ref b3)] [(.int (1 : Int32)), (.ref b3), (.ref a1)])) rfl (by rw [hml]; rfl) (lenOf pd_3_9 rfl) rfl (by show 2 * 0 + _ ≤ _; exact Nat.le_of_eq rfl) (hb hby d3_45)
  obtain ⟨rfl, N6q, e6⟩ := hQ6
  have N6 := Fr.app N3 N6q
  have fa7 : Fld Z T3.heap a1 "java/lang/String" "coder" "B" (.int (0 : Int32)) := (F_a1_coder.keep K3 nin0)
  have fa8 : Exa Z T3.heap a1 "java/lang/String" := (E_a1.keep K3)
  obtain ⟨T9, h9, X9, e9, W9, st9⟩ := putFN X6 hx hZ hown (hw _ (List.mem_of_getElem? (i := 26) rfl)) Via.refl e6 fa7 fa8 (Or.inr ⟨(hw _ (List.mem_of_getElem? (i := 22) rfl)), rfl, hnm⟩) (hw _ (List.mem_of_getElem? (i := 6) rfl)) (ty := .byte) (v' := (.int (nar .byte (f11_1 (nar .byte (c0.toInt8.toInt32)))))) (by decide) rfl (fits_nar_byte _) (g := (mkF m 48 #[.val (.ref a1), .val (.ref a2), .val (.int (0 : Int32)), .val (.int (1 : Int32)), .val .null, .val (.ref b3)] [(.int (f11_1 (nar .byte (c0.toInt8.toInt32)))), (.ref a1)])) rfl rfl (hb hby d3_48)
  have Fw9 : Fld Z h9 a1 "java/lang/String" "coder" "B" (.int (nar .byte (f11_1 (nar .byte (c0.toInt8.toInt32))))) := fa7.same W9
  have zs10 : n0 ≤ h9.size := Nat.le_trans zs4 (Keep.of_wr W9).1
  have kp11 : Keep h0 h9 [a1] := kp5.wr W9 (Or.inl (List.mem_of_getElem? (i := 0) rfl))
  have N9 := Fr.snoc X9 N6 g_a1
  have fa12 : Fld Z h9 a1 "java/lang/String" "value" "[B" .null := ((F_a1_value.keep K3 nin0).other W9 (Or.inr (slot_ne (Or.inr (hw _ (List.mem_of_getElem? (i := 21) rfl))) (Or.inr (hw _ (List.mem_of_getElem? (i := 22) rfl))) (by decide) (t := (.array .byte)) (t' := .byte) (by decide) (by decide))))
  have fa13 : Exa Z h9 a1 "java/lang/String" := (fa8.wr W9)
  obtain ⟨T14, h14, X14, e14, W14, st14⟩ := putF X9 hx hZ hown (host := "") (Or.inl (hw _ (List.mem_of_getElem? (i := 25) rfl))) Via.refl e9 fa12 fa13 (Or.inr ⟨(hw _ (List.mem_of_getElem? (i := 21) rfl)), rfl, hnm⟩) (hw _ (List.mem_of_getElem? (i := 6) rfl)) (ty := (.array .byte)) (by decide) rfl rfl (g := (mkF m 54 #[.val (.ref a1), .val (.ref a2), .val (.int (0 : Int32)), .val (.int (1 : Int32)), .val .null, .val (.ref b3)] [(.ref b3), (.ref a1)])) rfl rfl (hb hby d3_54)
  have Fw14 : Fld Z h14 a1 "java/lang/String" "value" "[B" (.ref b3) := fa12.same W14
  have zs15 : n0 ≤ h14.size := Nat.le_trans zs10 (Keep.of_wr W14).1
  have kp16 : Keep h0 h14 [a1] := kp11.wr W14 (Or.inl (List.mem_of_getElem? (i := 0) rfl))
  have N14 := Fr.snoc X14 N9 g_a1
  obtain ⟨fs, hr, hrun, hended, hW, hsame⟩ := X14.leave (v := none) (fun _ => rfl)
  refine ⟨_, _, pre0 _ ?_, hrun, hended, _, _, rfl, ?_, ⟨_, rfl⟩, hW, hsame.mono (by decide) (by decide)⟩
  · show Steps p.tables e below (s₁.setTop (mkF m 0 #[.val (.ref a1), .val (.ref a2), .val (.int (0 : Int32)), .val (.int (1 : Int32)), .val .null, .unset] [])) _
    refine own_blk X0 hx bl3_0_1 (own_hb hby bd3_0_1) (pc' := 1) (Ls' := #[.val (.ref a1), .val (.ref a2), .val (.int (0 : Int32)), .val (.int (1 : Int32)), .val .null, .unset]) (st' := [(.ref a1)]) rfl ?_
    refine st1 _ ?_
    show Steps p.tables e below (T1.setTop (mkF m 4 #[.val (.ref a1), .val (.ref a2), .val (.int (0 : Int32)), .val (.int (1 : Int32)), .val .null, .unset] [])) _
    refine own_blk X1 hx bl3_4_1 (own_hb hby bd3_4_1) (pc' := 5) (Ls' := #[.val (.ref a1), .val (.ref a2), .val (.int (0 : Int32)), .val (.int (1 : Int32)), .val .null, .unset]) (st' := [(.int (1 : Int32))]) rfl ?_
    refine XS.ifYes X1.here hx rfl (pc0 := 5) (pc' := 27) rfl (hb hby d3_5) rfl ((if0 _ _).trans (feq (by decide : ¬ ((1 : Int32) = (0 : Int32)))).2) (by decide) (by decide) ?_
    show Steps p.tables e below (T1.setTop (mkF m 27 #[.val (.ref a1), .val (.ref a2), .val (.int (0 : Int32)), .val (.int (1 : Int32)), .val .null, .unset] [])) _
    refine st2 _ ?_
    show Steps p.tables e below (T2.setTop (mkF m 30 #[.val (.ref a1), .val (.ref a2), .val (.int (0 : Int32)), .val (.int (1 : Int32)), .val .null, .unset] [(.int wz)])) _
    refine XS.ifNo X2.here hx rfl (hb hby d3_30) rfl ((if0 _ _).trans (feq hwz).1) ?_
    show Steps p.tables e below (T2.setTop (mkF m 33 #[.val (.ref a1), .val (.ref a2), .val (.int (0 : Int32)), .val (.int (1 : Int32)), .val .null, .unset] [])) _
    refine own_blk X2 hx bl3_33_3 (own_hb hby bd3_33_3) (pc' := 36) (Ls' := #[.val (.ref a1), .val (.ref a2), .val (.int (0 : Int32)), .val (.int (1 : Int32)), .val .null, .unset]) (st' := [(.int (1 : Int32)), (.int (0 : Int32)), (.ref a2)]) rfl ?_
    refine st3 _ ?_
    show Steps p.tables e below (T3.setTop (mkF m 39 #[.val (.ref a1), .val (.ref a2), .val (.int (0 : Int32)), .val (.int (1 : Int32)), .val .null, .unset] [(.ref b3)])) _
    refine own_blk X3 hx bl3_39_1 (own_hb hby bd3_39_1) (pc' := 41) (Ls' := #[.val (.ref a1), .val (.ref a2), .val (.int (0 : Int32)), .val (.int (1 : Int32)), .val .null, .val (.ref b3)]) (st' := []) rfl ?_
    refine own_blk X3 hx bl3_41_3 (own_hb hby bd3_41_3) (pc' := 45) (Ls' := #[.val (.ref a1), .val (.ref a2), .val (.int (0 : Int32)), .val (.int (1 : Int32)), .val .null, .val (.ref b3)]) (st' := [(.int (1 : Int32)), (.ref b3), (.ref a1)]) rfl ?_
    refine st6 _ ?_
    show Steps p.tables e below (T6.setTop (mkF m 48 #[.val (.ref a1), .val (.ref a2), .val (.int (0 : Int32)), .val (.int (1 : Int32)), .val .null, .val (.ref b3)] [(.int (f11_1 (nar .byte (c0.toInt8.toInt32)))), (.ref a1)])) _
    refine st9 _ ?_
    show Steps p.tables e below (T9.setTop (mkF m 51 #[.val (.ref a1), .val (.ref a2), .val (.int (0 : Int32)), .val (.int (1 : Int32)), .val .null, .val (.ref b3)] [])) _
    refine own_blk X9 hx bl3_51_2 (own_hb hby bd3_51_2) (pc' := 54) (Ls' := #[.val (.ref a1), .val (.ref a2), .val (.int (0 : Int32)), .val (.int (1 : Int32)), .val .null, .val (.ref b3)]) (st' := [(.ref b3), (.ref a1)]) rfl ?_
    refine st14 _ ?_
    show Steps p.tables e below (T14.setTop (mkF m 57 #[.val (.ref a1), .val (.ref a2), .val (.int (0 : Int32)), .val (.int (1 : Int32)), .val .null, .val (.ref b3)] [])) _
    exact X14.returnOut hx Bd.returns (hb hby d3_57) hr
  · show Q3_1 Z a1 a2 c0 wz k_a2 h0 n0 _ T14.heap _
    rw [e14]
    exact ⟨rfl, N14, kp16⟩
theorem d2_0 : decode jdk_42_method_3_code 0 = .ok (.aload_n 0, 1) := by decide +kernel
theorem d2_1 : decode jdk_42_method_3_code 1 = .ok (.aload_n 1, 1) := by decide +kernel
theorem d2_2 : decode jdk_42_method_3_code 2 = .ok (.iconst 0, 1) := by decide +kernel
theorem d2_3 : decode jdk_42_method_3_code 3 = .ok (.aload_n 1, 1) := by decide +kernel
theorem d2_4 : decode jdk_42_method_3_code 4 = .ok (.arraylength, 1) := by decide +kernel
theorem d2_5 : decode jdk_42_method_3_code 5 = .ok (.aconst_null, 1) := by decide +kernel
theorem d2_6 : decode jdk_42_method_3_code 6 = .ok (.invokespecial 27, 3) := by decide +kernel
theorem d2_9 : decode jdk_42_method_3_code 9 = .ok (.return_, 1) := by decide +kernel
theorem pn_2 : plainName "java/lang/String" = true := by first | (simp [plainName, overriddenIn]; done) | decide +kernel
theorem pd_2_2 : parseMethodDescriptor "([CIILjava/lang/Void;)V" = some ⟨[(.array .char), .int, .int, (.object "java/lang/Void")], none⟩ := by decide +kernel
theorem ef_2 (m : MethodId) (x0 : Addr) (x1 : Addr) : entryFrame m #[(.ref x0), (.ref x1)] 2 = mkF m 0 #[.val (.ref x0), .val (.ref x1)] [] := by first | (simp [entryFrame, mkF, argsToLocals, Value.category]; done) | rfl
def bl2_0_4 : List (Nat × Instr × Nat) := [(0, .aload_n 0, 1), (1, .aload_n 1, 1), (2, .iconst 0, 1), (3, .aload_n 1, 1)]
theorem bd2_0_4 : own_dec jdk_42_method_3_code bl2_0_4 = true := by decide +kernel
def bl2_5_1 : List (Nat × Instr × Nat) := [(5, .aconst_null, 1)]
theorem bd2_5_1 : own_dec jdk_42_method_3_code bl2_5_1 = true := by decide +kernel

def Q2_1 (Z : State) (a1 : Addr) (a2 : Addr) (c0 : Int32) (wz : Int32) (k_a2 : ClassId) (h0 : Heap) (n0 : Nat) (v : Option Value) (h : Heap) (L : List Loc) : Prop := v = none ∧ Fr n0 L ∧ Keep h0 h [a1]
set_option maxRecDepth 65536 in
set_option maxHeartbeats 40000000 in
theorem rm2_1 (l : Launch) (Z : State) (a0 : Array Value) (hw : ∀ d ∈ tables_1, d.before a0 Z = true) (ws : List Jvm.Cond) (a1 : Addr) (a2 : Addr) (c0 : Int32) (wz : Int32) (k_a2 : ClassId) (h0 : Heap) (n0 : Nat) (Z0 : n0 ≤ h0.size) (E_a1 : Exa Z h0 a1 "java/lang/String") (F_a1_value : Fld Z h0 a1 "java/lang/String" "value" "[B" .null) (F_a1_coder : Fld Z h0 a1 "java/lang/String" "coder" "B" (.int (0 : Int32))) (g_a1 : n0 ≤ a1) (V_a2 : Arv Z h0 a2 k_a2 .char (1 : Int32) [(.int c0)] (.int (0 : Int32))) (S_COMPACT_STRINGS : Sta Z h0 "java/lang/String" "COMPACT_STRINGS" "Z" (.int wz)) (ne_a2_a1 : a2 ≠ a1) (hc0 : ¬ ((255 : Int32) < c0)) (hwz : ¬ wz = 0) :
    MetFree l (⟨"java/lang/String", "<init>", "([C)V"⟩ : MethodName) (head1 (Jvm.Cond.code (⟨"java/lang/String", "<init>", "([C)V"⟩ : MethodName) jdk_42_method_3_code 2 none :: ws) ({ frames := 3, cells := 1, slots := 1, locals := 52 } : Room)) (fun a U => a = #[(.ref a1), (.ref a2)] ∧ Z.Warmed39 U.vm ∧ U.heap = h0) (fun _ _ _ _ _ => True) (fun _ U o U' => ∃ v L, o = .returned v ∧ Q2_1 Z a1 a2 c0 wz k_a2 h0 n0 v U'.heap L ∧ FrameEnd U o U' L ({ frames := 3, cells := 1, slots := 1, locals := 52 } : Room).cells ({ frames := 3, cells := 1, slots := 1, locals := 52 } : Room).slots) := by
  refine MetFree.of_bodySF (plainFor_of_name pn_2) hisR ?_
  intro p e s m args below meth c s₁ Bd hml0 hP hK
  obtain ⟨rfl, hZ, hh⟩ := hP
  have hx := Bd.exec
  have hby := Bd.bytes
  have hml : c.maxLocals = 2 := hml0
  have hown : s.vm.findClass "java/lang/String" = some m.cls := findClass_of_methodNamed Bd.named
  have hnm := (name_of_methodNamed Bd.named Bd.method).1
  have X0 : Stand p l e ({ frames := 3, cells := 1, slots := 1, locals := 52 } : Room) s m #[(.ref a1), (.ref a2)] below meth c s₁ [] 0 0 := Stand.of_body Bd
  have e0 : s₁.heap = h0 := by rw [← hh, Bd.state]; rfl
  have N0 := Fr.nil n0
  have pre0 : ∀ t, Steps p.tables e below (s₁.setTop (mkF m 0 #[.val (.ref a1), .val (.ref a2)] [])) t → Steps p.tables e below (s₁.setTop (entryFrame m #[(.ref a1), (.ref a2)] 2)) t := fun t k => castTop (ef_2 m a1 a2) k
  obtain ⟨cx1, Ar1, qq1, S1, N1_, H1, G1⟩ := id V_a2
  obtain ⟨_, T2, Lc2, X2, hQ2, st2⟩ := own_callI X0 hx hZ (y := (⟨"java/lang/String", "<init>", "([CIILjava/lang/Void;)V"⟩ : MethodName)) rfl hown (hw _ (List.mem_of_getElem? (i := 12) rfl)) (hw _ (List.mem_of_getElem? (i := 13) rfl)) (hw _ (List.mem_of_getElem? (i := 7) rfl)) (hw _ (List.mem_of_getElem? (i := 15) rfl)) (by decide) (W := 0) (a := a1) (argsL := [(.ref a2), (.int (0 : Int32)), (.int (1 : Int32)), .null]) (rest := []) (rm3_1 l Z a0 hw [] a1 a2 c0 wz k_a2 h0 n0 Z0 E_a1 F_a1_value F_a1_coder g_a1 V_a2 S_COMPACT_STRINGS ne_a2_a1 hc0 hwz) (by decide) (by decide) (c' := 1) (s' := 1) rfl rfl (by decide) (by decide) e0 (g := (mkF m 6 #[.val (.ref a1), .val (.ref a2)] [.null, (.int (1 : Int32)), (.int (0 : Int32)), (.ref a2), (.ref a1)])) rfl (by rw [hml]; rfl) (lenOf pd_2_2 rfl) rfl (by show 2 * 0 + _ ≤ _; exact Nat.le_of_eq rfl) (hb hby d2_6)
  obtain ⟨rfl, N2q, K2⟩ := hQ2
  have N2 := Fr.app N0 N2q
  have zs3 : n0 ≤ T2.heap.size := Nat.le_trans Z0 K2.1
  have kp4 : Keep h0 T2.heap [a1] := (Keep.refl h0 [a1]).trans K2 (allS (Or.inl (List.mem_of_getElem? (i := 0) rfl)) all0)
  obtain ⟨fs, hr, hrun, hended, hW, hsame⟩ := X2.leave (v := none) (fun _ => rfl)
  refine ⟨_, _, pre0 _ ?_, hrun, hended, _, _, rfl, ?_, ⟨_, rfl⟩, hW, hsame.mono (by decide) (by decide)⟩
  · show Steps p.tables e below (s₁.setTop (mkF m 0 #[.val (.ref a1), .val (.ref a2)] [])) _
    refine own_blk X0 hx bl2_0_4 (own_hb hby bd2_0_4) (pc' := 4) (Ls' := #[.val (.ref a1), .val (.ref a2)]) (st' := [(.ref a2), (.int (0 : Int32)), (.ref a2), (.ref a1)]) rfl ?_
    refine X0.arraylength hx (by rw [e0]; exact Ar1.1) (State.isArrayOf_alike hZ.alike Ar1.2.1) (g := (mkF m 4 #[.val (.ref a1), .val (.ref a2)] [(.ref a2), (.int (0 : Int32)), (.ref a2), (.ref a1)])) rfl rfl (hb hby d2_4) _ ?_
    rw [len_of S1 N1_]
    show Steps p.tables e below (s₁.setTop (mkF m 5 #[.val (.ref a1), .val (.ref a2)] [(.int (1 : Int32)), (.int (0 : Int32)), (.ref a2), (.ref a1)])) _
    refine own_blk X0 hx bl2_5_1 (own_hb hby bd2_5_1) (pc' := 6) (Ls' := #[.val (.ref a1), .val (.ref a2)]) (st' := [.null, (.int (1 : Int32)), (.int (0 : Int32)), (.ref a2), (.ref a1)]) rfl ?_
    refine st2 _ ?_
    show Steps p.tables e below (T2.setTop (mkF m 9 #[.val (.ref a1), .val (.ref a2)] [])) _
    exact X2.returnOut hx Bd.returns (hb hby d2_9) hr
  · show Q2_1 Z a1 a2 c0 wz k_a2 h0 n0 _ T2.heap _
    exact ⟨rfl, N2, kp4⟩
theorem own_c255 (x : Int32) : ¬ ((255 : Int32) < (nar .char ((x &&& (255 : Int32)).toUInt32.toUInt16.toUInt32.toInt32))) := by
  have h := c_mask x 255 8 (by decide) (by decide)
  have q := c_i2c (x &&& 255)
  have q2 := c_i2c ((x &&& (255 : Int32)).toUInt32.toUInt16.toUInt32.toInt32)
  have l : (255 : Int32).toInt = 255 := by decide
  show ¬ ((255 : Int32) < (((x &&& (255 : Int32)).toUInt32.toUInt16.toUInt32.toInt32)).toUInt32.toUInt16.toUInt32.toInt32)
  rw [Int32.lt_iff_toInt_lt, l]; omega
theorem d1_0 : decode method_3_code 0 = .ok (.iload_n 0, 1) := by decide +kernel
theorem d1_1 : decode method_3_code 1 = .ok (.ifCond .ne 14, 3) := by decide +kernel
theorem d1_15 : decode method_3_code 15 = .ok (.iload_n 0, 1) := by decide +kernel
theorem d1_16 : decode method_3_code 16 = .ok (.iconst 1, 1) := by decide +kernel
theorem d1_17 : decode method_3_code 17 = .ok (.if_icmp .ne 25, 3) := by decide +kernel
theorem d1_20 : decode method_3_code 20 = .ok (.iconst 1, 1) := by decide +kernel
theorem d1_21 : decode method_3_code 21 = .ok (.newarray .char, 2) := by decide +kernel
theorem d1_23 : decode method_3_code 23 = .ok (.astore_n 3, 1) := by decide +kernel
theorem d1_24 : decode method_3_code 24 = .ok (.aload_n 3, 1) := by decide +kernel
theorem d1_25 : decode method_3_code 25 = .ok (.iconst 0, 1) := by decide +kernel
theorem d1_26 : decode method_3_code 26 = .ok (.iload_n 1, 1) := by decide +kernel
theorem d1_27 : decode method_3_code 27 = .ok (.sipush 255, 3) := by decide +kernel
theorem d1_30 : decode method_3_code 30 = .ok (.iand, 1) := by decide +kernel
theorem d1_31 : decode method_3_code 31 = .ok (.i2c, 1) := by decide +kernel
theorem d1_32 : decode method_3_code 32 = .ok (.castore, 1) := by decide +kernel
theorem d1_33 : decode method_3_code 33 = .ok (.new 16, 3) := by decide +kernel
theorem d1_36 : decode method_3_code 36 = .ok (.dup, 1) := by decide +kernel
theorem d1_37 : decode method_3_code 37 = .ok (.aload_n 3, 1) := by decide +kernel
theorem d1_38 : decode method_3_code 38 = .ok (.invokespecial 18, 3) := by decide +kernel
theorem d1_41 : decode method_3_code 41 = .ok (.areturn, 1) := by decide +kernel
theorem pn_1 : plainName "com/example/vendsettle/vendsettle/StatusIsSuccessPinLaw" = true := by first | (simp [plainName, overriddenIn]; done) | decide +kernel
theorem pd_1_1 : parseMethodDescriptor "([C)V" = some ⟨[(.array .char)], none⟩ := by decide +kernel
theorem ef_1 (m : MethodId) (x0 : Int32) (x1 : Int32) (x2 : Int32) : entryFrame m #[(.int x0), (.int x1), (.int x2)] 4 = mkF m 0 #[.val (.int x0), .val (.int x1), .val (.int x2), .unset] [] := by first | (simp [entryFrame, mkF, argsToLocals, Value.category]; done) | rfl
def bl1_0_1 : List (Nat × Instr × Nat) := [(0, .iload_n 0, 1)]
theorem bd1_0_1 : own_dec method_3_code bl1_0_1 = true := by decide +kernel
def bl1_15_2 : List (Nat × Instr × Nat) := [(15, .iload_n 0, 1), (16, .iconst 1, 1)]
theorem bd1_15_2 : own_dec method_3_code bl1_15_2 = true := by decide +kernel
def bl1_20_1 : List (Nat × Instr × Nat) := [(20, .iconst 1, 1)]
theorem bd1_20_1 : own_dec method_3_code bl1_20_1 = true := by decide +kernel
def bl1_23_1 : List (Nat × Instr × Nat) := [(23, .astore_n 3, 1)]
theorem bd1_23_1 : own_dec method_3_code bl1_23_1 = true := by decide +kernel
def bl1_24_6 : List (Nat × Instr × Nat) := [(24, .aload_n 3, 1), (25, .iconst 0, 1), (26, .iload_n 1, 1), (27, .sipush 255, 3), (30, .iand, 1), (31, .i2c, 1)]
theorem bd1_24_6 : own_dec method_3_code bl1_24_6 = true := by decide +kernel
def bl1_36_2 : List (Nat × Instr × Nat) := [(36, .dup, 1), (37, .aload_n 3, 1)]
theorem bd1_36_2 : own_dec method_3_code bl1_36_2 = true := by decide +kernel

def Q1_1 (Z : State) (p2 : Int32) (p3 : Int32) (wz : Int32) (h0 : Heap) (n0 : Nat) (v : Option Value) (h : Heap) (L : List Loc) : Prop := ∃ b : Addr, v = some (.ref b) ∧ Fr n0 L ∧ Keep h0 h []
set_option maxRecDepth 65536 in
set_option maxHeartbeats 40000000 in
theorem rm1_1 (l : Launch) (Z : State) (a0 : Array Value) (hw : ∀ d ∈ tables_1, d.before a0 Z = true) (ws : List Jvm.Cond) (p2 : Int32) (p3 : Int32) (wz : Int32) (h0 : Heap) (n0 : Nat) (Z0 : n0 ≤ h0.size) (S_COMPACT_STRINGS : Sta Z h0 "java/lang/String" "COMPACT_STRINGS" "Z" (.int wz)) (hwz : ¬ wz = 0) :
    MetFree l (⟨"com/example/vendsettle/vendsettle/StatusIsSuccessPinLaw", "messageOf", "(III)Ljava/lang/String;"⟩ : MethodName) (head1 (Jvm.Cond.code (⟨"com/example/vendsettle/vendsettle/StatusIsSuccessPinLaw", "messageOf", "(III)Ljava/lang/String;"⟩ : MethodName) method_3_code 4 (some (.object "java/lang/String")) :: ws) ({ frames := 4, cells := 3, slots := 6, locals := 66 } : Room)) (fun a U => a = #[(.int (1 : Int32)), (.int p2), (.int p3)] ∧ Z.Warmed39 U.vm ∧ U.heap = h0) (fun _ _ _ _ _ => True) (fun _ U o U' => ∃ v L, o = .returned v ∧ Q1_1 Z p2 p3 wz h0 n0 v U'.heap L ∧ FrameEnd U o U' L ({ frames := 4, cells := 3, slots := 6, locals := 66 } : Room).cells ({ frames := 4, cells := 3, slots := 6, locals := 66 } : Room).slots) := by
  refine MetFree.of_bodySF (plainFor_of_name pn_1) hisR ?_
  intro p e s m args below meth c s₁ Bd hml0 hP hK
  obtain ⟨rfl, hZ, hh⟩ := hP
  have hx := Bd.exec
  have hby := Bd.bytes
  have hml : c.maxLocals = 4 := hml0
  have hown : s.vm.findClass "com/example/vendsettle/vendsettle/StatusIsSuccessPinLaw" = some m.cls := findClass_of_methodNamed Bd.named
  have hnm := (name_of_methodNamed Bd.named Bd.method).1
  have X0 : Stand p l e ({ frames := 4, cells := 3, slots := 6, locals := 66 } : Room) s m #[(.int (1 : Int32)), (.int p2), (.int p3)] below meth c s₁ [] 0 0 := Stand.of_body Bd
  have e0 : s₁.heap = h0 := by rw [← hh, Bd.state]; rfl
  have N0 := Fr.nil n0
  have pre0 : ∀ t, Steps p.tables e below (s₁.setTop (mkF m 0 #[.val (.int (1 : Int32)), .val (.int p2), .val (.int p3), .unset] [])) t → Steps p.tables e below (s₁.setTop (entryFrame m #[(.int (1 : Int32)), (.int p2), (.int p3)] 4)) t := fun t k => castTop (ef_1 m (1 : Int32) p2 p3) k
  obtain ⟨T1, h1, k1, X1, e1, E1, A1, st1⟩ := newP X0 hx hZ (hw _ (List.mem_of_getElem? (i := 8) rfl)) e0 (g := (mkF m 21 #[.val (.int (1 : Int32)), .val (.int p2), .val (.int p3), .unset] [(.int (1 : Int32))])) rfl (hb hby d1_21) rfl (by decide) (cap := 1) (by decide) (by decide) (by decide) (by decide)
  obtain ⟨b1, g1⟩ : ∃ z, z = h0.size := ⟨_, rfl⟩
  rw [← g1] at A1 st1
  have g_b1 : n0 ≤ b1 := Nat.le_trans Z0 (Nat.le_of_eq g1.symm)
  have sz_b1 : h0.size ≤ b1 := Nat.le_trans (Keep.refl h0 []).1 (Nat.le_of_eq g1.symm)
  have zs2 : n0 ≤ h1.size := Nat.le_trans Z0 E1.1
  have kp3 : Keep h0 h1 [] := (Keep.refl h0 []).ext E1
  have V_b1 : Arv Z h1 b1 k1 .char (1 : Int32) [(.int (0 : Int32))] (.int (0 : Int32)) := (Arv.new A1 (by decide)).pad (pad_rep [] (.int (0 : Int32)) 1)
  obtain ⟨cx4, Ar4, qq4, S4, N4_, H4, G4⟩ := id V_b1
  have hin4 : ¬ ((0 : Int32) < 0 ∨ cx4.slots.size ≤ ((0 : Int32)).toNatClampNeg) := inb_of S4 ⟨by decide, by decide⟩
  obtain ⟨T4, h4, X4, e4, W4, st4⟩ := stC X1 hx hZ e1 Ar4 (j := (0 : Int32)) hin4 (g := (mkF m 32 #[.val (.int (1 : Int32)), .val (.int p2), .val (.int p3), .val (.ref b1)] [(.int ((p2 &&& (255 : Int32)).toUInt32.toUInt16.toUInt32.toInt32)), (.int (0 : Int32)), (.ref b1)])) rfl rfl (hb hby d1_32)
  have V4 : Arv Z h4 b1 k1 .char (1 : Int32) [(.int (nar .char ((p2 &&& (255 : Int32)).toUInt32.toUInt16.toUInt32.toInt32)))] (.int (0 : Int32)) := Arv.set Ar4 qq4 S4 N4_ H4 G4 (fits_nar_char _) W4 0 rfl (Nat.le_of_ble_eq_true rfl)
  have zs5 : n0 ≤ h4.size := Nat.le_trans zs2 (Keep.of_wr W4).1
  have kp6 : Keep h0 h4 [] := kp3.wr W4 (Or.inr sz_b1)
  have N4 := Fr.snoc X4 N0 g_b1
  obtain ⟨T7, h7, X7, e7, E7, A7, D7, -, st7⟩ := newO X4 hx hZ hown (hw _ (List.mem_of_getElem? (i := 5) rfl)) (hw _ (List.mem_of_getElem? (i := 6) rfl)) (hw _ (List.mem_of_getElem? (i := 7) rfl)) e4 (g := (mkF m 33 #[.val (.int (1 : Int32)), .val (.int p2), .val (.int p3), .val (.ref b1)] [])) rfl (hb hby d1_33) (by decide) (by decide)
  obtain ⟨b7, g7⟩ : ∃ z, z = h4.size := ⟨_, rfl⟩
  rw [← g7] at A7 D7 st7
  have ne_b1_b7 : b1 ≠ b7 := Nat.ne_of_lt (Nat.lt_of_lt_of_le V4.lt (Nat.le_of_eq g7.symm))
  have g_b7 : n0 ≤ b7 := Nat.le_trans zs5 (Nat.le_of_eq g7.symm)
  have sz_b7 : h0.size ≤ b7 := Nat.le_trans kp6.1 (Nat.le_of_eq g7.symm)
  have zs8 : n0 ≤ h7.size := Nat.le_trans zs5 E7.1
  have kp9 : Keep h0 h7 [] := kp6.ext E7
  have F_value_b7 : Fld Z h7 b7 "java/lang/String" "value" "[B" .null := D7 (Or.inr (hw _ (List.mem_of_getElem? (i := 21) rfl))) (ty := (.array .byte)) (by decide)
  have F_coder_b7 : Fld Z h7 b7 "java/lang/String" "coder" "B" (.int (0 : Int32)) := D7 (Or.inr (hw _ (List.mem_of_getElem? (i := 22) rfl))) (ty := .byte) (by decide)
  have fa11 : Arv Z h7 b1 k1 .char (1 : Int32) [(.int (nar .char ((p2 &&& (255 : Int32)).toUInt32.toUInt16.toUInt32.toInt32)))] (.int (0 : Int32)) := (V4.ext E7)
  have fa12 : Sta Z h7 "java/lang/String" "COMPACT_STRINGS" "Z" (.int wz) := (((S_COMPACT_STRINGS.ext E1).wr W4).ext E7)
  obtain ⟨_, T10, Lc10, X10, hQ10, st10⟩ := own_callI X7 hx hZ (y := (⟨"java/lang/String", "<init>", "([C)V"⟩ : MethodName)) rfl hown (hw _ (List.mem_of_getElem? (i := 9) rfl)) (hw _ (List.mem_of_getElem? (i := 10) rfl)) (hw _ (List.mem_of_getElem? (i := 7) rfl)) (hw _ (List.mem_of_getElem? (i := 11) rfl)) (by decide) (W := 1) (a := b7) (argsL := [(.ref b1)]) (rest := [(.ref b7)]) (rm2_1 l Z a0 hw [] b7 b1 (nar .char ((p2 &&& (255 : Int32)).toUInt32.toUInt16.toUInt32.toInt32)) wz k1 h7 n0 zs8 A7 F_value_b7 F_coder_b7 g_b7 fa11 fa12 ne_b1_b7 (own_c255 p2) hwz) (by decide) (by decide) (c' := 3) (s' := 6) rfl rfl (by decide) (by decide) e7 (g := (mkF m 38 #[.val (.int (1 : Int32)), .val (.int p2), .val (.int p3), .val (.ref b1)] [(.ref b1), (.ref b7), (.ref b7)])) rfl (by rw [hml]; rfl) (lenOf pd_1_1 rfl) rfl (by show 2 * 0 + _ ≤ _; exact Nat.le_of_eq rfl) (hb hby d1_38)
  obtain ⟨rfl, N10q, K10⟩ := hQ10
  have N10 := Fr.app N4 N10q
  have zs13 : n0 ≤ T10.heap.size := Nat.le_trans zs8 K10.1
  have kp14 : Keep h0 T10.heap [] := kp9.trans K10 (allS (Or.inr sz_b7) all0)
  obtain ⟨fs, hr, hrun, hended, hW, hsame⟩ := X10.leave (v := some (.ref b7)) (fun h => by rw [Bd.returns] at h; cases h)
  refine ⟨_, _, pre0 _ ?_, hrun, hended, _, _, rfl, ?_, ⟨_, rfl⟩, hW, hsame.mono (by decide) (by decide)⟩
  · show Steps p.tables e below (s₁.setTop (mkF m 0 #[.val (.int (1 : Int32)), .val (.int p2), .val (.int p3), .unset] [])) _
    refine own_blk X0 hx bl1_0_1 (own_hb hby bd1_0_1) (pc' := 1) (Ls' := #[.val (.int (1 : Int32)), .val (.int p2), .val (.int p3), .unset]) (st' := [(.int (1 : Int32))]) rfl ?_
    refine XS.ifYes X0.here hx rfl (pc0 := 1) (pc' := 15) rfl (hb hby d1_1) rfl ((if0 _ _).trans (feq (by decide : ¬ ((1 : Int32) = (0 : Int32)))).2) (by decide) (by decide) ?_
    show Steps p.tables e below (s₁.setTop (mkF m 15 #[.val (.int (1 : Int32)), .val (.int p2), .val (.int p3), .unset] [])) _
    refine own_blk X0 hx bl1_15_2 (own_hb hby bd1_15_2) (pc' := 17) (Ls' := #[.val (.int (1 : Int32)), .val (.int p2), .val (.int p3), .unset]) (st' := [(.int (1 : Int32)), (.int (1 : Int32))]) rfl ?_
    refine XS.icmpNo X0.here hx rfl (hb hby d1_17) rfl (teq (by decide : (1 : Int32) = (1 : Int32))).2 ?_
    show Steps p.tables e below (s₁.setTop (mkF m 20 #[.val (.int (1 : Int32)), .val (.int p2), .val (.int p3), .unset] [])) _
    refine own_blk X0 hx bl1_20_1 (own_hb hby bd1_20_1) (pc' := 21) (Ls' := #[.val (.int (1 : Int32)), .val (.int p2), .val (.int p3), .unset]) (st' := [(.int (1 : Int32))]) rfl ?_
    refine st1 _ ?_
    show Steps p.tables e below (T1.setTop (mkF m 23 #[.val (.int (1 : Int32)), .val (.int p2), .val (.int p3), .unset] [(.ref b1)])) _
    refine own_blk X1 hx bl1_23_1 (own_hb hby bd1_23_1) (pc' := 24) (Ls' := #[.val (.int (1 : Int32)), .val (.int p2), .val (.int p3), .val (.ref b1)]) (st' := []) rfl ?_
    refine own_blk X1 hx bl1_24_6 (own_hb hby bd1_24_6) (pc' := 32) (Ls' := #[.val (.int (1 : Int32)), .val (.int p2), .val (.int p3), .val (.ref b1)]) (st' := [(.int ((p2 &&& (255 : Int32)).toUInt32.toUInt16.toUInt32.toInt32)), (.int (0 : Int32)), (.ref b1)]) rfl ?_
    refine st4 _ ?_
    show Steps p.tables e below (T4.setTop (mkF m 33 #[.val (.int (1 : Int32)), .val (.int p2), .val (.int p3), .val (.ref b1)] [])) _
    refine st7 _ ?_
    show Steps p.tables e below (T7.setTop (mkF m 36 #[.val (.int (1 : Int32)), .val (.int p2), .val (.int p3), .val (.ref b1)] [(.ref b7)])) _
    refine own_blk X7 hx bl1_36_2 (own_hb hby bd1_36_2) (pc' := 38) (Ls' := #[.val (.int (1 : Int32)), .val (.int p2), .val (.int p3), .val (.ref b1)]) (st' := [(.ref b1), (.ref b7), (.ref b7)]) rfl ?_
    refine st10 _ ?_
    show Steps p.tables e below (T10.setTop (mkF m 41 #[.val (.int (1 : Int32)), .val (.int p2), .val (.int p3), .val (.ref b1)] [(.ref b7)])) _
    jvm_step X10.here [X10.here.top, hx, (hb hby d1_41), X10.method', Bd.returns, Value.isRef, FieldType.isReference]
    first | (intro acts; rw [hr _ acts rfl rfl rfl]) | rw [hr _ _ rfl rfl rfl]
    exact Steps.refl _
  · show Q1_1 Z p2 p3 wz h0 n0 _ T10.heap _
    exact ⟨b7, rfl, N10, kp14⟩

def f10_2 (c0 : Int32) (c1 : Int32) : Int32 := (2 : Int32)
def Q10_2 (Z : State) (a1 : Addr) (a3 : Addr) (c0 : Int32) (c1 : Int32) (k_a1 : ClassId) (k_a3 : ClassId) (h0 : Heap) (n0 : Nat) (v : Option Value) (h : Heap) (L : List Loc) : Prop := v = some (.int (f10_2 c0 c1)) ∧ Fr n0 L ∧ Keep h0 h [a3] ∧ Arv Z h a3 k_a3 .byte (2 : Int32) [(.int (nar .byte (c0.toInt8.toInt32))), (.int (nar .byte (c1.toInt8.toInt32)))] (.int (0 : Int32))
set_option maxRecDepth 65536 in
set_option maxHeartbeats 40000000 in
theorem rm10_2 (l : Launch) (Z : State) (a0 : Array Value) (hw : ∀ d ∈ tables_1, d.before a0 Z = true) (ws : List Jvm.Cond) (a1 : Addr) (a3 : Addr) (c0 : Int32) (c1 : Int32) (k_a1 : ClassId) (k_a3 : ClassId) (h0 : Heap) (n0 : Nat) (Z0 : n0 ≤ h0.size) (V_a1 : Arv Z h0 a1 k_a1 .char (2 : Int32) [(.int c0), (.int c1)] (.int (0 : Int32))) (V_a3 : Arv Z h0 a3 k_a3 .byte (2 : Int32) [(.int (0 : Int32)), (.int (0 : Int32))] (.int (0 : Int32))) (g_a3 : n0 ≤ a3) (ne_a1_a3 : a1 ≠ a3) (hc0 : ¬ ((255 : Int32) < c0)) (hc1 : ¬ ((255 : Int32) < c1)) :
    MetFree l (⟨"java/lang/StringUTF16", "compress", "([CI[BII)I"⟩ : MethodName) (head1 (Jvm.Cond.code (⟨"java/lang/StringUTF16", "compress", "([CI[BII)I"⟩ : MethodName) jdk_52_method_21_code 7 (some .int) :: ws) ({ frames := 0, cells := 0, slots := 0, locals := 0 } : Room)) (fun a U => a = #[(.ref a1), (.int (0 : Int32)), (.ref a3), (.int (0 : Int32)), (.int (2 : Int32))] ∧ Z.Warmed39 U.vm ∧ U.heap = h0) (fun _ _ _ _ _ => True) (fun _ U o U' => ∃ v L, o = .returned v ∧ Q10_2 Z a1 a3 c0 c1 k_a1 k_a3 h0 n0 v U'.heap L ∧ FrameEnd U o U' L ({ frames := 0, cells := 0, slots := 0, locals := 0 } : Room).cells ({ frames := 0, cells := 0, slots := 0, locals := 0 } : Room).slots) := by
  refine MetFree.of_bodySF (plainFor_of_name pn_10) hisR ?_
  intro p e s m args below meth c s₁ Bd hml0 hP hK
  obtain ⟨rfl, hZ, hh⟩ := hP
  have hx := Bd.exec
  have hby := Bd.bytes
  have hml : c.maxLocals = 7 := hml0
  have hown : s.vm.findClass "java/lang/StringUTF16" = some m.cls := findClass_of_methodNamed Bd.named
  have hnm := (name_of_methodNamed Bd.named Bd.method).1
  have X0 : Stand p l e ({ frames := 0, cells := 0, slots := 0, locals := 0 } : Room) s m #[(.ref a1), (.int (0 : Int32)), (.ref a3), (.int (0 : Int32)), (.int (2 : Int32))] below meth c s₁ [] 0 0 := Stand.of_body Bd
  have e0 : s₁.heap = h0 := by rw [← hh, Bd.state]; rfl
  have N0 := Fr.nil n0
  have pre0 : ∀ t, Steps p.tables e below (s₁.setTop (mkF m 0 #[.val (.ref a1), .val (.int (0 : Int32)), .val (.ref a3), .val (.int (0 : Int32)), .val (.int (2 : Int32)), .unset, .unset] [])) t → Steps p.tables e below (s₁.setTop (entryFrame m #[(.ref a1), (.int (0 : Int32)), (.ref a3), (.int (0 : Int32)), (.int (2 : Int32))] 7)) t := fun t k => castTop (ef_10 m a1 (0 : Int32) a3 (0 : Int32) (2 : Int32)) k
  obtain ⟨cx1, Ar1, qq1, S1, N1_, H1, G1⟩ := id V_a1
  have hin1 : ¬ ((0 : Int32) < 0 ∨ cx1.slots.size ≤ ((0 : Int32)).toNatClampNeg) := inb_of S1 ⟨by decide, by decide⟩
  have hat1 : cx1.slots[((0 : Int32)).toNatClampNeg]? = some (.int c0) := (H1 ((0 : Int32)).toNatClampNeg (Nat.lt_of_not_le fun w => hin1 (Or.inr w))).trans (congrArg some (rfl))
  obtain ⟨cx2, Ar2, qq2, S2, N2_, H2, G2⟩ := id V_a3
  have hin2 : ¬ ((0 : Int32) < 0 ∨ cx2.slots.size ≤ ((0 : Int32)).toNatClampNeg) := inb_of S2 ⟨by decide, by decide⟩
  obtain ⟨T2, h2, X2, e2, W2, st2⟩ := stB X0 hx hZ e0 Ar2 (j := (0 : Int32)) hin2 (g := (mkF m 31 #[.val (.ref a1), .val (.int (0 : Int32)), .val (.ref a3), .val (.int (0 : Int32)), .val (.int (2 : Int32)), .val (.int (0 : Int32)), .val (.int c0)] [(.int (c0.toInt8.toInt32)), (.int (0 : Int32)), (.ref a3)])) rfl rfl (hb hby d10_31)
  have V2 : Arv Z h2 a3 k_a3 .byte (2 : Int32) [(.int (nar .byte (c0.toInt8.toInt32))), (.int (0 : Int32))] (.int (0 : Int32)) := Arv.set Ar2 qq2 S2 N2_ H2 G2 (fits_nar_byte _) W2 0 rfl (Nat.le_of_ble_eq_true rfl)
  have zs3 : n0 ≤ h2.size := Nat.le_trans Z0 (Keep.of_wr W2).1
  have kp4 : Keep h0 h2 [a3] := (Keep.refl h0 [a3]).wr W2 (Or.inl (List.mem_of_getElem? (i := 0) rfl))
  have N2 := Fr.snoc X2 N0 g_a3
  have fa5 : Arv Z h2 a1 k_a1 .char (2 : Int32) [(.int c0), (.int c1)] (.int (0 : Int32)) := (V_a1.other W2 ne_a1_a3)
  obtain ⟨cx6, Ar6, qq6, S6, N6_, H6, G6⟩ := id fa5
  have hin6 : ¬ ((1 : Int32) < 0 ∨ cx6.slots.size ≤ ((1 : Int32)).toNatClampNeg) := inb_of S6 ⟨by decide, by decide⟩
  have hat6 : cx6.slots[((1 : Int32)).toNatClampNeg]? = some (.int c1) := (H6 ((1 : Int32)).toNatClampNeg (Nat.lt_of_not_le fun w => hin6 (Or.inr w))).trans (congrArg some (rfl))
  obtain ⟨cx7, Ar7, qq7, S7, N7_, H7, G7⟩ := id V2
  have hin7 : ¬ ((1 : Int32) < 0 ∨ cx7.slots.size ≤ ((1 : Int32)).toNatClampNeg) := inb_of S7 ⟨by decide, by decide⟩
  obtain ⟨T7, h7, X7, e7, W7, st7⟩ := stB X2 hx hZ e2 Ar7 (j := (1 : Int32)) hin7 (g := (mkF m 31 #[.val (.ref a1), .val (.int (1 : Int32)), .val (.ref a3), .val (.int (1 : Int32)), .val (.int (2 : Int32)), .val (.int (1 : Int32)), .val (.int c1)] [(.int (c1.toInt8.toInt32)), (.int (1 : Int32)), (.ref a3)])) rfl rfl (hb hby d10_31)
  have V7 : Arv Z h7 a3 k_a3 .byte (2 : Int32) [(.int (nar .byte (c0.toInt8.toInt32))), (.int (nar .byte (c1.toInt8.toInt32)))] (.int (0 : Int32)) := Arv.set Ar7 qq7 S7 N7_ H7 G7 (fits_nar_byte _) W7 1 rfl (Nat.le_of_ble_eq_true rfl)
  have zs8 : n0 ≤ h7.size := Nat.le_trans zs3 (Keep.of_wr W7).1
  have kp9 : Keep h0 h7 [a3] := kp4.wr W7 (Or.inl (List.mem_of_getElem? (i := 0) rfl))
  have N7 := Fr.snoc X7 N2 g_a3
  obtain ⟨fs, hr, hrun, hended, hW, hsame⟩ := X7.leave (v := some (.int (2 : Int32))) (fun h => by rw [Bd.returns] at h; cases h)
  refine ⟨_, _, pre0 _ ?_, hrun, hended, _, _, rfl, ?_, ⟨_, rfl⟩, hW, hsame.mono (by decide) (by decide)⟩
  · show Steps p.tables e below (s₁.setTop (mkF m 0 #[.val (.ref a1), .val (.int (0 : Int32)), .val (.ref a3), .val (.int (0 : Int32)), .val (.int (2 : Int32)), .unset, .unset] [])) _
    refine own_blk X0 hx bl10_0_2 (own_hb hby bd10_0_2) (pc' := 3) (Ls' := #[.val (.ref a1), .val (.int (0 : Int32)), .val (.ref a3), .val (.int (0 : Int32)), .val (.int (2 : Int32)), .val (.int (0 : Int32)), .unset]) (st' := []) rfl ?_
    refine own_blk X0 hx bl10_3_2 (own_hb hby bd10_3_2) (pc' := 7) (Ls' := #[.val (.ref a1), .val (.int (0 : Int32)), .val (.ref a3), .val (.int (0 : Int32)), .val (.int (2 : Int32)), .val (.int (0 : Int32)), .unset]) (st' := [(.int (2 : Int32)), (.int (0 : Int32))]) rfl ?_
    refine XS.icmpNo X0.here hx rfl (hb hby d10_7) rfl (tlt (by decide : (0 : Int32) < (2 : Int32))).2.1 ?_
    show Steps p.tables e below (s₁.setTop (mkF m 10 #[.val (.ref a1), .val (.int (0 : Int32)), .val (.ref a3), .val (.int (0 : Int32)), .val (.int (2 : Int32)), .val (.int (0 : Int32)), .unset] [])) _
    refine own_blk X0 hx bl10_10_2 (own_hb hby bd10_10_2) (pc' := 12) (Ls' := #[.val (.ref a1), .val (.int (0 : Int32)), .val (.ref a3), .val (.int (0 : Int32)), .val (.int (2 : Int32)), .val (.int (0 : Int32)), .unset]) (st' := [(.int (0 : Int32)), (.ref a1)]) rfl ?_
    refine X0.caload hx (j := (0 : Int32)) (v := (.int c0)) (by rw [e0]; exact Ar1.1) (State.isArrayOf_alike hZ.alike Ar1.2.1) Ar1.2.2 hin1 hat1 (g := (mkF m 12 #[.val (.ref a1), .val (.int (0 : Int32)), .val (.ref a3), .val (.int (0 : Int32)), .val (.int (2 : Int32)), .val (.int (0 : Int32)), .unset] [(.int (0 : Int32)), (.ref a1)])) rfl rfl (hb hby d10_12) _ ?_
    show Steps p.tables e below (s₁.setTop (mkF m 13 #[.val (.ref a1), .val (.int (0 : Int32)), .val (.ref a3), .val (.int (0 : Int32)), .val (.int (2 : Int32)), .val (.int (0 : Int32)), .unset] [(.int c0)])) _
    refine own_blk X0 hx bl10_13_1 (own_hb hby bd10_13_1) (pc' := 15) (Ls' := #[.val (.ref a1), .val (.int (0 : Int32)), .val (.ref a3), .val (.int (0 : Int32)), .val (.int (2 : Int32)), .val (.int (0 : Int32)), .val (.int c0)]) (st' := []) rfl ?_
    refine own_blk X0 hx bl10_15_2 (own_hb hby bd10_15_2) (pc' := 20) (Ls' := #[.val (.ref a1), .val (.int (0 : Int32)), .val (.ref a3), .val (.int (0 : Int32)), .val (.int (2 : Int32)), .val (.int (0 : Int32)), .val (.int c0)]) (st' := [(.int (255 : Int32)), (.int c0)]) rfl ?_
    refine XS.icmpYes X0.here hx rfl (pc0 := 20) (pc' := 26) rfl (hb hby d10_20) rfl (flt hc0).2.2.2 (by decide) (by decide) ?_
    show Steps p.tables e below (s₁.setTop (mkF m 26 #[.val (.ref a1), .val (.int (0 : Int32)), .val (.ref a3), .val (.int (0 : Int32)), .val (.int (2 : Int32)), .val (.int (0 : Int32)), .val (.int c0)] [])) _
    refine own_blk X0 hx bl10_26_4 (own_hb hby bd10_26_4) (pc' := 31) (Ls' := #[.val (.ref a1), .val (.int (0 : Int32)), .val (.ref a3), .val (.int (0 : Int32)), .val (.int (2 : Int32)), .val (.int (0 : Int32)), .val (.int c0)]) (st' := [(.int (c0.toInt8.toInt32)), (.int (0 : Int32)), (.ref a3)]) rfl ?_
    refine st2 _ ?_
    show Steps p.tables e below (T2.setTop (mkF m 32 #[.val (.ref a1), .val (.int (0 : Int32)), .val (.ref a3), .val (.int (0 : Int32)), .val (.int (2 : Int32)), .val (.int (0 : Int32)), .val (.int c0)] [])) _
    refine own_blk X2 hx bl10_32_1 (own_hb hby bd10_32_1) (pc' := 35) (Ls' := #[.val (.ref a1), .val (.int (1 : Int32)), .val (.ref a3), .val (.int (0 : Int32)), .val (.int (2 : Int32)), .val (.int (0 : Int32)), .val (.int c0)]) (st' := []) rfl ?_
    refine own_blk X2 hx bl10_35_1 (own_hb hby bd10_35_1) (pc' := 38) (Ls' := #[.val (.ref a1), .val (.int (1 : Int32)), .val (.ref a3), .val (.int (1 : Int32)), .val (.int (2 : Int32)), .val (.int (0 : Int32)), .val (.int c0)]) (st' := []) rfl ?_
    refine own_blk X2 hx bl10_38_1 (own_hb hby bd10_38_1) (pc' := 41) (Ls' := #[.val (.ref a1), .val (.int (1 : Int32)), .val (.ref a3), .val (.int (1 : Int32)), .val (.int (2 : Int32)), .val (.int (1 : Int32)), .val (.int c0)]) (st' := []) rfl ?_
    refine own_blk X2 hx bl10_41_3 (own_hb hby bd10_41_3) (pc' := 7) (Ls' := #[.val (.ref a1), .val (.int (1 : Int32)), .val (.ref a3), .val (.int (1 : Int32)), .val (.int (2 : Int32)), .val (.int (1 : Int32)), .val (.int c0)]) (st' := [(.int (2 : Int32)), (.int (1 : Int32))]) rfl ?_
    refine XS.icmpNo X2.here hx rfl (hb hby d10_7) rfl (tlt (by decide : (1 : Int32) < (2 : Int32))).2.1 ?_
    show Steps p.tables e below (T2.setTop (mkF m 10 #[.val (.ref a1), .val (.int (1 : Int32)), .val (.ref a3), .val (.int (1 : Int32)), .val (.int (2 : Int32)), .val (.int (1 : Int32)), .val (.int c0)] [])) _
    refine own_blk X2 hx bl10_10_2 (own_hb hby bd10_10_2) (pc' := 12) (Ls' := #[.val (.ref a1), .val (.int (1 : Int32)), .val (.ref a3), .val (.int (1 : Int32)), .val (.int (2 : Int32)), .val (.int (1 : Int32)), .val (.int c0)]) (st' := [(.int (1 : Int32)), (.ref a1)]) rfl ?_
    refine X2.caload hx (j := (1 : Int32)) (v := (.int c1)) (by rw [e2]; exact Ar6.1) (State.isArrayOf_alike hZ.alike Ar6.2.1) Ar6.2.2 hin6 hat6 (g := (mkF m 12 #[.val (.ref a1), .val (.int (1 : Int32)), .val (.ref a3), .val (.int (1 : Int32)), .val (.int (2 : Int32)), .val (.int (1 : Int32)), .val (.int c0)] [(.int (1 : Int32)), (.ref a1)])) rfl rfl (hb hby d10_12) _ ?_
    show Steps p.tables e below (T2.setTop (mkF m 13 #[.val (.ref a1), .val (.int (1 : Int32)), .val (.ref a3), .val (.int (1 : Int32)), .val (.int (2 : Int32)), .val (.int (1 : Int32)), .val (.int c0)] [(.int c1)])) _
    refine own_blk X2 hx bl10_13_1 (own_hb hby bd10_13_1) (pc' := 15) (Ls' := #[.val (.ref a1), .val (.int (1 : Int32)), .val (.ref a3), .val (.int (1 : Int32)), .val (.int (2 : Int32)), .val (.int (1 : Int32)), .val (.int c1)]) (st' := []) rfl ?_
    refine own_blk X2 hx bl10_15_2 (own_hb hby bd10_15_2) (pc' := 20) (Ls' := #[.val (.ref a1), .val (.int (1 : Int32)), .val (.ref a3), .val (.int (1 : Int32)), .val (.int (2 : Int32)), .val (.int (1 : Int32)), .val (.int c1)]) (st' := [(.int (255 : Int32)), (.int c1)]) rfl ?_
    refine XS.icmpYes X2.here hx rfl (pc0 := 20) (pc' := 26) rfl (hb hby d10_20) rfl (flt hc1).2.2.2 (by decide) (by decide) ?_
    show Steps p.tables e below (T2.setTop (mkF m 26 #[.val (.ref a1), .val (.int (1 : Int32)), .val (.ref a3), .val (.int (1 : Int32)), .val (.int (2 : Int32)), .val (.int (1 : Int32)), .val (.int c1)] [])) _
    refine own_blk X2 hx bl10_26_4 (own_hb hby bd10_26_4) (pc' := 31) (Ls' := #[.val (.ref a1), .val (.int (1 : Int32)), .val (.ref a3), .val (.int (1 : Int32)), .val (.int (2 : Int32)), .val (.int (1 : Int32)), .val (.int c1)]) (st' := [(.int (c1.toInt8.toInt32)), (.int (1 : Int32)), (.ref a3)]) rfl ?_
    refine st7 _ ?_
    show Steps p.tables e below (T7.setTop (mkF m 32 #[.val (.ref a1), .val (.int (1 : Int32)), .val (.ref a3), .val (.int (1 : Int32)), .val (.int (2 : Int32)), .val (.int (1 : Int32)), .val (.int c1)] [])) _
    refine own_blk X7 hx bl10_32_1 (own_hb hby bd10_32_1) (pc' := 35) (Ls' := #[.val (.ref a1), .val (.int (2 : Int32)), .val (.ref a3), .val (.int (1 : Int32)), .val (.int (2 : Int32)), .val (.int (1 : Int32)), .val (.int c1)]) (st' := []) rfl ?_
    refine own_blk X7 hx bl10_35_1 (own_hb hby bd10_35_1) (pc' := 38) (Ls' := #[.val (.ref a1), .val (.int (2 : Int32)), .val (.ref a3), .val (.int (2 : Int32)), .val (.int (2 : Int32)), .val (.int (1 : Int32)), .val (.int c1)]) (st' := []) rfl ?_
    refine own_blk X7 hx bl10_38_1 (own_hb hby bd10_38_1) (pc' := 41) (Ls' := #[.val (.ref a1), .val (.int (2 : Int32)), .val (.ref a3), .val (.int (2 : Int32)), .val (.int (2 : Int32)), .val (.int (2 : Int32)), .val (.int c1)]) (st' := []) rfl ?_
    refine own_blk X7 hx bl10_41_3 (own_hb hby bd10_41_3) (pc' := 7) (Ls' := #[.val (.ref a1), .val (.int (2 : Int32)), .val (.ref a3), .val (.int (2 : Int32)), .val (.int (2 : Int32)), .val (.int (2 : Int32)), .val (.int c1)]) (st' := [(.int (2 : Int32)), (.int (2 : Int32))]) rfl ?_
    refine XS.icmpYes X7.here hx rfl (pc0 := 7) (pc' := 44) rfl (hb hby d10_7) rfl (flt (by decide : ¬ ((2 : Int32) < (2 : Int32)))).2.1 (by decide) (by decide) ?_
    show Steps p.tables e below (T7.setTop (mkF m 44 #[.val (.ref a1), .val (.int (2 : Int32)), .val (.ref a3), .val (.int (2 : Int32)), .val (.int (2 : Int32)), .val (.int (2 : Int32)), .val (.int c1)] [])) _
    refine own_blk X7 hx bl10_44_1 (own_hb hby bd10_44_1) (pc' := 46) (Ls' := #[.val (.ref a1), .val (.int (2 : Int32)), .val (.ref a3), .val (.int (2 : Int32)), .val (.int (2 : Int32)), .val (.int (2 : Int32)), .val (.int c1)]) (st' := [(.int (2 : Int32))]) rfl ?_
    exact retI X7 hx Bd.returns (hb hby d10_46) hr
  · show Q10_2 Z a1 a3 c0 c1 k_a1 k_a3 h0 n0 _ T7.heap _
    rw [e7]
    exact ⟨by rw [f10_2], N7, kp9, V7⟩

def Q9_2 (Z : State) (a1 : Addr) (c0 : Int32) (c1 : Int32) (k_a1 : ClassId) (h0 : Heap) (n0 : Nat) (v : Option Value) (h : Heap) (L : List Loc) : Prop := ∃ (b : Addr) (k : ClassId), v = some (.ref b) ∧ Fr n0 L ∧ Keep h0 h [] ∧ n0 ≤ b ∧ h0.size ≤ b ∧ Arv Z h b k .byte (2 : Int32) [(.int (nar .byte (c0.toInt8.toInt32))), (.int (nar .byte (c1.toInt8.toInt32)))] (.int (0 : Int32))
set_option maxRecDepth 65536 in
set_option maxHeartbeats 40000000 in
theorem rm9_2 (l : Launch) (Z : State) (a0 : Array Value) (hw : ∀ d ∈ tables_1, d.before a0 Z = true) (ws : List Jvm.Cond) (a1 : Addr) (c0 : Int32) (c1 : Int32) (k_a1 : ClassId) (h0 : Heap) (n0 : Nat) (Z0 : n0 ≤ h0.size) (V_a1 : Arv Z h0 a1 k_a1 .char (2 : Int32) [(.int c0), (.int c1)] (.int (0 : Int32))) (hc0 : ¬ ((255 : Int32) < c0)) (hc1 : ¬ ((255 : Int32) < c1)) :
    MetFree l (⟨"java/lang/StringUTF16", "compress", "([CII)[B"⟩ : MethodName) (head1 (Jvm.Cond.code (⟨"java/lang/StringUTF16", "compress", "([CII)[B"⟩ : MethodName) jdk_52_method_16_code 6 (some (.array .byte)) :: ws) ({ frames := 1, cells := 1, slots := 2, locals := 18 } : Room)) (fun a U => a = #[(.ref a1), (.int (0 : Int32)), (.int (2 : Int32))] ∧ Z.Warmed39 U.vm ∧ U.heap = h0) (fun _ _ _ _ _ => True) (fun _ U o U' => ∃ v L, o = .returned v ∧ Q9_2 Z a1 c0 c1 k_a1 h0 n0 v U'.heap L ∧ FrameEnd U o U' L ({ frames := 1, cells := 1, slots := 2, locals := 18 } : Room).cells ({ frames := 1, cells := 1, slots := 2, locals := 18 } : Room).slots) := by
  refine MetFree.of_bodySF (plainFor_of_name pn_9) hisR ?_
  intro p e s m args below meth c s₁ Bd hml0 hP hK
  obtain ⟨rfl, hZ, hh⟩ := hP
  have hx := Bd.exec
  have hby := Bd.bytes
  have hml : c.maxLocals = 6 := hml0
  have hown : s.vm.findClass "java/lang/StringUTF16" = some m.cls := findClass_of_methodNamed Bd.named
  have hnm := (name_of_methodNamed Bd.named Bd.method).1
  have X0 : Stand p l e ({ frames := 1, cells := 1, slots := 2, locals := 18 } : Room) s m #[(.ref a1), (.int (0 : Int32)), (.int (2 : Int32))] below meth c s₁ [] 0 0 := Stand.of_body Bd
  have e0 : s₁.heap = h0 := by rw [← hh, Bd.state]; rfl
  have N0 := Fr.nil n0
  have pre0 : ∀ t, Steps p.tables e below (s₁.setTop (mkF m 0 #[.val (.ref a1), .val (.int (0 : Int32)), .val (.int (2 : Int32)), .unset, .unset, .unset] [])) t → Steps p.tables e below (s₁.setTop (entryFrame m #[(.ref a1), (.int (0 : Int32)), (.int (2 : Int32))] 6)) t := fun t k => castTop (ef_9 m a1 (0 : Int32) (2 : Int32)) k
  obtain ⟨T1, h1, k1, X1, e1, E1, A1, st1⟩ := newP X0 hx hZ (hw _ (List.mem_of_getElem? (i := 20) rfl)) e0 (g := (mkF m 1 #[.val (.ref a1), .val (.int (0 : Int32)), .val (.int (2 : Int32)), .unset, .unset, .unset] [(.int (2 : Int32))])) rfl (hb hby d9_1) rfl (by decide) (cap := 2) (by decide) (by decide) (by decide) (by decide)
  obtain ⟨b1, g1⟩ : ∃ z, z = h0.size := ⟨_, rfl⟩
  rw [← g1] at A1 st1
  have ne_a1_b1 : a1 ≠ b1 := Nat.ne_of_lt (Nat.lt_of_lt_of_le V_a1.lt (Nat.le_of_eq g1.symm))
  have g_b1 : n0 ≤ b1 := Nat.le_trans Z0 (Nat.le_of_eq g1.symm)
  have sz_b1 : h0.size ≤ b1 := Nat.le_trans (Keep.refl h0 []).1 (Nat.le_of_eq g1.symm)
  have zs2 : n0 ≤ h1.size := Nat.le_trans Z0 E1.1
  have kp3 : Keep h0 h1 [] := (Keep.refl h0 []).ext E1
  have V_b1 : Arv Z h1 b1 k1 .byte (2 : Int32) [(.int (0 : Int32)), (.int (0 : Int32))] (.int (0 : Int32)) := (Arv.new A1 (by decide)).pad (pad_rep [] (.int (0 : Int32)) 2)
  have fa5 : Arv Z h1 a1 k_a1 .char (2 : Int32) [(.int c0), (.int c1)] (.int (0 : Int32)) := (V_a1.ext E1)
  obtain ⟨_, T4, Lc4, X4, hQ4, st4⟩ := own_callS X1 hx hZ (y := (⟨"java/lang/StringUTF16", "compress", "([CI[BII)I"⟩ : MethodName)) hown (hw _ (List.mem_of_getElem? (i := 61) rfl)) (hw _ (List.mem_of_getElem? (i := 62) rfl)) (hw _ (List.mem_of_getElem? (i := 59) rfl)) (hw _ (List.mem_of_getElem? (i := 63) rfl)) (by decide) (W := 0) (argsL := [(.ref a1), (.int (0 : Int32)), (.ref b1), (.int (0 : Int32)), (.int (2 : Int32))]) (rest := []) (rm10_2 l Z a0 hw [] a1 b1 c0 c1 k_a1 k1 h1 n0 zs2 fa5 V_b1 g_b1 ne_a1_b1 hc0 hc1) (by decide) (by decide) (c' := 1) (s' := 2) rfl rfl (by decide) (by decide) e1 (g := (mkF m 9 #[.val (.ref a1), .val (.int (0 : Int32)), .val (.int (2 : Int32)), .val (.ref b1), .unset, .unset] [(.int (2 : Int32)), (.int (0 : Int32)), (.ref b1), (.int (0 : Int32)), (.ref a1)])) rfl (by rw [hml]; rfl) (lenOf pd_9_8 rfl) rfl (by show 2 * 0 + _ ≤ _; exact Nat.le_of_eq rfl) (hb hby d9_9)
  obtain ⟨rfl, N4q, K4, Vc4_a3⟩ := hQ4
  have N4 := Fr.app N0 N4q
  have zs6 : n0 ≤ T4.heap.size := Nat.le_trans zs2 K4.1
  have kp7 : Keep h0 T4.heap [] := kp3.trans K4 (allS (Or.inr sz_b1) all0)
  obtain ⟨fs, hr, hrun, hended, hW, hsame⟩ := X4.leave (v := some (.ref b1)) (fun h => by rw [Bd.returns] at h; cases h)
  refine ⟨_, _, pre0 _ ?_, hrun, hended, _, _, rfl, ?_, ⟨_, rfl⟩, hW, hsame.mono (by decide) (by decide)⟩
  · show Steps p.tables e below (s₁.setTop (mkF m 0 #[.val (.ref a1), .val (.int (0 : Int32)), .val (.int (2 : Int32)), .unset, .unset, .unset] [])) _
    refine own_blk X0 hx bl9_0_1 (own_hb hby bd9_0_1) (pc' := 1) (Ls' := #[.val (.ref a1), .val (.int (0 : Int32)), .val (.int (2 : Int32)), .unset, .unset, .unset]) (st' := [(.int (2 : Int32))]) rfl ?_
    refine st1 _ ?_
    show Steps p.tables e below (T1.setTop (mkF m 3 #[.val (.ref a1), .val (.int (0 : Int32)), .val (.int (2 : Int32)), .unset, .unset, .unset] [(.ref b1)])) _
    refine own_blk X1 hx bl9_3_1 (own_hb hby bd9_3_1) (pc' := 4) (Ls' := #[.val (.ref a1), .val (.int (0 : Int32)), .val (.int (2 : Int32)), .val (.ref b1), .unset, .unset]) (st' := []) rfl ?_
    refine own_blk X1 hx bl9_4_5 (own_hb hby bd9_4_5) (pc' := 9) (Ls' := #[.val (.ref a1), .val (.int (0 : Int32)), .val (.int (2 : Int32)), .val (.ref b1), .unset, .unset]) (st' := [(.int (2 : Int32)), (.int (0 : Int32)), (.ref b1), (.int (0 : Int32)), (.ref a1)]) rfl ?_
    refine st4 _ ?_
    show Steps p.tables e below (T4.setTop (mkF m 12 #[.val (.ref a1), .val (.int (0 : Int32)), .val (.int (2 : Int32)), .val (.ref b1), .unset, .unset] [(.int (f10_2 c0 c1))])) _
    refine own_blk X4 hx bl9_12_1 (own_hb hby bd9_12_1) (pc' := 14) (Ls' := #[.val (.ref a1), .val (.int (0 : Int32)), .val (.int (2 : Int32)), .val (.ref b1), .val (.int (f10_2 c0 c1)), .unset]) (st' := []) rfl ?_
    refine own_blk X4 hx bl9_14_2 (own_hb hby bd9_14_2) (pc' := 17) (Ls' := #[.val (.ref a1), .val (.int (0 : Int32)), .val (.int (2 : Int32)), .val (.ref b1), .val (.int (f10_2 c0 c1)), .unset]) (st' := [(.int (2 : Int32)), (.int (f10_2 c0 c1))]) rfl ?_
    refine XS.icmpYes X4.here hx rfl (pc0 := 17) (pc' := 57) rfl (hb hby d9_17) rfl (teq (rfl : (f10_2 c0 c1) = (2 : Int32))).1 (by decide) (by decide) ?_
    show Steps p.tables e below (T4.setTop (mkF m 57 #[.val (.ref a1), .val (.int (0 : Int32)), .val (.int (2 : Int32)), .val (.ref b1), .val (.int (f10_2 c0 c1)), .unset] [])) _
    refine own_blk X4 hx bl9_57_1 (own_hb hby bd9_57_1) (pc' := 58) (Ls' := #[.val (.ref a1), .val (.int (0 : Int32)), .val (.int (2 : Int32)), .val (.ref b1), .val (.int (f10_2 c0 c1)), .unset]) (st' := [(.ref b1)]) rfl ?_
    jvm_step X4.here [X4.here.top, hx, (hb hby d9_58), X4.method', Bd.returns, Value.isRef, FieldType.isReference]
    first | (intro acts; rw [hr _ acts rfl rfl rfl]) | rw [hr _ _ rfl rfl rfl]
    exact Steps.refl _
  · show Q9_2 Z a1 c0 c1 k_a1 h0 n0 _ T4.heap _
    exact ⟨b1, k1, rfl, N4, kp7, g_b1, sz_b1, Vc4_a3⟩

def f11_2 (b0_ : Int32) (b1_ : Int32) : Int32 := (nar .byte ((((0 : Int32).toUInt32 >>> ((31 : Int32) &&& 31).toUInt32).toInt32).toInt8.toInt32))
def Q11_2 (Z : State) (a1 : Addr) (b0_ : Int32) (b1_ : Int32) (k_a1 : ClassId) (h0 : Heap) (n0 : Nat) (v : Option Value) (h : Heap) (L : List Loc) : Prop := v = some (.int (f11_2 b0_ b1_)) ∧ Fr n0 L ∧ h = h0
set_option maxRecDepth 65536 in
set_option maxHeartbeats 40000000 in
theorem rm11_2 (l : Launch) (Z : State) (a0 : Array Value) (hw : ∀ d ∈ tables_1, d.before a0 Z = true) (ws : List Jvm.Cond) (a1 : Addr) (b0_ : Int32) (b1_ : Int32) (k_a1 : ClassId) (h0 : Heap) (n0 : Nat) (Z0 : n0 ≤ h0.size) (V_a1 : Arv Z h0 a1 k_a1 .byte (2 : Int32) [(.int b0_), (.int b1_)] (.int (0 : Int32))) :
    MetFree l (⟨"java/lang/StringUTF16", "coderFromArrayLen", "([BI)B"⟩ : MethodName) (head1 (Jvm.Cond.code (⟨"java/lang/StringUTF16", "coderFromArrayLen", "([BI)B"⟩ : MethodName) jdk_52_method_15_code 2 (some .byte) :: ws) ({ frames := 0, cells := 0, slots := 0, locals := 0 } : Room)) (fun a U => a = #[(.ref a1), (.int (2 : Int32))] ∧ Z.Warmed39 U.vm ∧ U.heap = h0) (fun _ _ _ _ _ => True) (fun _ U o U' => ∃ v L, o = .returned v ∧ Q11_2 Z a1 b0_ b1_ k_a1 h0 n0 v U'.heap L ∧ FrameEnd U o U' L ({ frames := 0, cells := 0, slots := 0, locals := 0 } : Room).cells ({ frames := 0, cells := 0, slots := 0, locals := 0 } : Room).slots) := by
  refine MetFree.of_bodySF (plainFor_of_name pn_11) hisR ?_
  intro p e s m args below meth c s₁ Bd hml0 hP hK
  obtain ⟨rfl, hZ, hh⟩ := hP
  have hx := Bd.exec
  have hby := Bd.bytes
  have hml : c.maxLocals = 2 := hml0
  have hown : s.vm.findClass "java/lang/StringUTF16" = some m.cls := findClass_of_methodNamed Bd.named
  have hnm := (name_of_methodNamed Bd.named Bd.method).1
  have X0 : Stand p l e ({ frames := 0, cells := 0, slots := 0, locals := 0 } : Room) s m #[(.ref a1), (.int (2 : Int32))] below meth c s₁ [] 0 0 := Stand.of_body Bd
  have e0 : s₁.heap = h0 := by rw [← hh, Bd.state]; rfl
  have N0 := Fr.nil n0
  have pre0 : ∀ t, Steps p.tables e below (s₁.setTop (mkF m 0 #[.val (.ref a1), .val (.int (2 : Int32))] [])) t → Steps p.tables e below (s₁.setTop (entryFrame m #[(.ref a1), (.int (2 : Int32))] 2)) t := fun t k => castTop (ef_11 m a1 (2 : Int32)) k
  obtain ⟨cx1, Ar1, qq1, S1, N1_, H1, G1⟩ := id V_a1
  obtain ⟨fs, hr, hrun, hended, hW, hsame⟩ := X0.leave (v := some (.int (nar .byte ((((0 : Int32).toUInt32 >>> ((31 : Int32) &&& 31).toUInt32).toInt32).toInt8.toInt32)))) (fun h => by rw [Bd.returns] at h; cases h)
  refine ⟨_, _, pre0 _ ?_, hrun, hended, _, _, rfl, ?_, ⟨_, rfl⟩, hW, hsame.mono (by decide) (by decide)⟩
  · show Steps p.tables e below (s₁.setTop (mkF m 0 #[.val (.ref a1), .val (.int (2 : Int32))] [])) _
    refine own_blk X0 hx bl11_0_2 (own_hb hby bd11_0_2) (pc' := 2) (Ls' := #[.val (.ref a1), .val (.int (2 : Int32))]) (st' := [(.ref a1), (.int (2 : Int32))]) rfl ?_
    refine X0.arraylength hx (by rw [e0]; exact Ar1.1) (State.isArrayOf_alike hZ.alike Ar1.2.1) (g := (mkF m 2 #[.val (.ref a1), .val (.int (2 : Int32))] [(.ref a1), (.int (2 : Int32))])) rfl rfl (hb hby d11_2) _ ?_
    rw [len_of S1 N1_]
    show Steps p.tables e below (s₁.setTop (mkF m 3 #[.val (.ref a1), .val (.int (2 : Int32))] [(.int (2 : Int32)), (.int (2 : Int32))])) _
    refine own_blk X0 hx bl11_3_4 (own_hb hby bd11_3_4) (pc' := 8) (Ls' := #[.val (.ref a1), .val (.int (2 : Int32))]) (st' := [(.int ((((0 : Int32).toUInt32 >>> ((31 : Int32) &&& 31).toUInt32).toInt32).toInt8.toInt32))]) rfl ?_
    exact retN X0 hx (t := .byte) Bd.returns (by simp) (hb hby d11_8) hr
  · show Q11_2 Z a1 b0_ b1_ k_a1 h0 n0 _ s₁.heap _
    rw [e0]
    exact ⟨by rw [f11_2], N0, rfl⟩

def Q3_2 (Z : State) (a1 : Addr) (a2 : Addr) (c0 : Int32) (c1 : Int32) (wz : Int32) (k_a2 : ClassId) (h0 : Heap) (n0 : Nat) (v : Option Value) (h : Heap) (L : List Loc) : Prop := v = none ∧ Fr n0 L ∧ Keep h0 h [a1]
set_option maxRecDepth 65536 in
set_option maxHeartbeats 40000000 in
theorem rm3_2 (l : Launch) (Z : State) (a0 : Array Value) (hw : ∀ d ∈ tables_1, d.before a0 Z = true) (ws : List Jvm.Cond) (a1 : Addr) (a2 : Addr) (c0 : Int32) (c1 : Int32) (wz : Int32) (k_a2 : ClassId) (h0 : Heap) (n0 : Nat) (Z0 : n0 ≤ h0.size) (E_a1 : Exa Z h0 a1 "java/lang/String") (F_a1_value : Fld Z h0 a1 "java/lang/String" "value" "[B" .null) (F_a1_coder : Fld Z h0 a1 "java/lang/String" "coder" "B" (.int (0 : Int32))) (g_a1 : n0 ≤ a1) (V_a2 : Arv Z h0 a2 k_a2 .char (2 : Int32) [(.int c0), (.int c1)] (.int (0 : Int32))) (S_COMPACT_STRINGS : Sta Z h0 "java/lang/String" "COMPACT_STRINGS" "Z" (.int wz)) (ne_a2_a1 : a2 ≠ a1) (hc0 : ¬ ((255 : Int32) < c0)) (hc1 : ¬ ((255 : Int32) < c1)) (hwz : ¬ wz = 0) :
    MetFree l (⟨"java/lang/String", "<init>", "([CIILjava/lang/Void;)V"⟩ : MethodName) (head1 (Jvm.Cond.code (⟨"java/lang/String", "<init>", "([CIILjava/lang/Void;)V"⟩ : MethodName) jdk_42_method_149_code 6 none :: ws) ({ frames := 2, cells := 1, slots := 2, locals := 35 } : Room)) (fun a U => a = #[(.ref a1), (.ref a2), (.int (0 : Int32)), (.int (2 : Int32)), .null] ∧ Z.Warmed39 U.vm ∧ U.heap = h0) (fun _ _ _ _ _ => True) (fun _ U o U' => ∃ v L, o = .returned v ∧ Q3_2 Z a1 a2 c0 c1 wz k_a2 h0 n0 v U'.heap L ∧ FrameEnd U o U' L ({ frames := 2, cells := 1, slots := 2, locals := 35 } : Room).cells ({ frames := 2, cells := 1, slots := 2, locals := 35 } : Room).slots) := by
  refine MetFree.of_bodySF (plainFor_of_name pn_3) hisR ?_
  intro p e s m args below meth c s₁ Bd hml0 hP hK
  obtain ⟨rfl, hZ, hh⟩ := hP
  have hx := Bd.exec
  have hby := Bd.bytes
  have hml : c.maxLocals = 6 := hml0
  have hown : s.vm.findClass "java/lang/String" = some m.cls := findClass_of_methodNamed Bd.named
  have hnm := (name_of_methodNamed Bd.named Bd.method).1
  have X0 : Stand p l e ({ frames := 2, cells := 1, slots := 2, locals := 35 } : Room) s m #[(.ref a1), (.ref a2), (.int (0 : Int32)), (.int (2 : Int32)), .null] below meth c s₁ [] 0 0 := Stand.of_body Bd
  have e0 : s₁.heap = h0 := by rw [← hh, Bd.state]; rfl
  have N0 := Fr.nil n0
  have pre0 : ∀ t, Steps p.tables e below (s₁.setTop (mkF m 0 #[.val (.ref a1), .val (.ref a2), .val (.int (0 : Int32)), .val (.int (2 : Int32)), .val .null, .unset] [])) t → Steps p.tables e below (s₁.setTop (entryFrame m #[(.ref a1), (.ref a2), (.int (0 : Int32)), (.int (2 : Int32)), .null] 6)) t := fun t k => castTop (ef_3n m a1 a2 (0 : Int32) (2 : Int32)) k
  obtain ⟨T1, X1, e1, st1⟩ := initO X0 hx hZ hown (hw _ (List.mem_of_getElem? (i := 16) rfl)) (hw _ (List.mem_of_getElem? (i := 17) rfl)) (hw _ (List.mem_of_getElem? (i := 18) rfl)) e0 (g := (mkF m 1 #[.val (.ref a1), .val (.ref a2), .val (.int (0 : Int32)), .val (.int (2 : Int32)), .val .null, .unset] [(.ref a1)])) rfl (by rw [hml]; rfl) rfl (hb hby d3_1) (by decide) (W := 0) (by show 2 * 0 + _ ≤ _; exact Nat.le_of_eq rfl) (by decide)
  obtain ⟨T2, X2, e2, st2⟩ := getS2 X1 hx hZ hown (host := "") (Or.inl (hw _ (List.mem_of_getElem? (i := 56) rfl))) Via.refl e1 S_COMPACT_STRINGS (g := (mkF m 27 #[.val (.ref a1), .val (.ref a2), .val (.int (0 : Int32)), .val (.int (2 : Int32)), .val .null, .unset] [])) rfl (hb hby d3_27)
  obtain ⟨_, T3, Lc3, X3, hQ3, st3⟩ := own_callS X2 hx hZ (y := (⟨"java/lang/StringUTF16", "compress", "([CII)[B"⟩ : MethodName)) hown (hw _ (List.mem_of_getElem? (i := 57) rfl)) (hw _ (List.mem_of_getElem? (i := 58) rfl)) (hw _ (List.mem_of_getElem? (i := 59) rfl)) (hw _ (List.mem_of_getElem? (i := 60) rfl)) (by decide) (W := 0) (argsL := [(.ref a2), (.int (0 : Int32)), (.int (2 : Int32))]) (rest := []) (rm9_2 l Z a0 hw [] a2 c0 c1 k_a2 h0 n0 Z0 V_a2 hc0 hc1) (by decide) (by decide) (c' := 1) (s' := 2) rfl rfl (by decide) (by decide) e2 (g := (mkF m 36 #[.val (.ref a1), .val (.ref a2), .val (.int (0 : Int32)), .val (.int (2 : Int32)), .val .null, .unset] [(.int (2 : Int32)), (.int (0 : Int32)), (.ref a2)])) rfl (by rw [hml]; rfl) (lenOf pd_3_7 rfl) rfl (by show 2 * 0 + _ ≤ _; exact Nat.le_of_eq rfl) (hb hby d3_36)
  obtain ⟨b3, kk3, rfl, N3q, K3, g_b3, szz3, V_b3⟩ := hQ3
  have N3 := Fr.app N0 N3q
  have ne_a1_b3 : a1 ≠ b3 := Nat.ne_of_lt (Nat.lt_of_lt_of_le E_a1.lt szz3)
  have ne_a2_b3 : a2 ≠ b3 := Nat.ne_of_lt (Nat.lt_of_lt_of_le V_a2.lt szz3)
  have sz_b3 : h0.size ≤ b3 := Nat.le_trans (Keep.refl h0 [a1]).1 szz3
  have zs4 : n0 ≤ T3.heap.size := Nat.le_trans Z0 K3.1
  have kp5 : Keep h0 T3.heap [a1] := (Keep.refl h0 [a1]).trans K3 all0
  obtain ⟨_, T6, Lc6, X6, hQ6, st6⟩ := own_callS X3 hx hZ (y := (⟨"java/lang/StringUTF16", "coderFromArrayLen", "([BI)B"⟩ : MethodName)) hown (hw _ (List.mem_of_getElem? (i := 64) rfl)) (hw _ (List.mem_of_getElem? (i := 65) rfl)) (hw _ (List.mem_of_getElem? (i := 59) rfl)) (hw _ (List.mem_of_getElem? (i := 66) rfl)) (by decide) (W := 1) (argsL := [(.ref b3), (.int (2 : Int32))]) (rest := [(.ref a1)]) (rm11_2 l Z a0 hw [] b3 (nar .byte (c0.toInt8.toInt32)) (nar .byte (c1.toInt8.toInt32)) kk3 T3.heap n0 zs4 V_b3) (by decide) (by decide) (c' := 1) (s' := 2) rfl rfl (by decide) (by decide) rfl (g := (mkF m 45 #[.val (.ref a1), .val (.ref a2), .val (.int (0 : Int32)), .val (.int (2 : Int32)), .val .null, .val (.ref b3)] [(.int (2 : Int32)), (.ref b3), (.ref a1)])) rfl (by rw [hml]; rfl) (lenOf pd_3_9 rfl) rfl (by show 2 * 0 + _ ≤ _; exact Nat.le_of_eq rfl) (hb hby d3_45)
  obtain ⟨rfl, N6q, e6⟩ := hQ6
  have N6 := Fr.app N3 N6q
  have fa7 : Fld Z T3.heap a1 "java/lang/String" "coder" "B" (.int (0 : Int32)) := (F_a1_coder.keep K3 nin0)
  have fa8 : Exa Z T3.heap a1 "java/lang/String" := (E_a1.keep K3)
  obtain ⟨T9, h9, X9, e9, W9, st9⟩ := putFN X6 hx hZ hown (hw _ (List.mem_of_getElem? (i := 26) rfl)) Via.refl e6 fa7 fa8 (Or.inr ⟨(hw _ (List.mem_of_getElem? (i := 22) rfl)), rfl, hnm⟩) (hw _ (List.mem_of_getElem? (i := 6) rfl)) (ty := .byte) (v' := (.int (nar .byte (f11_2 (nar .byte (c0.toInt8.toInt32)) (nar .byte (c1.toInt8.toInt32)))))) (by decide) rfl (fits_nar_byte _) (g := (mkF m 48 #[.val (.ref a1), .val (.ref a2), .val (.int (0 : Int32)), .val (.int (2 : Int32)), .val .null, .val (.ref b3)] [(.int (f11_2 (nar .byte (c0.toInt8.toInt32)) (nar .byte (c1.toInt8.toInt32)))), (.ref a1)])) rfl rfl (hb hby d3_48)
  have Fw9 : Fld Z h9 a1 "java/lang/String" "coder" "B" (.int (nar .byte (f11_2 (nar .byte (c0.toInt8.toInt32)) (nar .byte (c1.toInt8.toInt32))))) := fa7.same W9
  have zs10 : n0 ≤ h9.size := Nat.le_trans zs4 (Keep.of_wr W9).1
  have kp11 : Keep h0 h9 [a1] := kp5.wr W9 (Or.inl (List.mem_of_getElem? (i := 0) rfl))
  have N9 := Fr.snoc X9 N6 g_a1
  have fa12 : Fld Z h9 a1 "java/lang/String" "value" "[B" .null := ((F_a1_value.keep K3 nin0).other W9 (Or.inr (slot_ne (Or.inr (hw _ (List.mem_of_getElem? (i := 21) rfl))) (Or.inr (hw _ (List.mem_of_getElem? (i := 22) rfl))) (by decide) (t := (.array .byte)) (t' := .byte) (by decide) (by decide))))
  have fa13 : Exa Z h9 a1 "java/lang/String" := (fa8.wr W9)
  obtain ⟨T14, h14, X14, e14, W14, st14⟩ := putF X9 hx hZ hown (host := "") (Or.inl (hw _ (List.mem_of_getElem? (i := 25) rfl))) Via.refl e9 fa12 fa13 (Or.inr ⟨(hw _ (List.mem_of_getElem? (i := 21) rfl)), rfl, hnm⟩) (hw _ (List.mem_of_getElem? (i := 6) rfl)) (ty := (.array .byte)) (by decide) rfl rfl (g := (mkF m 54 #[.val (.ref a1), .val (.ref a2), .val (.int (0 : Int32)), .val (.int (2 : Int32)), .val .null, .val (.ref b3)] [(.ref b3), (.ref a1)])) rfl rfl (hb hby d3_54)
  have Fw14 : Fld Z h14 a1 "java/lang/String" "value" "[B" (.ref b3) := fa12.same W14
  have zs15 : n0 ≤ h14.size := Nat.le_trans zs10 (Keep.of_wr W14).1
  have kp16 : Keep h0 h14 [a1] := kp11.wr W14 (Or.inl (List.mem_of_getElem? (i := 0) rfl))
  have N14 := Fr.snoc X14 N9 g_a1
  obtain ⟨fs, hr, hrun, hended, hW, hsame⟩ := X14.leave (v := none) (fun _ => rfl)
  refine ⟨_, _, pre0 _ ?_, hrun, hended, _, _, rfl, ?_, ⟨_, rfl⟩, hW, hsame.mono (by decide) (by decide)⟩
  · show Steps p.tables e below (s₁.setTop (mkF m 0 #[.val (.ref a1), .val (.ref a2), .val (.int (0 : Int32)), .val (.int (2 : Int32)), .val .null, .unset] [])) _
    refine own_blk X0 hx bl3_0_1 (own_hb hby bd3_0_1) (pc' := 1) (Ls' := #[.val (.ref a1), .val (.ref a2), .val (.int (0 : Int32)), .val (.int (2 : Int32)), .val .null, .unset]) (st' := [(.ref a1)]) rfl ?_
    refine st1 _ ?_
    show Steps p.tables e below (T1.setTop (mkF m 4 #[.val (.ref a1), .val (.ref a2), .val (.int (0 : Int32)), .val (.int (2 : Int32)), .val .null, .unset] [])) _
    refine own_blk X1 hx bl3_4_1 (own_hb hby bd3_4_1) (pc' := 5) (Ls' := #[.val (.ref a1), .val (.ref a2), .val (.int (0 : Int32)), .val (.int (2 : Int32)), .val .null, .unset]) (st' := [(.int (2 : Int32))]) rfl ?_
    refine XS.ifYes X1.here hx rfl (pc0 := 5) (pc' := 27) rfl (hb hby d3_5) rfl ((if0 _ _).trans (feq (by decide : ¬ ((2 : Int32) = (0 : Int32)))).2) (by decide) (by decide) ?_
    show Steps p.tables e below (T1.setTop (mkF m 27 #[.val (.ref a1), .val (.ref a2), .val (.int (0 : Int32)), .val (.int (2 : Int32)), .val .null, .unset] [])) _
    refine st2 _ ?_
    show Steps p.tables e below (T2.setTop (mkF m 30 #[.val (.ref a1), .val (.ref a2), .val (.int (0 : Int32)), .val (.int (2 : Int32)), .val .null, .unset] [(.int wz)])) _
    refine XS.ifNo X2.here hx rfl (hb hby d3_30) rfl ((if0 _ _).trans (feq hwz).1) ?_
    show Steps p.tables e below (T2.setTop (mkF m 33 #[.val (.ref a1), .val (.ref a2), .val (.int (0 : Int32)), .val (.int (2 : Int32)), .val .null, .unset] [])) _
    refine own_blk X2 hx bl3_33_3 (own_hb hby bd3_33_3) (pc' := 36) (Ls' := #[.val (.ref a1), .val (.ref a2), .val (.int (0 : Int32)), .val (.int (2 : Int32)), .val .null, .unset]) (st' := [(.int (2 : Int32)), (.int (0 : Int32)), (.ref a2)]) rfl ?_
    refine st3 _ ?_
    show Steps p.tables e below (T3.setTop (mkF m 39 #[.val (.ref a1), .val (.ref a2), .val (.int (0 : Int32)), .val (.int (2 : Int32)), .val .null, .unset] [(.ref b3)])) _
    refine own_blk X3 hx bl3_39_1 (own_hb hby bd3_39_1) (pc' := 41) (Ls' := #[.val (.ref a1), .val (.ref a2), .val (.int (0 : Int32)), .val (.int (2 : Int32)), .val .null, .val (.ref b3)]) (st' := []) rfl ?_
    refine own_blk X3 hx bl3_41_3 (own_hb hby bd3_41_3) (pc' := 45) (Ls' := #[.val (.ref a1), .val (.ref a2), .val (.int (0 : Int32)), .val (.int (2 : Int32)), .val .null, .val (.ref b3)]) (st' := [(.int (2 : Int32)), (.ref b3), (.ref a1)]) rfl ?_
    refine st6 _ ?_
    show Steps p.tables e below (T6.setTop (mkF m 48 #[.val (.ref a1), .val (.ref a2), .val (.int (0 : Int32)), .val (.int (2 : Int32)), .val .null, .val (.ref b3)] [(.int (f11_2 (nar .byte (c0.toInt8.toInt32)) (nar .byte (c1.toInt8.toInt32)))), (.ref a1)])) _
    refine st9 _ ?_
    show Steps p.tables e below (T9.setTop (mkF m 51 #[.val (.ref a1), .val (.ref a2), .val (.int (0 : Int32)), .val (.int (2 : Int32)), .val .null, .val (.ref b3)] [])) _
    refine own_blk X9 hx bl3_51_2 (own_hb hby bd3_51_2) (pc' := 54) (Ls' := #[.val (.ref a1), .val (.ref a2), .val (.int (0 : Int32)), .val (.int (2 : Int32)), .val .null, .val (.ref b3)]) (st' := [(.ref b3), (.ref a1)]) rfl ?_
    refine st14 _ ?_
    show Steps p.tables e below (T14.setTop (mkF m 57 #[.val (.ref a1), .val (.ref a2), .val (.int (0 : Int32)), .val (.int (2 : Int32)), .val .null, .val (.ref b3)] [])) _
    exact X14.returnOut hx Bd.returns (hb hby d3_57) hr
  · show Q3_2 Z a1 a2 c0 c1 wz k_a2 h0 n0 _ T14.heap _
    rw [e14]
    exact ⟨rfl, N14, kp16⟩

def Q2_2 (Z : State) (a1 : Addr) (a2 : Addr) (c0 : Int32) (c1 : Int32) (wz : Int32) (k_a2 : ClassId) (h0 : Heap) (n0 : Nat) (v : Option Value) (h : Heap) (L : List Loc) : Prop := v = none ∧ Fr n0 L ∧ Keep h0 h [a1]
set_option maxRecDepth 65536 in
set_option maxHeartbeats 40000000 in
theorem rm2_2 (l : Launch) (Z : State) (a0 : Array Value) (hw : ∀ d ∈ tables_1, d.before a0 Z = true) (ws : List Jvm.Cond) (a1 : Addr) (a2 : Addr) (c0 : Int32) (c1 : Int32) (wz : Int32) (k_a2 : ClassId) (h0 : Heap) (n0 : Nat) (Z0 : n0 ≤ h0.size) (E_a1 : Exa Z h0 a1 "java/lang/String") (F_a1_value : Fld Z h0 a1 "java/lang/String" "value" "[B" .null) (F_a1_coder : Fld Z h0 a1 "java/lang/String" "coder" "B" (.int (0 : Int32))) (g_a1 : n0 ≤ a1) (V_a2 : Arv Z h0 a2 k_a2 .char (2 : Int32) [(.int c0), (.int c1)] (.int (0 : Int32))) (S_COMPACT_STRINGS : Sta Z h0 "java/lang/String" "COMPACT_STRINGS" "Z" (.int wz)) (ne_a2_a1 : a2 ≠ a1) (hc0 : ¬ ((255 : Int32) < c0)) (hc1 : ¬ ((255 : Int32) < c1)) (hwz : ¬ wz = 0) :
    MetFree l (⟨"java/lang/String", "<init>", "([C)V"⟩ : MethodName) (head1 (Jvm.Cond.code (⟨"java/lang/String", "<init>", "([C)V"⟩ : MethodName) jdk_42_method_3_code 2 none :: ws) ({ frames := 3, cells := 1, slots := 2, locals := 52 } : Room)) (fun a U => a = #[(.ref a1), (.ref a2)] ∧ Z.Warmed39 U.vm ∧ U.heap = h0) (fun _ _ _ _ _ => True) (fun _ U o U' => ∃ v L, o = .returned v ∧ Q2_2 Z a1 a2 c0 c1 wz k_a2 h0 n0 v U'.heap L ∧ FrameEnd U o U' L ({ frames := 3, cells := 1, slots := 2, locals := 52 } : Room).cells ({ frames := 3, cells := 1, slots := 2, locals := 52 } : Room).slots) := by
  refine MetFree.of_bodySF (plainFor_of_name pn_2) hisR ?_
  intro p e s m args below meth c s₁ Bd hml0 hP hK
  obtain ⟨rfl, hZ, hh⟩ := hP
  have hx := Bd.exec
  have hby := Bd.bytes
  have hml : c.maxLocals = 2 := hml0
  have hown : s.vm.findClass "java/lang/String" = some m.cls := findClass_of_methodNamed Bd.named
  have hnm := (name_of_methodNamed Bd.named Bd.method).1
  have X0 : Stand p l e ({ frames := 3, cells := 1, slots := 2, locals := 52 } : Room) s m #[(.ref a1), (.ref a2)] below meth c s₁ [] 0 0 := Stand.of_body Bd
  have e0 : s₁.heap = h0 := by rw [← hh, Bd.state]; rfl
  have N0 := Fr.nil n0
  have pre0 : ∀ t, Steps p.tables e below (s₁.setTop (mkF m 0 #[.val (.ref a1), .val (.ref a2)] [])) t → Steps p.tables e below (s₁.setTop (entryFrame m #[(.ref a1), (.ref a2)] 2)) t := fun t k => castTop (ef_2 m a1 a2) k
  obtain ⟨cx1, Ar1, qq1, S1, N1_, H1, G1⟩ := id V_a2
  obtain ⟨_, T2, Lc2, X2, hQ2, st2⟩ := own_callI X0 hx hZ (y := (⟨"java/lang/String", "<init>", "([CIILjava/lang/Void;)V"⟩ : MethodName)) rfl hown (hw _ (List.mem_of_getElem? (i := 12) rfl)) (hw _ (List.mem_of_getElem? (i := 13) rfl)) (hw _ (List.mem_of_getElem? (i := 7) rfl)) (hw _ (List.mem_of_getElem? (i := 15) rfl)) (by decide) (W := 0) (a := a1) (argsL := [(.ref a2), (.int (0 : Int32)), (.int (2 : Int32)), .null]) (rest := []) (rm3_2 l Z a0 hw [] a1 a2 c0 c1 wz k_a2 h0 n0 Z0 E_a1 F_a1_value F_a1_coder g_a1 V_a2 S_COMPACT_STRINGS ne_a2_a1 hc0 hc1 hwz) (by decide) (by decide) (c' := 1) (s' := 2) rfl rfl (by decide) (by decide) e0 (g := (mkF m 6 #[.val (.ref a1), .val (.ref a2)] [.null, (.int (2 : Int32)), (.int (0 : Int32)), (.ref a2), (.ref a1)])) rfl (by rw [hml]; rfl) (lenOf pd_2_2 rfl) rfl (by show 2 * 0 + _ ≤ _; exact Nat.le_of_eq rfl) (hb hby d2_6)
  obtain ⟨rfl, N2q, K2⟩ := hQ2
  have N2 := Fr.app N0 N2q
  have zs3 : n0 ≤ T2.heap.size := Nat.le_trans Z0 K2.1
  have kp4 : Keep h0 T2.heap [a1] := (Keep.refl h0 [a1]).trans K2 (allS (Or.inl (List.mem_of_getElem? (i := 0) rfl)) all0)
  obtain ⟨fs, hr, hrun, hended, hW, hsame⟩ := X2.leave (v := none) (fun _ => rfl)
  refine ⟨_, _, pre0 _ ?_, hrun, hended, _, _, rfl, ?_, ⟨_, rfl⟩, hW, hsame.mono (by decide) (by decide)⟩
  · show Steps p.tables e below (s₁.setTop (mkF m 0 #[.val (.ref a1), .val (.ref a2)] [])) _
    refine own_blk X0 hx bl2_0_4 (own_hb hby bd2_0_4) (pc' := 4) (Ls' := #[.val (.ref a1), .val (.ref a2)]) (st' := [(.ref a2), (.int (0 : Int32)), (.ref a2), (.ref a1)]) rfl ?_
    refine X0.arraylength hx (by rw [e0]; exact Ar1.1) (State.isArrayOf_alike hZ.alike Ar1.2.1) (g := (mkF m 4 #[.val (.ref a1), .val (.ref a2)] [(.ref a2), (.int (0 : Int32)), (.ref a2), (.ref a1)])) rfl rfl (hb hby d2_4) _ ?_
    rw [len_of S1 N1_]
    show Steps p.tables e below (s₁.setTop (mkF m 5 #[.val (.ref a1), .val (.ref a2)] [(.int (2 : Int32)), (.int (0 : Int32)), (.ref a2), (.ref a1)])) _
    refine own_blk X0 hx bl2_5_1 (own_hb hby bd2_5_1) (pc' := 6) (Ls' := #[.val (.ref a1), .val (.ref a2)]) (st' := [.null, (.int (2 : Int32)), (.int (0 : Int32)), (.ref a2), (.ref a1)]) rfl ?_
    refine st2 _ ?_
    show Steps p.tables e below (T2.setTop (mkF m 9 #[.val (.ref a1), .val (.ref a2)] [])) _
    exact X2.returnOut hx Bd.returns (hb hby d2_9) hr
  · show Q2_2 Z a1 a2 c0 c1 wz k_a2 h0 n0 _ T2.heap _
    exact ⟨rfl, N2, kp4⟩
theorem d1_42 : decode method_3_code 42 = .ok (.iconst 2, 1) := by decide +kernel
theorem d1_43 : decode method_3_code 43 = .ok (.newarray .char, 2) := by decide +kernel
theorem d1_45 : decode method_3_code 45 = .ok (.astore_n 3, 1) := by decide +kernel
theorem d1_46 : decode method_3_code 46 = .ok (.aload_n 3, 1) := by decide +kernel
theorem d1_47 : decode method_3_code 47 = .ok (.iconst 0, 1) := by decide +kernel
theorem d1_48 : decode method_3_code 48 = .ok (.iload_n 1, 1) := by decide +kernel
theorem d1_49 : decode method_3_code 49 = .ok (.sipush 255, 3) := by decide +kernel
theorem d1_52 : decode method_3_code 52 = .ok (.iand, 1) := by decide +kernel
theorem d1_53 : decode method_3_code 53 = .ok (.i2c, 1) := by decide +kernel
theorem d1_54 : decode method_3_code 54 = .ok (.castore, 1) := by decide +kernel
theorem d1_55 : decode method_3_code 55 = .ok (.aload_n 3, 1) := by decide +kernel
theorem d1_56 : decode method_3_code 56 = .ok (.iconst 1, 1) := by decide +kernel
theorem d1_57 : decode method_3_code 57 = .ok (.iload_n 2, 1) := by decide +kernel
theorem d1_58 : decode method_3_code 58 = .ok (.sipush 255, 3) := by decide +kernel
theorem d1_61 : decode method_3_code 61 = .ok (.iand, 1) := by decide +kernel
theorem d1_62 : decode method_3_code 62 = .ok (.i2c, 1) := by decide +kernel
theorem d1_63 : decode method_3_code 63 = .ok (.castore, 1) := by decide +kernel
theorem d1_64 : decode method_3_code 64 = .ok (.new 16, 3) := by decide +kernel
theorem d1_67 : decode method_3_code 67 = .ok (.dup, 1) := by decide +kernel
theorem d1_68 : decode method_3_code 68 = .ok (.aload_n 3, 1) := by decide +kernel
theorem d1_69 : decode method_3_code 69 = .ok (.invokespecial 18, 3) := by decide +kernel
theorem d1_72 : decode method_3_code 72 = .ok (.areturn, 1) := by decide +kernel
def bl1_42_1 : List (Nat × Instr × Nat) := [(42, .iconst 2, 1)]
theorem bd1_42_1 : own_dec method_3_code bl1_42_1 = true := by decide +kernel
def bl1_45_1 : List (Nat × Instr × Nat) := [(45, .astore_n 3, 1)]
theorem bd1_45_1 : own_dec method_3_code bl1_45_1 = true := by decide +kernel
def bl1_46_6 : List (Nat × Instr × Nat) := [(46, .aload_n 3, 1), (47, .iconst 0, 1), (48, .iload_n 1, 1), (49, .sipush 255, 3), (52, .iand, 1), (53, .i2c, 1)]
theorem bd1_46_6 : own_dec method_3_code bl1_46_6 = true := by decide +kernel
def bl1_55_6 : List (Nat × Instr × Nat) := [(55, .aload_n 3, 1), (56, .iconst 1, 1), (57, .iload_n 2, 1), (58, .sipush 255, 3), (61, .iand, 1), (62, .i2c, 1)]
theorem bd1_55_6 : own_dec method_3_code bl1_55_6 = true := by decide +kernel
def bl1_67_2 : List (Nat × Instr × Nat) := [(67, .dup, 1), (68, .aload_n 3, 1)]
theorem bd1_67_2 : own_dec method_3_code bl1_67_2 = true := by decide +kernel

def Q1_2 (Z : State) (p2 : Int32) (p3 : Int32) (wz : Int32) (h0 : Heap) (n0 : Nat) (v : Option Value) (h : Heap) (L : List Loc) : Prop := ∃ b : Addr, v = some (.ref b) ∧ Fr n0 L ∧ Keep h0 h []
set_option maxRecDepth 65536 in
set_option maxHeartbeats 40000000 in
theorem rm1_2 (l : Launch) (Z : State) (a0 : Array Value) (hw : ∀ d ∈ tables_1, d.before a0 Z = true) (ws : List Jvm.Cond) (p2 : Int32) (p3 : Int32) (wz : Int32) (h0 : Heap) (n0 : Nat) (Z0 : n0 ≤ h0.size) (S_COMPACT_STRINGS : Sta Z h0 "java/lang/String" "COMPACT_STRINGS" "Z" (.int wz)) (hwz : ¬ wz = 0) :
    MetFree l (⟨"com/example/vendsettle/vendsettle/StatusIsSuccessPinLaw", "messageOf", "(III)Ljava/lang/String;"⟩ : MethodName) (head1 (Jvm.Cond.code (⟨"com/example/vendsettle/vendsettle/StatusIsSuccessPinLaw", "messageOf", "(III)Ljava/lang/String;"⟩ : MethodName) method_3_code 4 (some (.object "java/lang/String")) :: ws) ({ frames := 4, cells := 3, slots := 8, locals := 66 } : Room)) (fun a U => a = #[(.int (2 : Int32)), (.int p2), (.int p3)] ∧ Z.Warmed39 U.vm ∧ U.heap = h0) (fun _ _ _ _ _ => True) (fun _ U o U' => ∃ v L, o = .returned v ∧ Q1_2 Z p2 p3 wz h0 n0 v U'.heap L ∧ FrameEnd U o U' L ({ frames := 4, cells := 3, slots := 8, locals := 66 } : Room).cells ({ frames := 4, cells := 3, slots := 8, locals := 66 } : Room).slots) := by
  refine MetFree.of_bodySF (plainFor_of_name pn_1) hisR ?_
  intro p e s m args below meth c s₁ Bd hml0 hP hK
  obtain ⟨rfl, hZ, hh⟩ := hP
  have hx := Bd.exec
  have hby := Bd.bytes
  have hml : c.maxLocals = 4 := hml0
  have hown : s.vm.findClass "com/example/vendsettle/vendsettle/StatusIsSuccessPinLaw" = some m.cls := findClass_of_methodNamed Bd.named
  have hnm := (name_of_methodNamed Bd.named Bd.method).1
  have X0 : Stand p l e ({ frames := 4, cells := 3, slots := 8, locals := 66 } : Room) s m #[(.int (2 : Int32)), (.int p2), (.int p3)] below meth c s₁ [] 0 0 := Stand.of_body Bd
  have e0 : s₁.heap = h0 := by rw [← hh, Bd.state]; rfl
  have N0 := Fr.nil n0
  have pre0 : ∀ t, Steps p.tables e below (s₁.setTop (mkF m 0 #[.val (.int (2 : Int32)), .val (.int p2), .val (.int p3), .unset] [])) t → Steps p.tables e below (s₁.setTop (entryFrame m #[(.int (2 : Int32)), (.int p2), (.int p3)] 4)) t := fun t k => castTop (ef_1 m (2 : Int32) p2 p3) k
  obtain ⟨T1, h1, k1, X1, e1, E1, A1, st1⟩ := newP X0 hx hZ (hw _ (List.mem_of_getElem? (i := 8) rfl)) e0 (g := (mkF m 43 #[.val (.int (2 : Int32)), .val (.int p2), .val (.int p3), .unset] [(.int (2 : Int32))])) rfl (hb hby d1_43) rfl (by decide) (cap := 2) (by decide) (by decide) (by decide) (by decide)
  obtain ⟨b1, g1⟩ : ∃ z, z = h0.size := ⟨_, rfl⟩
  rw [← g1] at A1 st1
  have g_b1 : n0 ≤ b1 := Nat.le_trans Z0 (Nat.le_of_eq g1.symm)
  have sz_b1 : h0.size ≤ b1 := Nat.le_trans (Keep.refl h0 []).1 (Nat.le_of_eq g1.symm)
  have zs2 : n0 ≤ h1.size := Nat.le_trans Z0 E1.1
  have kp3 : Keep h0 h1 [] := (Keep.refl h0 []).ext E1
  have V_b1 : Arv Z h1 b1 k1 .char (2 : Int32) [(.int (0 : Int32)), (.int (0 : Int32))] (.int (0 : Int32)) := (Arv.new A1 (by decide)).pad (pad_rep [] (.int (0 : Int32)) 2)
  obtain ⟨cx4, Ar4, qq4, S4, N4_, H4, G4⟩ := id V_b1
  have hin4 : ¬ ((0 : Int32) < 0 ∨ cx4.slots.size ≤ ((0 : Int32)).toNatClampNeg) := inb_of S4 ⟨by decide, by decide⟩
  obtain ⟨T4, h4, X4, e4, W4, st4⟩ := stC X1 hx hZ e1 Ar4 (j := (0 : Int32)) hin4 (g := (mkF m 54 #[.val (.int (2 : Int32)), .val (.int p2), .val (.int p3), .val (.ref b1)] [(.int ((p2 &&& (255 : Int32)).toUInt32.toUInt16.toUInt32.toInt32)), (.int (0 : Int32)), (.ref b1)])) rfl rfl (hb hby d1_54)
  have V4 : Arv Z h4 b1 k1 .char (2 : Int32) [(.int (nar .char ((p2 &&& (255 : Int32)).toUInt32.toUInt16.toUInt32.toInt32))), (.int (0 : Int32))] (.int (0 : Int32)) := Arv.set Ar4 qq4 S4 N4_ H4 G4 (fits_nar_char _) W4 0 rfl (Nat.le_of_ble_eq_true rfl)
  have zs5 : n0 ≤ h4.size := Nat.le_trans zs2 (Keep.of_wr W4).1
  have kp6 : Keep h0 h4 [] := kp3.wr W4 (Or.inr sz_b1)
  have N4 := Fr.snoc X4 N0 g_b1
  obtain ⟨cx7, Ar7, qq7, S7, N7_, H7, G7⟩ := id V4
  have hin7 : ¬ ((1 : Int32) < 0 ∨ cx7.slots.size ≤ ((1 : Int32)).toNatClampNeg) := inb_of S7 ⟨by decide, by decide⟩
  obtain ⟨T7, h7, X7, e7, W7, st7⟩ := stC X4 hx hZ e4 Ar7 (j := (1 : Int32)) hin7 (g := (mkF m 63 #[.val (.int (2 : Int32)), .val (.int p2), .val (.int p3), .val (.ref b1)] [(.int ((p3 &&& (255 : Int32)).toUInt32.toUInt16.toUInt32.toInt32)), (.int (1 : Int32)), (.ref b1)])) rfl rfl (hb hby d1_63)
  have V7 : Arv Z h7 b1 k1 .char (2 : Int32) [(.int (nar .char ((p2 &&& (255 : Int32)).toUInt32.toUInt16.toUInt32.toInt32))), (.int (nar .char ((p3 &&& (255 : Int32)).toUInt32.toUInt16.toUInt32.toInt32)))] (.int (0 : Int32)) := Arv.set Ar7 qq7 S7 N7_ H7 G7 (fits_nar_char _) W7 1 rfl (Nat.le_of_ble_eq_true rfl)
  have zs8 : n0 ≤ h7.size := Nat.le_trans zs5 (Keep.of_wr W7).1
  have kp9 : Keep h0 h7 [] := kp6.wr W7 (Or.inr sz_b1)
  have N7 := Fr.snoc X7 N4 g_b1
  obtain ⟨T10, h10, X10, e10, E10, A10, D10, -, st10⟩ := newO X7 hx hZ hown (hw _ (List.mem_of_getElem? (i := 5) rfl)) (hw _ (List.mem_of_getElem? (i := 6) rfl)) (hw _ (List.mem_of_getElem? (i := 7) rfl)) e7 (g := (mkF m 64 #[.val (.int (2 : Int32)), .val (.int p2), .val (.int p3), .val (.ref b1)] [])) rfl (hb hby d1_64) (by decide) (by decide)
  obtain ⟨b10, g10⟩ : ∃ z, z = h7.size := ⟨_, rfl⟩
  rw [← g10] at A10 D10 st10
  have ne_b1_b10 : b1 ≠ b10 := Nat.ne_of_lt (Nat.lt_of_lt_of_le V7.lt (Nat.le_of_eq g10.symm))
  have g_b10 : n0 ≤ b10 := Nat.le_trans zs8 (Nat.le_of_eq g10.symm)
  have sz_b10 : h0.size ≤ b10 := Nat.le_trans kp9.1 (Nat.le_of_eq g10.symm)
  have zs11 : n0 ≤ h10.size := Nat.le_trans zs8 E10.1
  have kp12 : Keep h0 h10 [] := kp9.ext E10
  have F_value_b10 : Fld Z h10 b10 "java/lang/String" "value" "[B" .null := D10 (Or.inr (hw _ (List.mem_of_getElem? (i := 21) rfl))) (ty := (.array .byte)) (by decide)
  have F_coder_b10 : Fld Z h10 b10 "java/lang/String" "coder" "B" (.int (0 : Int32)) := D10 (Or.inr (hw _ (List.mem_of_getElem? (i := 22) rfl))) (ty := .byte) (by decide)
  have fa14 : Arv Z h10 b1 k1 .char (2 : Int32) [(.int (nar .char ((p2 &&& (255 : Int32)).toUInt32.toUInt16.toUInt32.toInt32))), (.int (nar .char ((p3 &&& (255 : Int32)).toUInt32.toUInt16.toUInt32.toInt32)))] (.int (0 : Int32)) := (V7.ext E10)
  have fa15 : Sta Z h10 "java/lang/String" "COMPACT_STRINGS" "Z" (.int wz) := ((((S_COMPACT_STRINGS.ext E1).wr W4).wr W7).ext E10)
  obtain ⟨_, T13, Lc13, X13, hQ13, st13⟩ := own_callI X10 hx hZ (y := (⟨"java/lang/String", "<init>", "([C)V"⟩ : MethodName)) rfl hown (hw _ (List.mem_of_getElem? (i := 9) rfl)) (hw _ (List.mem_of_getElem? (i := 10) rfl)) (hw _ (List.mem_of_getElem? (i := 7) rfl)) (hw _ (List.mem_of_getElem? (i := 11) rfl)) (by decide) (W := 1) (a := b10) (argsL := [(.ref b1)]) (rest := [(.ref b10)]) (rm2_2 l Z a0 hw [] b10 b1 (nar .char ((p2 &&& (255 : Int32)).toUInt32.toUInt16.toUInt32.toInt32)) (nar .char ((p3 &&& (255 : Int32)).toUInt32.toUInt16.toUInt32.toInt32)) wz k1 h10 n0 zs11 A10 F_value_b10 F_coder_b10 g_b10 fa14 fa15 ne_b1_b10 (own_c255 p2) (own_c255 p3) hwz) (by decide) (by decide) (c' := 3) (s' := 8) rfl rfl (by decide) (by decide) e10 (g := (mkF m 69 #[.val (.int (2 : Int32)), .val (.int p2), .val (.int p3), .val (.ref b1)] [(.ref b1), (.ref b10), (.ref b10)])) rfl (by rw [hml]; rfl) (lenOf pd_1_1 rfl) rfl (by show 2 * 0 + _ ≤ _; exact Nat.le_of_eq rfl) (hb hby d1_69)
  obtain ⟨rfl, N13q, K13⟩ := hQ13
  have N13 := Fr.app N7 N13q
  have zs16 : n0 ≤ T13.heap.size := Nat.le_trans zs11 K13.1
  have kp17 : Keep h0 T13.heap [] := kp12.trans K13 (allS (Or.inr sz_b10) all0)
  obtain ⟨fs, hr, hrun, hended, hW, hsame⟩ := X13.leave (v := some (.ref b10)) (fun h => by rw [Bd.returns] at h; cases h)
  refine ⟨_, _, pre0 _ ?_, hrun, hended, _, _, rfl, ?_, ⟨_, rfl⟩, hW, hsame.mono (by decide) (by decide)⟩
  · show Steps p.tables e below (s₁.setTop (mkF m 0 #[.val (.int (2 : Int32)), .val (.int p2), .val (.int p3), .unset] [])) _
    refine own_blk X0 hx bl1_0_1 (own_hb hby bd1_0_1) (pc' := 1) (Ls' := #[.val (.int (2 : Int32)), .val (.int p2), .val (.int p3), .unset]) (st' := [(.int (2 : Int32))]) rfl ?_
    refine XS.ifYes X0.here hx rfl (pc0 := 1) (pc' := 15) rfl (hb hby d1_1) rfl ((if0 _ _).trans (feq (by decide : ¬ ((2 : Int32) = (0 : Int32)))).2) (by decide) (by decide) ?_
    show Steps p.tables e below (s₁.setTop (mkF m 15 #[.val (.int (2 : Int32)), .val (.int p2), .val (.int p3), .unset] [])) _
    refine own_blk X0 hx bl1_15_2 (own_hb hby bd1_15_2) (pc' := 17) (Ls' := #[.val (.int (2 : Int32)), .val (.int p2), .val (.int p3), .unset]) (st' := [(.int (1 : Int32)), (.int (2 : Int32))]) rfl ?_
    refine XS.icmpYes X0.here hx rfl (pc0 := 17) (pc' := 42) rfl (hb hby d1_17) rfl (feq (by decide : ¬ ((2 : Int32) = (1 : Int32)))).2 (by decide) (by decide) ?_
    show Steps p.tables e below (s₁.setTop (mkF m 42 #[.val (.int (2 : Int32)), .val (.int p2), .val (.int p3), .unset] [])) _
    refine own_blk X0 hx bl1_42_1 (own_hb hby bd1_42_1) (pc' := 43) (Ls' := #[.val (.int (2 : Int32)), .val (.int p2), .val (.int p3), .unset]) (st' := [(.int (2 : Int32))]) rfl ?_
    refine st1 _ ?_
    show Steps p.tables e below (T1.setTop (mkF m 45 #[.val (.int (2 : Int32)), .val (.int p2), .val (.int p3), .unset] [(.ref b1)])) _
    refine own_blk X1 hx bl1_45_1 (own_hb hby bd1_45_1) (pc' := 46) (Ls' := #[.val (.int (2 : Int32)), .val (.int p2), .val (.int p3), .val (.ref b1)]) (st' := []) rfl ?_
    refine own_blk X1 hx bl1_46_6 (own_hb hby bd1_46_6) (pc' := 54) (Ls' := #[.val (.int (2 : Int32)), .val (.int p2), .val (.int p3), .val (.ref b1)]) (st' := [(.int ((p2 &&& (255 : Int32)).toUInt32.toUInt16.toUInt32.toInt32)), (.int (0 : Int32)), (.ref b1)]) rfl ?_
    refine st4 _ ?_
    show Steps p.tables e below (T4.setTop (mkF m 55 #[.val (.int (2 : Int32)), .val (.int p2), .val (.int p3), .val (.ref b1)] [])) _
    refine own_blk X4 hx bl1_55_6 (own_hb hby bd1_55_6) (pc' := 63) (Ls' := #[.val (.int (2 : Int32)), .val (.int p2), .val (.int p3), .val (.ref b1)]) (st' := [(.int ((p3 &&& (255 : Int32)).toUInt32.toUInt16.toUInt32.toInt32)), (.int (1 : Int32)), (.ref b1)]) rfl ?_
    refine st7 _ ?_
    show Steps p.tables e below (T7.setTop (mkF m 64 #[.val (.int (2 : Int32)), .val (.int p2), .val (.int p3), .val (.ref b1)] [])) _
    refine st10 _ ?_
    show Steps p.tables e below (T10.setTop (mkF m 67 #[.val (.int (2 : Int32)), .val (.int p2), .val (.int p3), .val (.ref b1)] [(.ref b10)])) _
    refine own_blk X10 hx bl1_67_2 (own_hb hby bd1_67_2) (pc' := 69) (Ls' := #[.val (.int (2 : Int32)), .val (.int p2), .val (.int p3), .val (.ref b1)]) (st' := [(.ref b1), (.ref b10), (.ref b10)]) rfl ?_
    refine st13 _ ?_
    show Steps p.tables e below (T13.setTop (mkF m 72 #[.val (.int (2 : Int32)), .val (.int p2), .val (.int p3), .val (.ref b1)] [(.ref b10)])) _
    jvm_step X13.here [X13.here.top, hx, (hb hby d1_72), X13.method', Bd.returns, Value.isRef, FieldType.isReference]
    first | (intro acts; rw [hr _ acts rfl rfl rfl]) | rw [hr _ _ rfl rfl rfl]
    exact Steps.refl _
  · show Q1_2 Z p2 p3 wz h0 n0 _ T13.heap _
    exact ⟨b10, rfl, N13, kp17⟩
theorem d3_8 : decode jdk_42_method_149_code 8 = .ok (.aload_n 0, 1) := by decide +kernel
theorem d3_9 : decode jdk_42_method_149_code 9 = .ok (.ldc 7, 2) := by decide +kernel
theorem d3_11 : decode jdk_42_method_149_code 11 = .ok (.getfield 9, 3) := by decide +kernel
theorem d3_14 : decode jdk_42_method_149_code 14 = .ok (.putfield 9, 3) := by decide +kernel
theorem d3_17 : decode jdk_42_method_149_code 17 = .ok (.aload_n 0, 1) := by decide +kernel
theorem d3_18 : decode jdk_42_method_149_code 18 = .ok (.ldc 7, 2) := by decide +kernel
theorem d3_20 : decode jdk_42_method_149_code 20 = .ok (.getfield 15, 3) := by decide +kernel
theorem d3_23 : decode jdk_42_method_149_code 23 = .ok (.putfield 15, 3) := by decide +kernel
theorem d3_26 : decode jdk_42_method_149_code 26 = .ok (.return_, 1) := by decide +kernel
def bl3_8_1 : List (Nat × Instr × Nat) := [(8, .aload_n 0, 1)]
theorem bd3_8_1 : own_dec jdk_42_method_149_code bl3_8_1 = true := by decide +kernel
def bl3_17_1 : List (Nat × Instr × Nat) := [(17, .aload_n 0, 1)]
theorem bd3_17_1 : own_dec jdk_42_method_149_code bl3_17_1 = true := by decide +kernel

def Q3_0 (Z : State) (a1 : Addr) (a2 : Addr) (h0 : Heap) (n0 : Nat) (v : Option Value) (h : Heap) (L : List Loc) : Prop := v = none ∧ Fr n0 L ∧ Keep h0 h [a1]
set_option maxRecDepth 65536 in
set_option maxHeartbeats 40000000 in
theorem rm3_0 (l : Launch) (Z : State) (a0 : Array Value) (hw : ∀ d ∈ tables_1, d.before a0 Z = true) (ws : List Jvm.Cond) (a1 : Addr) (a2 : Addr) (h0 : Heap) (n0 : Nat) (Z0 : n0 ≤ h0.size) (E_a1 : Exa Z h0 a1 "java/lang/String") (F_a1_value : Fld Z h0 a1 "java/lang/String" "value" "[B" .null) (F_a1_coder : Fld Z h0 a1 "java/lang/String" "coder" "B" (.int (0 : Int32))) (g_a1 : n0 ≤ a1) :
    MetFree l (⟨"java/lang/String", "<init>", "([CIILjava/lang/Void;)V"⟩ : MethodName) (head1 (Jvm.Cond.code (⟨"java/lang/String", "<init>", "([CIILjava/lang/Void;)V"⟩ : MethodName) jdk_42_method_149_code 6 none :: ws) ({ frames := 1, cells := 4, slots := 8, locals := 12 } : Room)) (fun a U => a = #[(.ref a1), (.ref a2), (.int (0 : Int32)), (.int (0 : Int32)), .null] ∧ Z.Warmed39 U.vm ∧ U.heap = h0 ∧ CHv Z own_EL U.vm h0) (fun _ _ _ _ _ => True) (fun _ U o U' => ∃ v L, o = .returned v ∧ Q3_0 Z a1 a2 h0 n0 v U'.heap L ∧ CHr Z own_EL U.vm U.heap U'.vm U'.heap ∧ ReturnedEndW U o U' L ({ frames := 1, cells := 4, slots := 8, locals := 12 } : Room).cells ({ frames := 1, cells := 4, slots := 8, locals := 12 } : Room).slots) := by
  refine MetFree.of_bodySF (plainFor_of_name pn_3) hisR ?_
  intro p e s m args below meth c s₁ Bd hml0 hP hK
  obtain ⟨rfl, hZ, hh, hC0⟩ := hP
  have hx := Bd.exec
  have hby := Bd.bytes
  have hml : c.maxLocals = 6 := hml0
  have hown : s.vm.findClass "java/lang/String" = some m.cls := findClass_of_methodNamed Bd.named
  have hnm := (name_of_methodNamed Bd.named Bd.method).1
  have X0 : Stand p l e ({ frames := 1, cells := 4, slots := 8, locals := 12 } : Room) s m #[(.ref a1), (.ref a2), (.int (0 : Int32)), (.int (0 : Int32)), .null] below meth c s₁ [] 0 0 := Stand.of_body Bd
  have e0 : s₁.heap = h0 := by rw [← hh, Bd.state]; rfl
  have N0 := Fr.nil n0
  have CH0 := CHr.refl hC0
  have pre0 : ∀ t, Steps p.tables e below (s₁.setTop (mkF m 0 #[.val (.ref a1), .val (.ref a2), .val (.int (0 : Int32)), .val (.int (0 : Int32)), .val .null, .unset] [])) t → Steps p.tables e below (s₁.setTop (entryFrame m #[(.ref a1), (.ref a2), (.int (0 : Int32)), (.int (0 : Int32)), .null] 6)) t := fun t k => castTop (ef_3n m a1 a2 (0 : Int32) (0 : Int32)) k
  have sf_a1 : Safe Z own_EL s.vm h0 a1 := own_safe hZ.alike E_a1 F_a1_value
  obtain ⟨T1, X1, e1, st1⟩ := initO X0 hx hZ hown (hw _ (List.mem_of_getElem? (i := 16) rfl)) (hw _ (List.mem_of_getElem? (i := 17) rfl)) (hw _ (List.mem_of_getElem? (i := 18) rfl)) e0 (g := (mkF m 1 #[.val (.ref a1), .val (.ref a2), .val (.int (0 : Int32)), .val (.int (0 : Int32)), .val .null, .unset] [(.ref a1)])) rfl (by rw [hml]; rfl) rfl (hb hby d3_1) (by decide) (W := 0) (by show 2 * 0 + _ ≤ _; exact Nat.le_of_eq rfl) (by decide)
  have pre2 : ∀ t, Steps p.tables e below (T1.setTop (mkF m 9 #[.val (.ref a1), .val (.ref a2), .val (.int (0 : Int32)), .val (.int (0 : Int32)), .val .null, .unset] [(.ref a1)])) t → Steps p.tables e below (s₁.setTop (entryFrame m #[(.ref a1), (.ref a2), (.int (0 : Int32)), (.int (0 : Int32)), .null] 6)) t := fun t kt => by
    refine pre0 _ ?_
    show Steps p.tables e below (s₁.setTop (mkF m 0 #[.val (.ref a1), .val (.ref a2), .val (.int (0 : Int32)), .val (.int (0 : Int32)), .val .null, .unset] [])) _
    refine own_blk X0 hx bl3_0_1 (own_hb hby bd3_0_1) (pc' := 1) (Ls' := #[.val (.ref a1), .val (.ref a2), .val (.int (0 : Int32)), .val (.int (0 : Int32)), .val .null, .unset]) (st' := [(.ref a1)]) rfl ?_
    refine st1 _ ?_
    show Steps p.tables e below (T1.setTop (mkF m 4 #[.val (.ref a1), .val (.ref a2), .val (.int (0 : Int32)), .val (.int (0 : Int32)), .val .null, .unset] [])) _
    refine own_blk X1 hx bl3_4_1 (own_hb hby bd3_4_1) (pc' := 5) (Ls' := #[.val (.ref a1), .val (.ref a2), .val (.int (0 : Int32)), .val (.int (0 : Int32)), .val .null, .unset]) (st' := [(.int (0 : Int32))]) rfl ?_
    refine XS.ifNo X1.here hx rfl (hb hby d3_5) rfl ((if0 _ _).trans (teq (by decide : (0 : Int32) = (0 : Int32))).2) ?_
    show Steps p.tables e below (T1.setTop (mkF m 8 #[.val (.ref a1), .val (.ref a2), .val (.int (0 : Int32)), .val (.int (0 : Int32)), .val .null, .unset] [])) _
    refine own_blk X1 hx bl3_8_1 (own_hb hby bd3_8_1) (pc' := 9) (Ls' := #[.val (.ref a1), .val (.ref a2), .val (.int (0 : Int32)), .val (.int (0 : Int32)), .val .null, .unset]) (st' := [(.ref a1)]) rfl ?_
    exact kt
  have hS3a : s.Since s.vm h0.size := (State.WarmedH.refl s).since _
  obtain ⟨sa3, T3, h3, kk3, sb3, kb3, X3, e3, E3, hS3, hkk3, hZ, hown, Ea3, Fc3, Fv3, Vb3, -, -, C3, -, sfe3, st3⟩ := ldcCH (s := s) (vm0 := s.vm) X1 hx hZ hown (hw _ (List.mem_of_getElem? (i := 19) rfl)) (own_ws hw) e1 hS3a (Nat.le_refl _) (own_ew hw) (List.mem_of_getElem? (i := 0) rfl) CH0.1 (vs := []) (z := (0 : Int32)) ⟨(fun _ hm => nomatch hm), rfl⟩ (by decide) rfl (g := (mkF m 9 #[.val (.ref a1), .val (.ref a2), .val (.int (0 : Int32)), .val (.int (0 : Int32)), .val .null, .unset] [(.ref a1)])) rfl (hb hby d3_9) (n := 0) (by decide) (by decide) (by decide) (by decide)
  have zs4 : n0 ≤ h3.size := Nat.le_trans Z0 E3.1
  have kp5 : Keep h0 h3 [a1] := (Keep.refl h0 [a1]).ext E3
  have sf7 : Safe Z own_EL T3.vm h3 a1 := C3.safe E_a1.lt sf_a1
  have ch6 : CHr Z own_EL s.vm h0 T3.vm h3 := CH0.trans C3
  have ne_a1_sa3 : a1 ≠ sa3 := (sfe3 _ sf7).1
  obtain ⟨T8, X8, e8, st8⟩ := getF X3 hx hZ hown (host := "") (Or.inl (hw _ (List.mem_of_getElem? (i := 25) rfl))) Via.refl e3 Fv3 (g := (mkF m 11 #[.val (.ref a1), .val (.ref a2), .val (.int (0 : Int32)), .val (.int (0 : Int32)), .val .null, .unset] [(.ref sa3), (.ref a1)])) rfl rfl (hb hby d3_11)
  have fa9 : Fld Z h3 a1 "java/lang/String" "value" "[B" .null := (F_a1_value.ext E3)
  have fa10 : Exa Z h3 a1 "java/lang/String" := (E_a1.ext E3)
  obtain ⟨T11, h11, X11, e11, W11, st11⟩ := putF X8 hx hZ hown (host := "") (Or.inl (hw _ (List.mem_of_getElem? (i := 25) rfl))) Via.refl e8 fa9 fa10 (Or.inr ⟨(hw _ (List.mem_of_getElem? (i := 21) rfl)), rfl, hnm⟩) (hw _ (List.mem_of_getElem? (i := 6) rfl)) (ty := (.array .byte)) (by decide) rfl rfl (g := (mkF m 14 #[.val (.ref a1), .val (.ref a2), .val (.int (0 : Int32)), .val (.int (0 : Int32)), .val .null, .unset] [(.ref sb3), (.ref a1)])) rfl rfl (hb hby d3_14)
  have Fw11 : Fld Z h11 a1 "java/lang/String" "value" "[B" (.ref sb3) := fa9.same W11
  have zk12 : kk3 ≤ h11.size := Nat.le_trans hkk3 (Keep.of_wr W11).1
  have zs13 : n0 ≤ h11.size := Nat.le_trans zs4 (Keep.of_wr W11).1
  have kp14 : Keep h0 h11 [a1] := kp5.wr W11 (Or.inl (List.mem_of_getElem? (i := 0) rfl))
  have N11 := Fr.snoc X11 N0 g_a1
  have sf16 : Safe Z own_EL T3.vm h11 a1 := Safe.wr W11 sf7 ch6.1 sf7
  have ch15 : CHr Z own_EL s.vm h0 T3.vm h11 := ch6.trans (CHr.wr W11 sf7 ch6.1)
  have fa17 : Exa Z h11 a1 "java/lang/String" := (fa10.wr W11)
  have pre18 : ∀ t, Steps p.tables e below (T11.setTop (mkF m 18 #[.val (.ref a1), .val (.ref a2), .val (.int (0 : Int32)), .val (.int (0 : Int32)), .val .null, .unset] [(.ref a1)])) t → Steps p.tables e below (s₁.setTop (entryFrame m #[(.ref a1), (.ref a2), (.int (0 : Int32)), (.int (0 : Int32)), .null] 6)) t := fun t kt => by
    refine pre2 _ ?_
    show Steps p.tables e below (T1.setTop (mkF m 9 #[.val (.ref a1), .val (.ref a2), .val (.int (0 : Int32)), .val (.int (0 : Int32)), .val .null, .unset] [(.ref a1)])) _
    refine st3 _ ?_
    show Steps p.tables e below (T3.setTop (mkF m 11 #[.val (.ref a1), .val (.ref a2), .val (.int (0 : Int32)), .val (.int (0 : Int32)), .val .null, .unset] [(.ref sa3), (.ref a1)])) _
    refine st8 _ ?_
    show Steps p.tables e below (T8.setTop (mkF m 14 #[.val (.ref a1), .val (.ref a2), .val (.int (0 : Int32)), .val (.int (0 : Int32)), .val .null, .unset] [(.ref sb3), (.ref a1)])) _
    refine st11 _ ?_
    show Steps p.tables e below (T11.setTop (mkF m 17 #[.val (.ref a1), .val (.ref a2), .val (.int (0 : Int32)), .val (.int (0 : Int32)), .val .null, .unset] [])) _
    refine own_blk X11 hx bl3_17_1 (own_hb hby bd3_17_1) (pc' := 18) (Ls' := #[.val (.ref a1), .val (.ref a2), .val (.int (0 : Int32)), .val (.int (0 : Int32)), .val .null, .unset]) (st' := [(.ref a1)]) rfl ?_
    exact kt
  obtain ⟨sa19, T19, h19, kk19, sb19, kb19, X19, e19, E19, hS19, hkk19, hZ, hown, Ea19, Fc19, Fv19, Vb19, -, -, C19, -, sfe19, st19⟩ := ldcCH (s := s) (vm0 := T3.vm) X11 hx hZ hown (hw _ (List.mem_of_getElem? (i := 19) rfl)) (own_ws hw) e11 hS3 zk12 (own_ew hw) (List.mem_of_getElem? (i := 0) rfl) ch15.1 (vs := []) (z := (0 : Int32)) ⟨(fun _ hm => nomatch hm), rfl⟩ (by decide) rfl (g := (mkF m 18 #[.val (.ref a1), .val (.ref a2), .val (.int (0 : Int32)), .val (.int (0 : Int32)), .val .null, .unset] [(.ref a1)])) rfl (hb hby d3_18) (n := 0) (by decide) (by decide) (by decide) (by decide)
  have zk20 : kk3 ≤ h19.size := Nat.le_trans zk12 E19.1
  have zs21 : n0 ≤ h19.size := Nat.le_trans zs13 E19.1
  have kp22 : Keep h0 h19 [a1] := kp14.ext E19
  have sf24 : Safe Z own_EL T19.vm h19 a1 := C19.safe fa17.lt sf16
  have ch23 : CHr Z own_EL s.vm h0 T19.vm h19 := ch15.trans C19
  have ne_a1_sa19 : a1 ≠ sa19 := (sfe19 _ sf24).1
  obtain ⟨T25, X25, e25, st25⟩ := getF X19 hx hZ hown (host := "") (Or.inl (hw _ (List.mem_of_getElem? (i := 26) rfl))) Via.refl e19 Fc19 (g := (mkF m 20 #[.val (.ref a1), .val (.ref a2), .val (.int (0 : Int32)), .val (.int (0 : Int32)), .val .null, .unset] [(.ref sa19), (.ref a1)])) rfl rfl (hb hby d3_20)
  have fa26 : Fld Z h19 a1 "java/lang/String" "coder" "B" (.int (0 : Int32)) := (((F_a1_coder.ext E3).other W11 (Or.inr (slot_ne (Or.inr (hw _ (List.mem_of_getElem? (i := 22) rfl))) (Or.inr (hw _ (List.mem_of_getElem? (i := 21) rfl))) (by decide) (t := .byte) (t' := (.array .byte)) (by decide) (by decide)))).ext E19)
  have fa27 : Exa Z h19 a1 "java/lang/String" := (fa17.ext E19)
  obtain ⟨T28, h28, X28, e28, W28, st28⟩ := putFN X25 hx hZ hown (hw _ (List.mem_of_getElem? (i := 26) rfl)) Via.refl e25 fa26 fa27 (Or.inr ⟨(hw _ (List.mem_of_getElem? (i := 22) rfl)), rfl, hnm⟩) (hw _ (List.mem_of_getElem? (i := 6) rfl)) (ty := .byte) (v' := (.int (nar .byte (0 : Int32)))) (by decide) rfl (fits_nar_byte _) (g := (mkF m 23 #[.val (.ref a1), .val (.ref a2), .val (.int (0 : Int32)), .val (.int (0 : Int32)), .val .null, .unset] [(.int (0 : Int32)), (.ref a1)])) rfl rfl (hb hby d3_23)
  have Fw28 : Fld Z h28 a1 "java/lang/String" "coder" "B" (.int (nar .byte (0 : Int32))) := fa26.same W28
  have zk29 : kk19 ≤ h28.size := Nat.le_trans hkk19 (Keep.of_wr W28).1
  have zs30 : n0 ≤ h28.size := Nat.le_trans zs21 (Keep.of_wr W28).1
  have kp31 : Keep h0 h28 [a1] := kp22.wr W28 (Or.inl (List.mem_of_getElem? (i := 0) rfl))
  have N28 := Fr.snoc X28 N11 g_a1
  have sf33 : Safe Z own_EL T19.vm h28 a1 := Safe.wr W28 sf24 ch23.1 sf24
  have ch32 : CHr Z own_EL s.vm h0 T19.vm h28 := ch23.trans (CHr.wr W28 sf24 ch23.1)
  obtain ⟨fs, hr, hrun, hended, hRW⟩ := X28.leaveW (s := s) hS19 (by rw [e28]; exact zk29) (v := none) (fun _ => rfl)
  refine ⟨_, _, pre18 _ ?_, hrun, hended, _, _, rfl, ?_, (by rw [hh]; show CHr Z own_EL s.vm h0 T28.vm T28.heap; rw [e28]; exact ch32.trans (CHv.at (s := s) (vm0 := T19.vm) X28 hZ (own_ew hw) ch32.1)), ⟨_, rfl⟩, hRW.2.1, hRW.2.2.1, hRW.2.2.2.mono (by decide) (by decide)⟩
  · show Steps p.tables e below (T11.setTop (mkF m 18 #[.val (.ref a1), .val (.ref a2), .val (.int (0 : Int32)), .val (.int (0 : Int32)), .val .null, .unset] [(.ref a1)])) _
    refine st19 _ ?_
    show Steps p.tables e below (T19.setTop (mkF m 20 #[.val (.ref a1), .val (.ref a2), .val (.int (0 : Int32)), .val (.int (0 : Int32)), .val .null, .unset] [(.ref sa19), (.ref a1)])) _
    refine st25 _ ?_
    show Steps p.tables e below (T25.setTop (mkF m 23 #[.val (.ref a1), .val (.ref a2), .val (.int (0 : Int32)), .val (.int (0 : Int32)), .val .null, .unset] [(.int (0 : Int32)), (.ref a1)])) _
    refine st28 _ ?_
    show Steps p.tables e below (T28.setTop (mkF m 26 #[.val (.ref a1), .val (.ref a2), .val (.int (0 : Int32)), .val (.int (0 : Int32)), .val .null, .unset] [])) _
    exact X28.returnOut hx Bd.returns (hb hby d3_26) hr
  · show Q3_0 Z a1 a2 h0 n0 _ T28.heap _
    rw [e28]
    exact ⟨rfl, N28, kp31⟩

def Q2_0 (Z : State) (a1 : Addr) (a2 : Addr) (k_a2 : ClassId) (h0 : Heap) (n0 : Nat) (v : Option Value) (h : Heap) (L : List Loc) : Prop := v = none ∧ Fr n0 L ∧ Keep h0 h [a1]
set_option maxRecDepth 65536 in
set_option maxHeartbeats 40000000 in
theorem rm2_0 (l : Launch) (Z : State) (a0 : Array Value) (hw : ∀ d ∈ tables_1, d.before a0 Z = true) (ws : List Jvm.Cond) (a1 : Addr) (a2 : Addr) (k_a2 : ClassId) (h0 : Heap) (n0 : Nat) (Z0 : n0 ≤ h0.size) (E_a1 : Exa Z h0 a1 "java/lang/String") (F_a1_value : Fld Z h0 a1 "java/lang/String" "value" "[B" .null) (F_a1_coder : Fld Z h0 a1 "java/lang/String" "coder" "B" (.int (0 : Int32))) (g_a1 : n0 ≤ a1) (V_a2 : Arv Z h0 a2 k_a2 .char (0 : Int32) [] (.int (0 : Int32))) :
    MetFree l (⟨"java/lang/String", "<init>", "([C)V"⟩ : MethodName) (head1 (Jvm.Cond.code (⟨"java/lang/String", "<init>", "([C)V"⟩ : MethodName) jdk_42_method_3_code 2 none :: ws) ({ frames := 2, cells := 4, slots := 8, locals := 29 } : Room)) (fun a U => a = #[(.ref a1), (.ref a2)] ∧ Z.Warmed39 U.vm ∧ U.heap = h0 ∧ CHv Z own_EL U.vm h0) (fun _ _ _ _ _ => True) (fun _ U o U' => ∃ v L, o = .returned v ∧ Q2_0 Z a1 a2 k_a2 h0 n0 v U'.heap L ∧ CHr Z own_EL U.vm U.heap U'.vm U'.heap ∧ ReturnedEndW U o U' L ({ frames := 2, cells := 4, slots := 8, locals := 29 } : Room).cells ({ frames := 2, cells := 4, slots := 8, locals := 29 } : Room).slots) := by
  refine MetFree.of_bodySF (plainFor_of_name pn_2) hisR ?_
  intro p e s m args below meth c s₁ Bd hml0 hP hK
  obtain ⟨rfl, hZ, hh, hC0⟩ := hP
  have hx := Bd.exec
  have hby := Bd.bytes
  have hml : c.maxLocals = 2 := hml0
  have hown : s.vm.findClass "java/lang/String" = some m.cls := findClass_of_methodNamed Bd.named
  have hnm := (name_of_methodNamed Bd.named Bd.method).1
  have X0 : Stand p l e ({ frames := 2, cells := 4, slots := 8, locals := 29 } : Room) s m #[(.ref a1), (.ref a2)] below meth c s₁ [] 0 0 := Stand.of_body Bd
  have e0 : s₁.heap = h0 := by rw [← hh, Bd.state]; rfl
  have N0 := Fr.nil n0
  have CH0 := CHr.refl hC0
  have pre0 : ∀ t, Steps p.tables e below (s₁.setTop (mkF m 0 #[.val (.ref a1), .val (.ref a2)] [])) t → Steps p.tables e below (s₁.setTop (entryFrame m #[(.ref a1), (.ref a2)] 2)) t := fun t k => castTop (ef_2 m a1 a2) k
  obtain ⟨cx1, Ar1, qq1, S1, N1_, H1, G1⟩ := id V_a2
  have pre3 : ∀ t, Steps p.tables e below (s₁.setTop (mkF m 6 #[.val (.ref a1), .val (.ref a2)] [.null, (.int (0 : Int32)), (.int (0 : Int32)), (.ref a2), (.ref a1)])) t → Steps p.tables e below (s₁.setTop (entryFrame m #[(.ref a1), (.ref a2)] 2)) t := fun t kt => by
    refine pre0 _ ?_
    show Steps p.tables e below (s₁.setTop (mkF m 0 #[.val (.ref a1), .val (.ref a2)] [])) _
    refine own_blk X0 hx bl2_0_4 (own_hb hby bd2_0_4) (pc' := 4) (Ls' := #[.val (.ref a1), .val (.ref a2)]) (st' := [(.ref a2), (.int (0 : Int32)), (.ref a2), (.ref a1)]) rfl ?_
    refine X0.arraylength hx (by rw [e0]; exact Ar1.1) (State.isArrayOf_alike hZ.alike Ar1.2.1) (g := (mkF m 4 #[.val (.ref a1), .val (.ref a2)] [(.ref a2), (.int (0 : Int32)), (.ref a2), (.ref a1)])) rfl rfl (hb hby d2_4) _ ?_
    rw [len_of S1 N1_]
    show Steps p.tables e below (s₁.setTop (mkF m 5 #[.val (.ref a1), .val (.ref a2)] [(.int (0 : Int32)), (.int (0 : Int32)), (.ref a2), (.ref a1)])) _
    refine own_blk X0 hx bl2_5_1 (own_hb hby bd2_5_1) (pc' := 6) (Ls' := #[.val (.ref a1), .val (.ref a2)]) (st' := [.null, (.int (0 : Int32)), (.int (0 : Int32)), (.ref a2), (.ref a1)]) rfl ?_
    exact kt
  obtain ⟨_, T2, Lc2, X2, hQ2, hC2, hS2, hZ, hown, st2⟩ := own_callIH X0 hx hZ (y := (⟨"java/lang/String", "<init>", "([CIILjava/lang/Void;)V"⟩ : MethodName)) rfl hown (hw _ (List.mem_of_getElem? (i := 12) rfl)) (hw _ (List.mem_of_getElem? (i := 13) rfl)) (hw _ (List.mem_of_getElem? (i := 7) rfl)) (hw _ (List.mem_of_getElem? (i := 15) rfl)) (by decide) (W := 0) (a := a1) (argsL := [(.ref a2), (.int (0 : Int32)), (.int (0 : Int32)), .null]) (rest := []) (rm3_0 l Z a0 hw [] a1 a2 h0 n0 Z0 E_a1 F_a1_value F_a1_coder g_a1) (own_ew hw) CH0.1 (by decide) (by decide) (c' := 4) (s' := 8) rfl rfl (by decide) (by decide) e0 (g := (mkF m 6 #[.val (.ref a1), .val (.ref a2)] [.null, (.int (0 : Int32)), (.int (0 : Int32)), (.ref a2), (.ref a1)])) rfl (by rw [hml]; rfl) (lenOf pd_2_2 rfl) rfl (by show 2 * 0 + _ ≤ _; exact Nat.le_of_eq rfl) (hb hby d2_6)
  obtain ⟨rfl, N2q, K2⟩ := hQ2
  have N2 := Fr.app N0 N2q
  have zs4 : n0 ≤ T2.heap.size := Nat.le_trans Z0 K2.1
  have kp5 : Keep h0 T2.heap [a1] := (Keep.refl h0 [a1]).trans K2 (allS (Or.inl (List.mem_of_getElem? (i := 0) rfl)) all0)
  have ch6 : CHr Z own_EL s.vm h0 T2.vm T2.heap := CH0.trans hC2
  obtain ⟨fs, hr, hrun, hended, hRW⟩ := X2.leaveW (s := s) hS2 (Nat.le_refl _) (v := none) (fun _ => rfl)
  refine ⟨_, _, pre3 _ ?_, hrun, hended, _, _, rfl, ?_, (by rw [hh]; show CHr Z own_EL s.vm h0 T2.vm T2.heap; exact ch6.trans (CHv.at (s := s) (vm0 := T2.vm) X2 hZ (own_ew hw) ch6.1)), ⟨_, rfl⟩, hRW.2.1, hRW.2.2.1, hRW.2.2.2.mono (by decide) (by decide)⟩
  · show Steps p.tables e below (s₁.setTop (mkF m 6 #[.val (.ref a1), .val (.ref a2)] [.null, (.int (0 : Int32)), (.int (0 : Int32)), (.ref a2), (.ref a1)])) _
    refine st2 _ ?_
    show Steps p.tables e below (T2.setTop (mkF m 9 #[.val (.ref a1), .val (.ref a2)] [])) _
    exact X2.returnOut hx Bd.returns (hb hby d2_9) hr
  · show Q2_0 Z a1 a2 k_a2 h0 n0 _ T2.heap _
    exact ⟨rfl, N2, kp5⟩
theorem d1_4 : decode method_3_code 4 = .ok (.new 16, 3) := by decide +kernel
theorem d1_7 : decode method_3_code 7 = .ok (.dup, 1) := by decide +kernel
theorem d1_8 : decode method_3_code 8 = .ok (.iconst 0, 1) := by decide +kernel
theorem d1_9 : decode method_3_code 9 = .ok (.newarray .char, 2) := by decide +kernel
theorem d1_11 : decode method_3_code 11 = .ok (.invokespecial 18, 3) := by decide +kernel
theorem d1_14 : decode method_3_code 14 = .ok (.areturn, 1) := by decide +kernel
def bl1_7_2 : List (Nat × Instr × Nat) := [(7, .dup, 1), (8, .iconst 0, 1)]
theorem bd1_7_2 : own_dec method_3_code bl1_7_2 = true := by decide +kernel

def Q1_0 (Z : State) (p2 : Int32) (p3 : Int32) (h0 : Heap) (n0 : Nat) (v : Option Value) (h : Heap) (L : List Loc) : Prop := ∃ b : Addr, v = some (.ref b) ∧ Fr n0 L ∧ Keep h0 h []
set_option maxRecDepth 65536 in
set_option maxHeartbeats 40000000 in
theorem rm1_0 (l : Launch) (Z : State) (a0 : Array Value) (hw : ∀ d ∈ tables_1, d.before a0 Z = true) (ws : List Jvm.Cond) (p2 : Int32) (p3 : Int32) (h0 : Heap) (n0 : Nat) (Z0 : n0 ≤ h0.size) :
    MetFree l (⟨"com/example/vendsettle/vendsettle/StatusIsSuccessPinLaw", "messageOf", "(III)Ljava/lang/String;"⟩ : MethodName) (head1 (Jvm.Cond.code (⟨"com/example/vendsettle/vendsettle/StatusIsSuccessPinLaw", "messageOf", "(III)Ljava/lang/String;"⟩ : MethodName) method_3_code 4 (some (.object "java/lang/String")) :: ws) ({ frames := 3, cells := 6, slots := 12, locals := 43 } : Room)) (fun a U => a = #[(.int (0 : Int32)), (.int p2), (.int p3)] ∧ Z.Warmed39 U.vm ∧ U.heap = h0 ∧ CHv Z own_EL U.vm h0) (fun _ _ _ _ _ => True) (fun _ U o U' => ∃ v L, o = .returned v ∧ Q1_0 Z p2 p3 h0 n0 v U'.heap L ∧ CHr Z own_EL U.vm U.heap U'.vm U'.heap ∧ ReturnedEndW U o U' L ({ frames := 3, cells := 6, slots := 12, locals := 43 } : Room).cells ({ frames := 3, cells := 6, slots := 12, locals := 43 } : Room).slots) := by
  refine MetFree.of_bodySF (plainFor_of_name pn_1) hisR ?_
  intro p e s m args below meth c s₁ Bd hml0 hP hK
  obtain ⟨rfl, hZ, hh, hC0⟩ := hP
  have hx := Bd.exec
  have hby := Bd.bytes
  have hml : c.maxLocals = 4 := hml0
  have hown : s.vm.findClass "com/example/vendsettle/vendsettle/StatusIsSuccessPinLaw" = some m.cls := findClass_of_methodNamed Bd.named
  have hnm := (name_of_methodNamed Bd.named Bd.method).1
  have X0 : Stand p l e ({ frames := 3, cells := 6, slots := 12, locals := 43 } : Room) s m #[(.int (0 : Int32)), (.int p2), (.int p3)] below meth c s₁ [] 0 0 := Stand.of_body Bd
  have e0 : s₁.heap = h0 := by rw [← hh, Bd.state]; rfl
  have N0 := Fr.nil n0
  have CH0 := CHr.refl hC0
  have pre0 : ∀ t, Steps p.tables e below (s₁.setTop (mkF m 0 #[.val (.int (0 : Int32)), .val (.int p2), .val (.int p3), .unset] [])) t → Steps p.tables e below (s₁.setTop (entryFrame m #[(.int (0 : Int32)), (.int p2), (.int p3)] 4)) t := fun t k => castTop (ef_1 m (0 : Int32) p2 p3) k
  obtain ⟨T1, h1, X1, e1, E1, A1, D1, -, st1⟩ := newO X0 hx hZ hown (hw _ (List.mem_of_getElem? (i := 5) rfl)) (hw _ (List.mem_of_getElem? (i := 6) rfl)) (hw _ (List.mem_of_getElem? (i := 7) rfl)) e0 (g := (mkF m 4 #[.val (.int (0 : Int32)), .val (.int p2), .val (.int p3), .unset] [])) rfl (hb hby d1_4) (by decide) (by decide)
  obtain ⟨b1, g1⟩ : ∃ z, z = h0.size := ⟨_, rfl⟩
  rw [← g1] at A1 D1 st1
  have g_b1 : n0 ≤ b1 := Nat.le_trans Z0 (Nat.le_of_eq g1.symm)
  have sz_b1 : h0.size ≤ b1 := Nat.le_trans (Keep.refl h0 []).1 (Nat.le_of_eq g1.symm)
  have zs2 : n0 ≤ h1.size := Nat.le_trans Z0 E1.1
  have kp3 : Keep h0 h1 [] := (Keep.refl h0 []).ext E1
  have ch4 : CHr Z own_EL s.vm h0 s.vm h1 := CH0.trans (CHr.ext E1 CH0.1)
  have F_value_b1 : Fld Z h1 b1 "java/lang/String" "value" "[B" .null := D1 (Or.inr (hw _ (List.mem_of_getElem? (i := 21) rfl))) (ty := (.array .byte)) (by decide)
  have F_coder_b1 : Fld Z h1 b1 "java/lang/String" "coder" "B" (.int (0 : Int32)) := D1 (Or.inr (hw _ (List.mem_of_getElem? (i := 22) rfl))) (ty := .byte) (by decide)
  obtain ⟨T5, h5, k5, X5, e5, E5, A5, st5⟩ := newP X1 hx hZ (hw _ (List.mem_of_getElem? (i := 8) rfl)) e1 (g := (mkF m 9 #[.val (.int (0 : Int32)), .val (.int p2), .val (.int p3), .unset] [(.int (0 : Int32)), (.ref b1), (.ref b1)])) rfl (hb hby d1_9) rfl (by decide) (cap := 0) (by decide) (by decide) (by decide) (by decide)
  obtain ⟨b5, g5⟩ : ∃ z, z = h1.size := ⟨_, rfl⟩
  rw [← g5] at A5 st5
  have ne_b1_b5 : b1 ≠ b5 := Nat.ne_of_lt (Nat.lt_of_lt_of_le A1.lt (Nat.le_of_eq g5.symm))
  have g_b5 : n0 ≤ b5 := Nat.le_trans zs2 (Nat.le_of_eq g5.symm)
  have sz_b5 : h0.size ≤ b5 := Nat.le_trans kp3.1 (Nat.le_of_eq g5.symm)
  have zs6 : n0 ≤ h5.size := Nat.le_trans zs2 E5.1
  have kp7 : Keep h0 h5 [] := kp3.ext E5
  have ch8 : CHr Z own_EL s.vm h0 s.vm h5 := ch4.trans (CHr.ext E5 ch4.1)
  have V_b5 : Arv Z h5 b5 k5 .char (0 : Int32) [] (.int (0 : Int32)) := (Arv.new A5 (by decide)).pad (pad_rep [] (.int (0 : Int32)) 0)
  have fa10 : Exa Z h5 b1 "java/lang/String" := (A1.ext E5)
  have fa11 : Fld Z h5 b1 "java/lang/String" "value" "[B" .null := (F_value_b1.ext E5)
  have fa12 : Fld Z h5 b1 "java/lang/String" "coder" "B" (.int (0 : Int32)) := (F_coder_b1.ext E5)
  have pre13 : ∀ t, Steps p.tables e below (T5.setTop (mkF m 11 #[.val (.int (0 : Int32)), .val (.int p2), .val (.int p3), .unset] [(.ref b5), (.ref b1), (.ref b1)])) t → Steps p.tables e below (s₁.setTop (entryFrame m #[(.int (0 : Int32)), (.int p2), (.int p3)] 4)) t := fun t kt => by
    refine pre0 _ ?_
    show Steps p.tables e below (s₁.setTop (mkF m 0 #[.val (.int (0 : Int32)), .val (.int p2), .val (.int p3), .unset] [])) _
    refine own_blk X0 hx bl1_0_1 (own_hb hby bd1_0_1) (pc' := 1) (Ls' := #[.val (.int (0 : Int32)), .val (.int p2), .val (.int p3), .unset]) (st' := [(.int (0 : Int32))]) rfl ?_
    refine XS.ifNo X0.here hx rfl (hb hby d1_1) rfl ((if0 _ _).trans (teq (by decide : (0 : Int32) = (0 : Int32))).2) ?_
    show Steps p.tables e below (s₁.setTop (mkF m 4 #[.val (.int (0 : Int32)), .val (.int p2), .val (.int p3), .unset] [])) _
    refine st1 _ ?_
    show Steps p.tables e below (T1.setTop (mkF m 7 #[.val (.int (0 : Int32)), .val (.int p2), .val (.int p3), .unset] [(.ref b1)])) _
    refine own_blk X1 hx bl1_7_2 (own_hb hby bd1_7_2) (pc' := 9) (Ls' := #[.val (.int (0 : Int32)), .val (.int p2), .val (.int p3), .unset]) (st' := [(.int (0 : Int32)), (.ref b1), (.ref b1)]) rfl ?_
    refine st5 _ ?_
    exact kt
  obtain ⟨_, T9, Lc9, X9, hQ9, hC9, hS9, hZ, hown, st9⟩ := own_callIH X5 hx hZ (y := (⟨"java/lang/String", "<init>", "([C)V"⟩ : MethodName)) rfl hown (hw _ (List.mem_of_getElem? (i := 9) rfl)) (hw _ (List.mem_of_getElem? (i := 10) rfl)) (hw _ (List.mem_of_getElem? (i := 7) rfl)) (hw _ (List.mem_of_getElem? (i := 11) rfl)) (by decide) (W := 1) (a := b1) (argsL := [(.ref b5)]) (rest := [(.ref b1)]) (rm2_0 l Z a0 hw [] b1 b5 k5 h5 n0 zs6 fa10 fa11 fa12 g_b1 V_b5) (own_ew hw) ch8.1 (by decide) (by decide) (c' := 6) (s' := 12) rfl rfl (by decide) (by decide) e5 (g := (mkF m 11 #[.val (.int (0 : Int32)), .val (.int p2), .val (.int p3), .unset] [(.ref b5), (.ref b1), (.ref b1)])) rfl (by rw [hml]; rfl) (lenOf pd_1_1 rfl) rfl (by show 2 * 0 + _ ≤ _; exact Nat.le_of_eq rfl) (hb hby d1_11)
  obtain ⟨rfl, N9q, K9⟩ := hQ9
  have N9 := Fr.app N0 N9q
  have zs14 : n0 ≤ T9.heap.size := Nat.le_trans zs6 K9.1
  have kp15 : Keep h0 T9.heap [] := kp7.trans K9 (allS (Or.inr sz_b1) all0)
  have ch16 : CHr Z own_EL s.vm h0 T9.vm T9.heap := ch8.trans hC9
  obtain ⟨fs, hr, hrun, hended, hRW⟩ := X9.leaveW (s := s) hS9 (Nat.le_refl _) (v := some (.ref b1)) (fun h => by rw [Bd.returns] at h; cases h)
  refine ⟨_, _, pre13 _ ?_, hrun, hended, _, _, rfl, ?_, (by rw [hh]; show CHr Z own_EL s.vm h0 T9.vm T9.heap; exact ch16.trans (CHv.at (s := s) (vm0 := T9.vm) X9 hZ (own_ew hw) ch16.1)), ⟨_, rfl⟩, hRW.2.1, hRW.2.2.1, hRW.2.2.2.mono (by decide) (by decide)⟩
  · show Steps p.tables e below (T5.setTop (mkF m 11 #[.val (.int (0 : Int32)), .val (.int p2), .val (.int p3), .unset] [(.ref b5), (.ref b1), (.ref b1)])) _
    refine st9 _ ?_
    show Steps p.tables e below (T9.setTop (mkF m 14 #[.val (.int (0 : Int32)), .val (.int p2), .val (.int p3), .unset] [(.ref b1)])) _
    jvm_step X9.here [X9.here.top, hx, (hb hby d1_14), X9.method', Bd.returns, Value.isRef, FieldType.isReference]
    first | (intro acts; rw [hr _ acts rfl rfl rfl]) | rw [hr _ _ rfl rfl rfl]
    exact Steps.refl _
  · show Q1_0 Z p2 p3 h0 n0 _ T9.heap _
    exact ⟨b1, rfl, N9, kp15⟩
theorem own_ltn {x : Int32} (h : x < (0 : Int32)) : ¬ x = (0 : Int32) := by intro e; subst e; exact absurd h (by decide)
theorem own_gtn {x : Int32} (h : (0 : Int32) < x) : ¬ x = (0 : Int32) := by intro e; subst e; exact absurd h (by decide)
theorem own_z {x : Int32} (h : ¬ x < (0 : Int32)) (g : ¬ (0 : Int32) < x) : x = (0 : Int32) := by
  have l0 : (0 : Int32).toInt = 0 := by decide
  simp only [Int32.lt_iff_toInt_lt, ← Int32.toInt_inj, l0] at *; omega
theorem own_l3 (y : Int32) : (((y >>> ((8 : Int32) &&& 31)) &&& (2147483647 : Int32)) % (3 : Int32)) = (0 : Int32) ∨ (((y >>> ((8 : Int32) &&& 31)) &&& (2147483647 : Int32)) % (3 : Int32)) = (1 : Int32) ∨ (((y >>> ((8 : Int32) &&& 31)) &&& (2147483647 : Int32)) % (3 : Int32)) = (2 : Int32) := by
  have h := c_mask (y >>> ((8 : Int32) &&& 31)) 2147483647 31 (by decide) (by decide)
  have l3 : (3 : Int32).toInt = 3 := by decide
  have q := (c_iremV ((y >>> ((8 : Int32) &&& 31)) &&& 2147483647) 3).1 (by rw [h]; omega) (by rw [l3]; omega)
  rw [l3] at q
  have e0 : (0 : Int32).toInt = 0 := by decide
  have h0 : ¬ (((y >>> ((8 : Int32) &&& 31)) &&& (2147483647 : Int32)) % (3 : Int32)) < 0 := by rw [Int32.lt_iff_toInt_lt, e0]; omega
  exact own_small (n := 3) (fun u => u = (0 : Int32) ∨ u = (1 : Int32) ∨ u = (2 : Int32)) (by decide +kernel) h0 (by omega)
theorem pn_0 : plainName "com/example/vendsettle/vendsettle/StatusIsSuccessPinLaw" = true := by first | (simp [plainName, overriddenIn]; done) | decide +kernel
theorem pd_0_0 : parseMethodDescriptor "(III)Ljava/lang/String;" = some ⟨[.int, .int, .int], some (.object "java/lang/String")⟩ := by decide +kernel
theorem pd_0_4 : parseMethodDescriptor "(I)Lcom/example/vendsettle/vendsettle/Processor$Reason;" = some ⟨[.int], some (.object "com/example/vendsettle/vendsettle/Processor$Reason")⟩ := by decide +kernel
theorem pd_0_5 : parseMethodDescriptor "(ILjava/lang/String;Lcom/example/vendsettle/vendsettle/Processor$Reason;)V" = some ⟨[.int, (.object "java/lang/String"), (.object "com/example/vendsettle/vendsettle/Processor$Reason")], none⟩ := by decide +kernel
theorem pd_0_6 : parseMethodDescriptor "()Z" = some ⟨[], some .boolean⟩ := by decide +kernel
theorem ef_0 (m : MethodId) (x0 : Int32) (x1 : Int32) (x2 : Int32) (x3 : Int32) : entryFrame m #[(.int x0), (.int x1), (.int x2), (.int x3)] maxLocals = mkF m 0 #[.val (.int x0), .val (.int x1), .val (.int x2), .val (.int x3), .unset, .unset, .unset, .unset, .unset, .unset, .unset] [] := by first | (simp [entryFrame, mkF, argsToLocals, Value.category, maxLocals]; done) | rfl
def bl0_0_5 : List (Nat × Instr × Nat) := [(0, .iload_n 3, 1), (1, .iconst 4, 1), (2, .ishr, 1), (3, .iconst 1, 1), (4, .iand, 1)]
theorem bd0_0_5 : own_dec code bl0_0_5 = true := by decide +kernel
def bl0_12_2 : List (Nat × Instr × Nat) := [(12, .iload_n 0, 1), (13, .istore 4, 2)]
theorem bd0_12_2 : own_dec code bl0_12_2 = true := by decide +kernel
def bl0_15_1 : List (Nat × Instr × Nat) := [(15, .iload_n 3, 1)]
theorem bd0_15_1 : own_dec code bl0_15_1 = true := by decide +kernel
def bl0_18_2 : List (Nat × Instr × Nat) := [(18, .iand, 1), (19, .iconst 3, 1)]
theorem bd0_18_2 : own_dec code bl0_18_2 = true := by decide +kernel
def bl0_21_1 : List (Nat × Instr × Nat) := [(21, .istore 5, 2)]
theorem bd0_21_1 : own_dec code bl0_21_1 = true := by decide +kernel
def bl0_23_3 : List (Nat × Instr × Nat) := [(23, .iload_n 3, 1), (24, .bipush 8, 2), (26, .ishr, 1)]
theorem bd0_23_3 : own_dec code bl0_23_3 = true := by decide +kernel
def bl0_29_2 : List (Nat × Instr × Nat) := [(29, .iand, 1), (30, .iconst 3, 1)]
theorem bd0_29_2 : own_dec code bl0_29_2 = true := by decide +kernel
def bl0_32_1 : List (Nat × Instr × Nat) := [(32, .istore 6, 2)]
theorem bd0_32_1 : own_dec code bl0_32_1 = true := by decide +kernel
def bl0_34_3 : List (Nat × Instr × Nat) := [(34, .iload 6, 2), (36, .iload_n 1, 1), (37, .iload_n 2, 1)]
theorem bd0_34_3 : own_dec code bl0_34_3 = true := by decide +kernel
def bl0_41_1 : List (Nat × Instr × Nat) := [(41, .astore 7, 2)]
theorem bd0_41_1 : own_dec code bl0_41_1 = true := by decide +kernel
def bl0_43_1 : List (Nat × Instr × Nat) := [(43, .iload 5, 2)]
theorem bd0_43_1 : own_dec code bl0_43_1 = true := by decide +kernel
def bl0_48_1 : List (Nat × Instr × Nat) := [(48, .astore 8, 2)]
theorem bd0_48_1 : own_dec code bl0_48_1 = true := by decide +kernel
def bl0_53_4 : List (Nat × Instr × Nat) := [(53, .dup, 1), (54, .iload 4, 2), (56, .aload 7, 2), (58, .aload 8, 2)]
theorem bd0_53_4 : own_dec code bl0_53_4 = true := by decide +kernel
def bl0_63_1 : List (Nat × Instr × Nat) := [(63, .astore 9, 2)]
theorem bd0_63_1 : own_dec code bl0_63_1 = true := by decide +kernel
def bl0_65_1 : List (Nat × Instr × Nat) := [(65, .iload 4, 2)]
theorem bd0_65_1 : own_dec code bl0_65_1 = true := by decide +kernel
def bl0_70_2 : List (Nat × Instr × Nat) := [(70, .iconst 0, 1), (71, .istore 10, 2)]
theorem bd0_70_2 : own_dec code bl0_70_2 = true := by decide +kernel
def bl0_73_2 : List (Nat × Instr × Nat) := [(73, .goto 17, 3), (90, .aload 9, 2)]
theorem bd0_73_2 : own_dec code bl0_73_2 = true := by decide +kernel
def bl0_95_1 : List (Nat × Instr × Nat) := [(95, .iload 10, 2)]
theorem bd0_95_1 : own_dec code bl0_95_1 = true := by decide +kernel
def bl0_100_2 : List (Nat × Instr × Nat) := [(100, .iconst 1, 1), (101, .goto 4, 3)]
theorem bd0_100_2 : own_dec code bl0_100_2 = true := by decide +kernel
def bl0_76_1 : List (Nat × Instr × Nat) := [(76, .iload 4, 2)]
theorem bd0_76_1 : own_dec code bl0_76_1 = true := by decide +kernel
def bl0_81_2 : List (Nat × Instr × Nat) := [(81, .iconst 0, 1), (82, .istore 10, 2)]
theorem bd0_81_2 : own_dec code bl0_81_2 = true := by decide +kernel
def bl0_84_2 : List (Nat × Instr × Nat) := [(84, .goto 6, 3), (90, .aload 9, 2)]
theorem bd0_84_2 : own_dec code bl0_84_2 = true := by decide +kernel
def bl0_87_2 : List (Nat × Instr × Nat) := [(87, .iconst 1, 1), (88, .istore 10, 2)]
theorem bd0_87_2 : own_dec code bl0_87_2 = true := by decide +kernel
def bl0_90_1 : List (Nat × Instr × Nat) := [(90, .aload 9, 2)]
theorem bd0_90_1 : own_dec code bl0_90_1 = true := by decide +kernel
def bl0_8_3 : List (Nat × Instr × Nat) := [(8, .iconst 0, 1), (9, .goto 4, 3), (13, .istore 4, 2)]
theorem bd0_8_3 : own_dec code bl0_8_3 = true := by decide +kernel

def f0_0 (p1 : Int32) (p2 : Int32) (p3 : Int32) (p4 : Int32) : Int32 := (if ((p4 >>> ((4 : Int32) &&& 31)) &&& (1 : Int32)) = (0 : Int32) then (if ((p4 &&& (2147483647 : Int32)) % (3 : Int32)) = (1 : Int32) then (if p1 < (0 : Int32) then (1 : Int32) else (if (0 : Int32) < p1 then (1 : Int32) else (1 : Int32))) else (if ((p4 &&& (2147483647 : Int32)) % (3 : Int32)) = (2 : Int32) then (if p1 < (0 : Int32) then (1 : Int32) else (if (0 : Int32) < p1 then (1 : Int32) else (1 : Int32))) else (if p1 < (0 : Int32) then (1 : Int32) else (if (0 : Int32) < p1 then (1 : Int32) else (1 : Int32))))) else (if ((p4 &&& (2147483647 : Int32)) % (3 : Int32)) = (1 : Int32) then (1 : Int32) else (if ((p4 &&& (2147483647 : Int32)) % (3 : Int32)) = (2 : Int32) then (1 : Int32) else (1 : Int32))))
def Q0_0 (Z : State) (p1 : Int32) (p2 : Int32) (p3 : Int32) (p4 : Int32) (w1 : Addr) (w2 : Addr) (h0 : Heap) (n0 : Nat) (v : Option Value) (h : Heap) (L : List Loc) : Prop := v = some (.int (f0_0 p1 p2 p3 p4)) ∧ Fr n0 L
set_option maxRecDepth 65536 in
set_option maxHeartbeats 40000000 in
theorem rm0_0 (l : Launch) (Z : State) (a0 : Array Value) (hw : ∀ d ∈ tables_1, d.before a0 Z = true) (ws : List Jvm.Cond) (p1 : Int32) (p2 : Int32) (p3 : Int32) (p4 : Int32) (w1 : Addr) (w2 : Addr) (h0 : Heap) (n0 : Nat) (Z0 : n0 ≤ h0.size) (E_w1 : Exa Z h0 w1 "com/example/vendsettle/vendsettle/Processor$Reason") (E_w2 : Exa Z h0 w2 "com/example/vendsettle/vendsettle/Processor$Reason") (S_ALREADY_COMPLETED : Sta Z h0 "com/example/vendsettle/vendsettle/Processor$Reason" "ALREADY_COMPLETED" "Lcom/example/vendsettle/vendsettle/Processor$Reason;" (.ref w1)) (S_NOT_FOUND : Sta Z h0 "com/example/vendsettle/vendsettle/Processor$Reason" "NOT_FOUND" "Lcom/example/vendsettle/vendsettle/Processor$Reason;" (.ref w2)) (hn : (((p4 >>> ((8 : Int32) &&& 31)) &&& (2147483647 : Int32)) % (3 : Int32)) = (0 : Int32)) :
    MetFree l x (head1 (Jvm.Cond.code x code maxLocals ret :: ws) room_1) (fun a U => a = #[(.int p1), (.int p2), (.int p3), (.int p4)] ∧ Z.Warmed39 U.vm ∧ U.heap = h0 ∧ CHv Z own_EL U.vm h0) (fun _ _ _ _ _ => True) (fun _ U o U' => ∃ v L, o = .returned v ∧ Q0_0 Z p1 p2 p3 p4 w1 w2 h0 n0 v U'.heap L ∧ ReturnedEndW U o U' L room_1.cells room_1.slots) := by
  refine MetFree.of_bodySF (plainFor_of_name pn_0) hisR ?_
  intro p e s m args below meth c s₁ Bd hml0 hP hK
  obtain ⟨rfl, hZ, hh, hC0⟩ := hP
  have hx := Bd.exec
  have hby := Bd.bytes
  have hml : c.maxLocals = 11 := hml0
  have hown : s.vm.findClass "com/example/vendsettle/vendsettle/StatusIsSuccessPinLaw" = some m.cls := findClass_of_methodNamed Bd.named
  have hnm := (name_of_methodNamed Bd.named Bd.method).1
  have X0 : Stand p l e room_1 s m #[(.int p1), (.int p2), (.int p3), (.int p4)] below meth c s₁ [] 0 0 := Stand.of_body Bd
  have e0 : s₁.heap = h0 := by rw [← hh, Bd.state]; rfl
  have N0 := Fr.nil n0
  have CH0 := CHr.refl hC0
  have pre0 : ∀ t, Steps p.tables e below (s₁.setTop (mkF m 0 #[.val (.int p1), .val (.int p2), .val (.int p3), .val (.int p4), .unset, .unset, .unset, .unset, .unset, .unset, .unset] [])) t → Steps p.tables e below (s₁.setTop (entryFrame m #[(.int p1), (.int p2), (.int p3), (.int p4)] maxLocals)) t := fun t k => castTop (ef_0 m p1 p2 p3 p4) k
  have pre1 : ∀ t, Steps p.tables e below (s₁.setTop (mkF m 5 #[.val (.int p1), .val (.int p2), .val (.int p3), .val (.int p4), .unset, .unset, .unset, .unset, .unset, .unset, .unset] [(.int ((p4 >>> ((4 : Int32) &&& 31)) &&& (1 : Int32)))])) t → Steps p.tables e below (s₁.setTop (entryFrame m #[(.int p1), (.int p2), (.int p3), (.int p4)] maxLocals)) t := fun t kt => by
    refine pre0 _ ?_
    show Steps p.tables e below (s₁.setTop (mkF m 0 #[.val (.int p1), .val (.int p2), .val (.int p3), .val (.int p4), .unset, .unset, .unset, .unset, .unset, .unset, .unset] [])) _
    refine own_blk X0 hx bl0_0_5 (own_hb hby bd0_0_5) (pc' := 5) (Ls' := #[.val (.int p1), .val (.int p2), .val (.int p3), .val (.int p4), .unset, .unset, .unset, .unset, .unset, .unset, .unset]) (st' := [(.int ((p4 >>> ((4 : Int32) &&& 31)) &&& (1 : Int32)))]) rfl ?_
    exact kt
  by_cases hc2 : ((p4 >>> ((4 : Int32) &&& 31)) &&& (1 : Int32)) = (0 : Int32)
  · have pre4 : ∀ t, Steps p.tables e below (s₁.setTop (mkF m 38 #[.val (.int p1), .val (.int p2), .val (.int p3), .val (.int p4), .val (.int p1), .val (.int ((p4 &&& (2147483647 : Int32)) % (3 : Int32))), .val (.int (0 : Int32)), .unset, .unset, .unset, .unset] [(.int p3), (.int p2), (.int (0 : Int32))])) t → Steps p.tables e below (s₁.setTop (entryFrame m #[(.int p1), (.int p2), (.int p3), (.int p4)] maxLocals)) t := fun t kt => by
      refine pre1 _ ?_
      show Steps p.tables e below (s₁.setTop (mkF m 5 #[.val (.int p1), .val (.int p2), .val (.int p3), .val (.int p4), .unset, .unset, .unset, .unset, .unset, .unset, .unset] [(.int ((p4 >>> ((4 : Int32) &&& 31)) &&& (1 : Int32)))])) _
      refine XS.ifYes X0.here hx rfl (pc0 := 5) (pc' := 12) rfl (hb hby at_5) rfl ((if0 _ _).trans (teq hc2).1) (by decide) (by decide) ?_
      show Steps p.tables e below (s₁.setTop (mkF m 12 #[.val (.int p1), .val (.int p2), .val (.int p3), .val (.int p4), .unset, .unset, .unset, .unset, .unset, .unset, .unset] [])) _
      refine own_blk X0 hx bl0_12_2 (own_hb hby bd0_12_2) (pc' := 15) (Ls' := #[.val (.int p1), .val (.int p2), .val (.int p3), .val (.int p4), .val (.int p1), .unset, .unset, .unset, .unset, .unset, .unset]) (st' := []) rfl ?_
      refine own_blk X0 hx bl0_15_1 (own_hb hby bd0_15_1) (pc' := 16) (Ls' := #[.val (.int p1), .val (.int p2), .val (.int p3), .val (.int p4), .val (.int p1), .unset, .unset, .unset, .unset, .unset, .unset]) (st' := [(.int p4)]) rfl ?_
      refine X0.ldcInt hx hown (mvT hZ (hw _ (List.mem_of_getElem? (i := 0) rfl))) (g := (mkF m 16 #[.val (.int p1), .val (.int p2), .val (.int p3), .val (.int p4), .val (.int p1), .unset, .unset, .unset, .unset, .unset, .unset] [(.int p4)])) rfl (hb hby at_16) _ ?_
      show Steps p.tables e below (s₁.setTop (mkF m 18 #[.val (.int p1), .val (.int p2), .val (.int p3), .val (.int p4), .val (.int p1), .unset, .unset, .unset, .unset, .unset, .unset] [(.int (2147483647 : Int32)), (.int p4)])) _
      refine own_blk X0 hx bl0_18_2 (own_hb hby bd0_18_2) (pc' := 20) (Ls' := #[.val (.int p1), .val (.int p2), .val (.int p3), .val (.int p4), .val (.int p1), .unset, .unset, .unset, .unset, .unset, .unset]) (st' := [(.int (3 : Int32)), (.int (p4 &&& (2147483647 : Int32)))]) rfl ?_
      refine iremM X0 hx rfl (hb hby at_20) rfl (by decide : ¬ ((3 : Int32) = (0 : Int32))) ?_
      show Steps p.tables e below (s₁.setTop (mkF m 21 #[.val (.int p1), .val (.int p2), .val (.int p3), .val (.int p4), .val (.int p1), .unset, .unset, .unset, .unset, .unset, .unset] [(.int ((p4 &&& (2147483647 : Int32)) % (3 : Int32)))])) _
      refine own_blk X0 hx bl0_21_1 (own_hb hby bd0_21_1) (pc' := 23) (Ls' := #[.val (.int p1), .val (.int p2), .val (.int p3), .val (.int p4), .val (.int p1), .val (.int ((p4 &&& (2147483647 : Int32)) % (3 : Int32))), .unset, .unset, .unset, .unset, .unset]) (st' := []) rfl ?_
      refine own_blk X0 hx bl0_23_3 (own_hb hby bd0_23_3) (pc' := 27) (Ls' := #[.val (.int p1), .val (.int p2), .val (.int p3), .val (.int p4), .val (.int p1), .val (.int ((p4 &&& (2147483647 : Int32)) % (3 : Int32))), .unset, .unset, .unset, .unset, .unset]) (st' := [(.int (p4 >>> ((8 : Int32) &&& 31)))]) rfl ?_
      refine X0.ldcInt hx hown (mvT hZ (hw _ (List.mem_of_getElem? (i := 0) rfl))) (g := (mkF m 27 #[.val (.int p1), .val (.int p2), .val (.int p3), .val (.int p4), .val (.int p1), .val (.int ((p4 &&& (2147483647 : Int32)) % (3 : Int32))), .unset, .unset, .unset, .unset, .unset] [(.int (p4 >>> ((8 : Int32) &&& 31)))])) rfl (hb hby at_27) _ ?_
      show Steps p.tables e below (s₁.setTop (mkF m 29 #[.val (.int p1), .val (.int p2), .val (.int p3), .val (.int p4), .val (.int p1), .val (.int ((p4 &&& (2147483647 : Int32)) % (3 : Int32))), .unset, .unset, .unset, .unset, .unset] [(.int (2147483647 : Int32)), (.int (p4 >>> ((8 : Int32) &&& 31)))])) _
      refine own_blk X0 hx bl0_29_2 (own_hb hby bd0_29_2) (pc' := 31) (Ls' := #[.val (.int p1), .val (.int p2), .val (.int p3), .val (.int p4), .val (.int p1), .val (.int ((p4 &&& (2147483647 : Int32)) % (3 : Int32))), .unset, .unset, .unset, .unset, .unset]) (st' := [(.int (3 : Int32)), (.int ((p4 >>> ((8 : Int32) &&& 31)) &&& (2147483647 : Int32)))]) rfl ?_
      refine iremM X0 hx rfl (hb hby at_31) rfl (by decide : ¬ ((3 : Int32) = (0 : Int32))) ?_
      show Steps p.tables e below (s₁.setTop (mkF m 32 #[.val (.int p1), .val (.int p2), .val (.int p3), .val (.int p4), .val (.int p1), .val (.int ((p4 &&& (2147483647 : Int32)) % (3 : Int32))), .unset, .unset, .unset, .unset, .unset] [(.int (((p4 >>> ((8 : Int32) &&& 31)) &&& (2147483647 : Int32)) % (3 : Int32)))])) _
      rw [hn]
      show Steps p.tables e below (s₁.setTop (mkF m 32 #[.val (.int p1), .val (.int p2), .val (.int p3), .val (.int p4), .val (.int p1), .val (.int ((p4 &&& (2147483647 : Int32)) % (3 : Int32))), .unset, .unset, .unset, .unset, .unset] [(.int (0 : Int32))])) _
      refine own_blk X0 hx bl0_32_1 (own_hb hby bd0_32_1) (pc' := 34) (Ls' := #[.val (.int p1), .val (.int p2), .val (.int p3), .val (.int p4), .val (.int p1), .val (.int ((p4 &&& (2147483647 : Int32)) % (3 : Int32))), .val (.int (0 : Int32)), .unset, .unset, .unset, .unset]) (st' := []) rfl ?_
      refine own_blk X0 hx bl0_34_3 (own_hb hby bd0_34_3) (pc' := 38) (Ls' := #[.val (.int p1), .val (.int p2), .val (.int p3), .val (.int p4), .val (.int p1), .val (.int ((p4 &&& (2147483647 : Int32)) % (3 : Int32))), .val (.int (0 : Int32)), .unset, .unset, .unset, .unset]) (st' := [(.int p3), (.int p2), (.int (0 : Int32))]) rfl ?_
      exact kt
    obtain ⟨_, T3, Lc3, X3, hQ3, hC3, hS3, hZ, hown, st3⟩ := own_callSH X0 hx hZ (y := (⟨"com/example/vendsettle/vendsettle/StatusIsSuccessPinLaw", "messageOf", "(III)Ljava/lang/String;"⟩ : MethodName)) hown (hw _ (List.mem_of_getElem? (i := 1) rfl)) (hw _ (List.mem_of_getElem? (i := 2) rfl)) (hw _ (List.mem_of_getElem? (i := 3) rfl)) (hw _ (List.mem_of_getElem? (i := 4) rfl)) (by decide) (W := 0) (argsL := [(.int (0 : Int32)), (.int p2), (.int p3)]) (rest := []) (rm1_0 l Z a0 hw [] p2 p3 h0 n0 Z0 ) (own_ew hw) CH0.1 (by decide) (by decide) (c' := 6) (s' := 12) rfl rfl (by decide) (by decide) e0 (g := (mkF m 38 #[.val (.int p1), .val (.int p2), .val (.int p3), .val (.int p4), .val (.int p1), .val (.int ((p4 &&& (2147483647 : Int32)) % (3 : Int32))), .val (.int (0 : Int32)), .unset, .unset, .unset, .unset] [(.int p3), (.int p2), (.int (0 : Int32))])) rfl (by rw [hml]; rfl) (lenOf pd_0_0 rfl) rfl (by show 2 * 0 + _ ≤ _; exact Nat.le_of_eq rfl) (hb hby at_38)
    obtain ⟨b3, rfl, N3q, K3⟩ := hQ3
    have N3 := Fr.app N0 N3q
    have zs5 : n0 ≤ T3.heap.size := Nat.le_trans Z0 K3.1
    have fa7 : Sta Z T3.heap "com/example/vendsettle/vendsettle/Processor$Reason" "ALREADY_COMPLETED" "Lcom/example/vendsettle/vendsettle/Processor$Reason;" (.ref w1) := (own_sta_keep S_ALREADY_COMPLETED K3)
    have fa8 : Sta Z T3.heap "com/example/vendsettle/vendsettle/Processor$Reason" "NOT_FOUND" "Lcom/example/vendsettle/vendsettle/Processor$Reason;" (.ref w2) := (own_sta_keep S_NOT_FOUND K3)
    obtain ⟨_, T6, Lc6, X6, hQ6, st6⟩ := own_callS X3 hx hZ (y := (⟨"com/example/vendsettle/vendsettle/StatusIsSuccessPinLaw", "reasonOf", "(I)Lcom/example/vendsettle/vendsettle/Processor$Reason;"⟩ : MethodName)) hown (hw _ (List.mem_of_getElem? (i := 27) rfl)) (hw _ (List.mem_of_getElem? (i := 28) rfl)) (hw _ (List.mem_of_getElem? (i := 3) rfl)) (hw _ (List.mem_of_getElem? (i := 29) rfl)) (by decide) (W := 0) (argsL := [(.int ((p4 &&& (2147483647 : Int32)) % (3 : Int32)))]) (rest := []) (rm5 l Z a0 hw [] ((p4 &&& (2147483647 : Int32)) % (3 : Int32)) w1 w2 T3.heap n0 zs5 fa7 fa8) (by decide) (by decide) (c' := 6) (s' := 12) rfl rfl (by decide) (by decide) rfl (g := (mkF m 45 #[.val (.int p1), .val (.int p2), .val (.int p3), .val (.int p4), .val (.int p1), .val (.int ((p4 &&& (2147483647 : Int32)) % (3 : Int32))), .val (.int (0 : Int32)), .val (.ref b3), .unset, .unset, .unset] [(.int ((p4 &&& (2147483647 : Int32)) % (3 : Int32)))])) rfl (by rw [hml]; rfl) (lenOf pd_0_4 rfl) rfl (by show 2 * 0 + _ ≤ _; exact Nat.le_of_eq rfl) (hb hby at_45)
    obtain ⟨hv6, N6q, e6⟩ := hQ6
    have N6 := Fr.app N3 N6q
    have pre9 : ∀ t, Steps p.tables e below (T3.setTop (mkF m 45 #[.val (.int p1), .val (.int p2), .val (.int p3), .val (.int p4), .val (.int p1), .val (.int ((p4 &&& (2147483647 : Int32)) % (3 : Int32))), .val (.int (0 : Int32)), .val (.ref b3), .unset, .unset, .unset] [(.int ((p4 &&& (2147483647 : Int32)) % (3 : Int32)))])) t → Steps p.tables e below (s₁.setTop (entryFrame m #[(.int p1), (.int p2), (.int p3), (.int p4)] maxLocals)) t := fun t kt => by
      refine pre4 _ ?_
      show Steps p.tables e below (s₁.setTop (mkF m 38 #[.val (.int p1), .val (.int p2), .val (.int p3), .val (.int p4), .val (.int p1), .val (.int ((p4 &&& (2147483647 : Int32)) % (3 : Int32))), .val (.int (0 : Int32)), .unset, .unset, .unset, .unset] [(.int p3), (.int p2), (.int (0 : Int32))])) _
      refine st3 _ ?_
      show Steps p.tables e below (T3.setTop (mkF m 41 #[.val (.int p1), .val (.int p2), .val (.int p3), .val (.int p4), .val (.int p1), .val (.int ((p4 &&& (2147483647 : Int32)) % (3 : Int32))), .val (.int (0 : Int32)), .unset, .unset, .unset, .unset] [(.ref b3)])) _
      refine own_blk X3 hx bl0_41_1 (own_hb hby bd0_41_1) (pc' := 43) (Ls' := #[.val (.int p1), .val (.int p2), .val (.int p3), .val (.int p4), .val (.int p1), .val (.int ((p4 &&& (2147483647 : Int32)) % (3 : Int32))), .val (.int (0 : Int32)), .val (.ref b3), .unset, .unset, .unset]) (st' := []) rfl ?_
      refine own_blk X3 hx bl0_43_1 (own_hb hby bd0_43_1) (pc' := 45) (Ls' := #[.val (.int p1), .val (.int p2), .val (.int p3), .val (.int p4), .val (.int p1), .val (.int ((p4 &&& (2147483647 : Int32)) % (3 : Int32))), .val (.int (0 : Int32)), .val (.ref b3), .unset, .unset, .unset]) (st' := [(.int ((p4 &&& (2147483647 : Int32)) % (3 : Int32)))]) rfl ?_
      exact kt
    by_cases hc10 : ((p4 &&& (2147483647 : Int32)) % (3 : Int32)) = (1 : Int32)
    · rw [f5, if_pos hc10] at hv6
      subst hv6
      obtain ⟨T11, h11, X11, e11, E11, A11, D11, -, st11⟩ := newO X6 hx hZ hown (hw _ (List.mem_of_getElem? (i := 33) rfl)) (hw _ (List.mem_of_getElem? (i := 34) rfl)) (hw _ (List.mem_of_getElem? (i := 35) rfl)) e6 (g := (mkF m 50 #[.val (.int p1), .val (.int p2), .val (.int p3), .val (.int p4), .val (.int p1), .val (.int ((p4 &&& (2147483647 : Int32)) % (3 : Int32))), .val (.int (0 : Int32)), .val (.ref b3), .val (.ref w1), .unset, .unset] [])) rfl (hb hby at_50) (by decide) (by decide)
      obtain ⟨b11, g11⟩ : ∃ z, z = T3.heap.size := ⟨_, rfl⟩
      rw [← g11] at A11 D11 st11
      have fa12 : Exa Z T3.heap w1 "com/example/vendsettle/vendsettle/Processor$Reason" := (E_w1.keep K3)
      have ne_w1_b11 : w1 ≠ b11 := Nat.ne_of_lt (Nat.lt_of_lt_of_le fa12.lt (Nat.le_of_eq g11.symm))
      have fa13 : Exa Z T3.heap w2 "com/example/vendsettle/vendsettle/Processor$Reason" := (E_w2.keep K3)
      have ne_w2_b11 : w2 ≠ b11 := Nat.ne_of_lt (Nat.lt_of_lt_of_le fa13.lt (Nat.le_of_eq g11.symm))
      have g_b11 : n0 ≤ b11 := Nat.le_trans zs5 (Nat.le_of_eq g11.symm)
      have zk14 : T3.heap.size ≤ h11.size := Nat.le_trans (Nat.le_refl _) E11.1
      have zs15 : n0 ≤ h11.size := Nat.le_trans zs5 E11.1
      have F_errorCode_b11 : Fld Z h11 b11 "com/example/vendsettle/vendsettle/Processor$Status" "errorCode" "I" (.int (0 : Int32)) := D11 (Or.inr (hw _ (List.mem_of_getElem? (i := 46) rfl))) (ty := .int) (by decide)
      have F_statusMessage_b11 : Fld Z h11 b11 "com/example/vendsettle/vendsettle/Processor$Status" "statusMessage" "Ljava/lang/String;" .null := D11 (Or.inr (hw _ (List.mem_of_getElem? (i := 48) rfl))) (ty := (.object "java/lang/String")) (by decide)
      have F_reason_b11 : Fld Z h11 b11 "com/example/vendsettle/vendsettle/Processor$Status" "reason" "Lcom/example/vendsettle/vendsettle/Processor$Reason;" .null := D11 (Or.inr (hw _ (List.mem_of_getElem? (i := 50) rfl))) (ty := (.object "com/example/vendsettle/vendsettle/Processor$Reason")) (by decide)
      obtain ⟨_, T16, Lc16, X16, hQ16, st16⟩ := own_callI X11 hx hZ (y := (⟨"com/example/vendsettle/vendsettle/Processor$Status", "<init>", "(ILjava/lang/String;Lcom/example/vendsettle/vendsettle/Processor$Reason;)V"⟩ : MethodName)) rfl hown (hw _ (List.mem_of_getElem? (i := 36) rfl)) (hw _ (List.mem_of_getElem? (i := 37) rfl)) (hw _ (List.mem_of_getElem? (i := 35) rfl)) (hw _ (List.mem_of_getElem? (i := 38) rfl)) (by decide) (W := 1) (a := b11) (argsL := [(.int p1), (.ref b3), (.ref w1)]) (rest := [(.ref b11)]) (rm6r l Z a0 hw [] b11 p1 b3 w1 h11 n0 zs15 A11 F_errorCode_b11 F_statusMessage_b11 F_reason_b11 g_b11) (by decide) (by decide) (c' := 7) (s' := 15) rfl rfl (by decide) (by decide) e11 (g := (mkF m 60 #[.val (.int p1), .val (.int p2), .val (.int p3), .val (.int p4), .val (.int p1), .val (.int ((p4 &&& (2147483647 : Int32)) % (3 : Int32))), .val (.int (0 : Int32)), .val (.ref b3), .val (.ref w1), .unset, .unset] [(.ref w1), (.ref b3), (.int p1), (.ref b11), (.ref b11)])) rfl (by rw [hml]; rfl) (lenOf pd_0_5 rfl) rfl (by show 2 * 0 + _ ≤ _; exact Nat.le_of_eq rfl) (hb hby at_60)
      obtain ⟨rfl, N16q, K16, Ec16_a1, Fc16_a1_errorCode, Fc16_a1_statusMessage, Fc16_a1_reason⟩ := hQ16
      have N16 := Fr.app N6 N16q
      have zk17 : T3.heap.size ≤ T16.heap.size := Nat.le_trans zk14 K16.1
      have zs18 : n0 ≤ T16.heap.size := Nat.le_trans zs15 K16.1
      have pre19 : ∀ t, Steps p.tables e below (T16.setTop (mkF m 67 #[.val (.int p1), .val (.int p2), .val (.int p3), .val (.int p4), .val (.int p1), .val (.int ((p4 &&& (2147483647 : Int32)) % (3 : Int32))), .val (.int (0 : Int32)), .val (.ref b3), .val (.ref w1), .val (.ref b11), .unset] [(.int p1)])) t → Steps p.tables e below (s₁.setTop (entryFrame m #[(.int p1), (.int p2), (.int p3), (.int p4)] maxLocals)) t := fun t kt => by
        refine pre9 _ ?_
        refine st6 _ ?_
        show Steps p.tables e below (T6.setTop (mkF m 48 #[.val (.int p1), .val (.int p2), .val (.int p3), .val (.int p4), .val (.int p1), .val (.int ((p4 &&& (2147483647 : Int32)) % (3 : Int32))), .val (.int (0 : Int32)), .val (.ref b3), .unset, .unset, .unset] [(.ref w1)])) _
        refine own_blk X6 hx bl0_48_1 (own_hb hby bd0_48_1) (pc' := 50) (Ls' := #[.val (.int p1), .val (.int p2), .val (.int p3), .val (.int p4), .val (.int p1), .val (.int ((p4 &&& (2147483647 : Int32)) % (3 : Int32))), .val (.int (0 : Int32)), .val (.ref b3), .val (.ref w1), .unset, .unset]) (st' := []) rfl ?_
        refine st11 _ ?_
        show Steps p.tables e below (T11.setTop (mkF m 53 #[.val (.int p1), .val (.int p2), .val (.int p3), .val (.int p4), .val (.int p1), .val (.int ((p4 &&& (2147483647 : Int32)) % (3 : Int32))), .val (.int (0 : Int32)), .val (.ref b3), .val (.ref w1), .unset, .unset] [(.ref b11)])) _
        refine own_blk X11 hx bl0_53_4 (own_hb hby bd0_53_4) (pc' := 60) (Ls' := #[.val (.int p1), .val (.int p2), .val (.int p3), .val (.int p4), .val (.int p1), .val (.int ((p4 &&& (2147483647 : Int32)) % (3 : Int32))), .val (.int (0 : Int32)), .val (.ref b3), .val (.ref w1), .unset, .unset]) (st' := [(.ref w1), (.ref b3), (.int p1), (.ref b11), (.ref b11)]) rfl ?_
        refine st16 _ ?_
        show Steps p.tables e below (T16.setTop (mkF m 63 #[.val (.int p1), .val (.int p2), .val (.int p3), .val (.int p4), .val (.int p1), .val (.int ((p4 &&& (2147483647 : Int32)) % (3 : Int32))), .val (.int (0 : Int32)), .val (.ref b3), .val (.ref w1), .unset, .unset] [(.ref b11)])) _
        refine own_blk X16 hx bl0_63_1 (own_hb hby bd0_63_1) (pc' := 65) (Ls' := #[.val (.int p1), .val (.int p2), .val (.int p3), .val (.int p4), .val (.int p1), .val (.int ((p4 &&& (2147483647 : Int32)) % (3 : Int32))), .val (.int (0 : Int32)), .val (.ref b3), .val (.ref w1), .val (.ref b11), .unset]) (st' := []) rfl ?_
        refine own_blk X16 hx bl0_65_1 (own_hb hby bd0_65_1) (pc' := 67) (Ls' := #[.val (.int p1), .val (.int p2), .val (.int p3), .val (.int p4), .val (.int p1), .val (.int ((p4 &&& (2147483647 : Int32)) % (3 : Int32))), .val (.int (0 : Int32)), .val (.ref b3), .val (.ref w1), .val (.ref b11), .unset]) (st' := [(.int p1)]) rfl ?_
        exact kt
      by_cases hc20 : p1 < (0 : Int32)
      · obtain ⟨_, T21, Lc21, X21, hQ21, st21⟩ := own_callV X16 hx hZ (y := (⟨"com/example/vendsettle/vendsettle/Processor$Status", "isSuccess", "()Z"⟩ : MethodName)) hown (hw _ (List.mem_of_getElem? (i := 51) rfl)) (hw _ (List.mem_of_getElem? (i := 52) rfl)) (hw _ (List.mem_of_getElem? (i := 54) rfl)) (hw _ (List.mem_of_getElem? (i := 53) rfl)) (hw _ (List.mem_of_getElem? (i := 35) rfl)) (hw _ (List.mem_of_getElem? (i := 55) rfl)) (by decide) (W := 0) Ec16_a1 (argsL := []) (rest := []) (rm8 l Z a0 hw [] b11 p1 T16.heap n0 zs18 Ec16_a1 Fc16_a1_errorCode) (by decide) (by decide) (c' := 7) (s' := 15) rfl rfl (by decide) (by decide) rfl (g := (mkF m 92 #[.val (.int p1), .val (.int p2), .val (.int p3), .val (.int p4), .val (.int p1), .val (.int ((p4 &&& (2147483647 : Int32)) % (3 : Int32))), .val (.int (0 : Int32)), .val (.ref b3), .val (.ref w1), .val (.ref b11), .val (.int (0 : Int32))] [(.ref b11)])) rfl (by rw [hml]; rfl) (lenOf pd_0_6 rfl) rfl (by show 2 * 0 + _ ≤ _; exact Nat.le_of_eq rfl) (hb hby at_92)
        obtain ⟨hv21, N21q, e21⟩ := hQ21
        have N21 := Fr.app N16 N21q
        rw [f8, if_neg (own_ltn hc20)] at hv21
        subst hv21
        obtain ⟨fs, hr, hrun, hended, hRW⟩ := X21.leaveW (s := s) hS3 (by rw [e21]; exact zk17) (v := some (.int (1 : Int32))) (fun h => by rw [Bd.returns] at h; cases h)
        refine ⟨_, _, pre19 _ ?_, hrun, hended, _, _, rfl, ?_, ⟨_, rfl⟩, hRW.2.1, hRW.2.2.1, hRW.2.2.2.mono (by decide) (by decide)⟩
        · show Steps p.tables e below (T16.setTop (mkF m 67 #[.val (.int p1), .val (.int p2), .val (.int p3), .val (.int p4), .val (.int p1), .val (.int ((p4 &&& (2147483647 : Int32)) % (3 : Int32))), .val (.int (0 : Int32)), .val (.ref b3), .val (.ref w1), .val (.ref b11), .unset] [(.int p1)])) _
          refine XS.ifNo X16.here hx rfl (hb hby at_67) rfl ((if0 _ _).trans (tlt hc20).2.1) ?_
          show Steps p.tables e below (T16.setTop (mkF m 70 #[.val (.int p1), .val (.int p2), .val (.int p3), .val (.int p4), .val (.int p1), .val (.int ((p4 &&& (2147483647 : Int32)) % (3 : Int32))), .val (.int (0 : Int32)), .val (.ref b3), .val (.ref w1), .val (.ref b11), .unset] [])) _
          refine own_blk X16 hx bl0_70_2 (own_hb hby bd0_70_2) (pc' := 73) (Ls' := #[.val (.int p1), .val (.int p2), .val (.int p3), .val (.int p4), .val (.int p1), .val (.int ((p4 &&& (2147483647 : Int32)) % (3 : Int32))), .val (.int (0 : Int32)), .val (.ref b3), .val (.ref w1), .val (.ref b11), .val (.int (0 : Int32))]) (st' := []) rfl ?_
          refine own_blk X16 hx bl0_73_2 (own_hb hby bd0_73_2) (pc' := 92) (Ls' := #[.val (.int p1), .val (.int p2), .val (.int p3), .val (.int p4), .val (.int p1), .val (.int ((p4 &&& (2147483647 : Int32)) % (3 : Int32))), .val (.int (0 : Int32)), .val (.ref b3), .val (.ref w1), .val (.ref b11), .val (.int (0 : Int32))]) (st' := [(.ref b11)]) rfl ?_
          refine st21 _ ?_
          show Steps p.tables e below (T21.setTop (mkF m 95 #[.val (.int p1), .val (.int p2), .val (.int p3), .val (.int p4), .val (.int p1), .val (.int ((p4 &&& (2147483647 : Int32)) % (3 : Int32))), .val (.int (0 : Int32)), .val (.ref b3), .val (.ref w1), .val (.ref b11), .val (.int (0 : Int32))] [(.int (0 : Int32))])) _
          refine own_blk X21 hx bl0_95_1 (own_hb hby bd0_95_1) (pc' := 97) (Ls' := #[.val (.int p1), .val (.int p2), .val (.int p3), .val (.int p4), .val (.int p1), .val (.int ((p4 &&& (2147483647 : Int32)) % (3 : Int32))), .val (.int (0 : Int32)), .val (.ref b3), .val (.ref w1), .val (.ref b11), .val (.int (0 : Int32))]) (st' := [(.int (0 : Int32)), (.int (0 : Int32))]) rfl ?_
          refine XS.icmpNo X21.here hx rfl (hb hby at_97) rfl (teq (by decide : (0 : Int32) = (0 : Int32))).2 ?_
          show Steps p.tables e below (T21.setTop (mkF m 100 #[.val (.int p1), .val (.int p2), .val (.int p3), .val (.int p4), .val (.int p1), .val (.int ((p4 &&& (2147483647 : Int32)) % (3 : Int32))), .val (.int (0 : Int32)), .val (.ref b3), .val (.ref w1), .val (.ref b11), .val (.int (0 : Int32))] [])) _
          refine own_blk X21 hx bl0_100_2 (own_hb hby bd0_100_2) (pc' := 105) (Ls' := #[.val (.int p1), .val (.int p2), .val (.int p3), .val (.int p4), .val (.int p1), .val (.int ((p4 &&& (2147483647 : Int32)) % (3 : Int32))), .val (.int (0 : Int32)), .val (.ref b3), .val (.ref w1), .val (.ref b11), .val (.int (0 : Int32))]) (st' := [(.int (1 : Int32))]) rfl ?_
          exact retN X21 hx (t := .boolean) Bd.returns (by simp) (hb hby at_105) hr
        · show Q0_0 Z p1 p2 p3 p4 w1 w2 h0 n0 _ T21.heap _
          rw [e21]
          exact ⟨by rw [f0_0, if_pos hc2, if_pos hc10, if_pos hc20], N21⟩
      · have pre22 : ∀ t, Steps p.tables e below (T16.setTop (mkF m 78 #[.val (.int p1), .val (.int p2), .val (.int p3), .val (.int p4), .val (.int p1), .val (.int ((p4 &&& (2147483647 : Int32)) % (3 : Int32))), .val (.int (0 : Int32)), .val (.ref b3), .val (.ref w1), .val (.ref b11), .unset] [(.int p1)])) t → Steps p.tables e below (s₁.setTop (entryFrame m #[(.int p1), (.int p2), (.int p3), (.int p4)] maxLocals)) t := fun t kt => by
          refine pre19 _ ?_
          show Steps p.tables e below (T16.setTop (mkF m 67 #[.val (.int p1), .val (.int p2), .val (.int p3), .val (.int p4), .val (.int p1), .val (.int ((p4 &&& (2147483647 : Int32)) % (3 : Int32))), .val (.int (0 : Int32)), .val (.ref b3), .val (.ref w1), .val (.ref b11), .unset] [(.int p1)])) _
          refine XS.ifYes X16.here hx rfl (pc0 := 67) (pc' := 76) rfl (hb hby at_67) rfl ((if0 _ _).trans (flt hc20).2.1) (by decide) (by decide) ?_
          show Steps p.tables e below (T16.setTop (mkF m 76 #[.val (.int p1), .val (.int p2), .val (.int p3), .val (.int p4), .val (.int p1), .val (.int ((p4 &&& (2147483647 : Int32)) % (3 : Int32))), .val (.int (0 : Int32)), .val (.ref b3), .val (.ref w1), .val (.ref b11), .unset] [])) _
          refine own_blk X16 hx bl0_76_1 (own_hb hby bd0_76_1) (pc' := 78) (Ls' := #[.val (.int p1), .val (.int p2), .val (.int p3), .val (.int p4), .val (.int p1), .val (.int ((p4 &&& (2147483647 : Int32)) % (3 : Int32))), .val (.int (0 : Int32)), .val (.ref b3), .val (.ref w1), .val (.ref b11), .unset]) (st' := [(.int p1)]) rfl ?_
          exact kt
        by_cases hc23 : (0 : Int32) < p1
        · obtain ⟨_, T24, Lc24, X24, hQ24, st24⟩ := own_callV X16 hx hZ (y := (⟨"com/example/vendsettle/vendsettle/Processor$Status", "isSuccess", "()Z"⟩ : MethodName)) hown (hw _ (List.mem_of_getElem? (i := 51) rfl)) (hw _ (List.mem_of_getElem? (i := 52) rfl)) (hw _ (List.mem_of_getElem? (i := 54) rfl)) (hw _ (List.mem_of_getElem? (i := 53) rfl)) (hw _ (List.mem_of_getElem? (i := 35) rfl)) (hw _ (List.mem_of_getElem? (i := 55) rfl)) (by decide) (W := 0) Ec16_a1 (argsL := []) (rest := []) (rm8 l Z a0 hw [] b11 p1 T16.heap n0 zs18 Ec16_a1 Fc16_a1_errorCode) (by decide) (by decide) (c' := 7) (s' := 15) rfl rfl (by decide) (by decide) rfl (g := (mkF m 92 #[.val (.int p1), .val (.int p2), .val (.int p3), .val (.int p4), .val (.int p1), .val (.int ((p4 &&& (2147483647 : Int32)) % (3 : Int32))), .val (.int (0 : Int32)), .val (.ref b3), .val (.ref w1), .val (.ref b11), .val (.int (0 : Int32))] [(.ref b11)])) rfl (by rw [hml]; rfl) (lenOf pd_0_6 rfl) rfl (by show 2 * 0 + _ ≤ _; exact Nat.le_of_eq rfl) (hb hby at_92)
          obtain ⟨hv24, N24q, e24⟩ := hQ24
          have N24 := Fr.app N16 N24q
          rw [f8, if_neg (own_gtn hc23)] at hv24
          subst hv24
          obtain ⟨fs, hr, hrun, hended, hRW⟩ := X24.leaveW (s := s) hS3 (by rw [e24]; exact zk17) (v := some (.int (1 : Int32))) (fun h => by rw [Bd.returns] at h; cases h)
          refine ⟨_, _, pre22 _ ?_, hrun, hended, _, _, rfl, ?_, ⟨_, rfl⟩, hRW.2.1, hRW.2.2.1, hRW.2.2.2.mono (by decide) (by decide)⟩
          · show Steps p.tables e below (T16.setTop (mkF m 78 #[.val (.int p1), .val (.int p2), .val (.int p3), .val (.int p4), .val (.int p1), .val (.int ((p4 &&& (2147483647 : Int32)) % (3 : Int32))), .val (.int (0 : Int32)), .val (.ref b3), .val (.ref w1), .val (.ref b11), .unset] [(.int p1)])) _
            refine XS.ifNo X16.here hx rfl (hb hby at_78) rfl ((if0 _ _).trans (tlt hc23).2.2.2) ?_
            show Steps p.tables e below (T16.setTop (mkF m 81 #[.val (.int p1), .val (.int p2), .val (.int p3), .val (.int p4), .val (.int p1), .val (.int ((p4 &&& (2147483647 : Int32)) % (3 : Int32))), .val (.int (0 : Int32)), .val (.ref b3), .val (.ref w1), .val (.ref b11), .unset] [])) _
            refine own_blk X16 hx bl0_81_2 (own_hb hby bd0_81_2) (pc' := 84) (Ls' := #[.val (.int p1), .val (.int p2), .val (.int p3), .val (.int p4), .val (.int p1), .val (.int ((p4 &&& (2147483647 : Int32)) % (3 : Int32))), .val (.int (0 : Int32)), .val (.ref b3), .val (.ref w1), .val (.ref b11), .val (.int (0 : Int32))]) (st' := []) rfl ?_
            refine own_blk X16 hx bl0_84_2 (own_hb hby bd0_84_2) (pc' := 92) (Ls' := #[.val (.int p1), .val (.int p2), .val (.int p3), .val (.int p4), .val (.int p1), .val (.int ((p4 &&& (2147483647 : Int32)) % (3 : Int32))), .val (.int (0 : Int32)), .val (.ref b3), .val (.ref w1), .val (.ref b11), .val (.int (0 : Int32))]) (st' := [(.ref b11)]) rfl ?_
            refine st24 _ ?_
            show Steps p.tables e below (T24.setTop (mkF m 95 #[.val (.int p1), .val (.int p2), .val (.int p3), .val (.int p4), .val (.int p1), .val (.int ((p4 &&& (2147483647 : Int32)) % (3 : Int32))), .val (.int (0 : Int32)), .val (.ref b3), .val (.ref w1), .val (.ref b11), .val (.int (0 : Int32))] [(.int (0 : Int32))])) _
            refine own_blk X24 hx bl0_95_1 (own_hb hby bd0_95_1) (pc' := 97) (Ls' := #[.val (.int p1), .val (.int p2), .val (.int p3), .val (.int p4), .val (.int p1), .val (.int ((p4 &&& (2147483647 : Int32)) % (3 : Int32))), .val (.int (0 : Int32)), .val (.ref b3), .val (.ref w1), .val (.ref b11), .val (.int (0 : Int32))]) (st' := [(.int (0 : Int32)), (.int (0 : Int32))]) rfl ?_
            refine XS.icmpNo X24.here hx rfl (hb hby at_97) rfl (teq (by decide : (0 : Int32) = (0 : Int32))).2 ?_
            show Steps p.tables e below (T24.setTop (mkF m 100 #[.val (.int p1), .val (.int p2), .val (.int p3), .val (.int p4), .val (.int p1), .val (.int ((p4 &&& (2147483647 : Int32)) % (3 : Int32))), .val (.int (0 : Int32)), .val (.ref b3), .val (.ref w1), .val (.ref b11), .val (.int (0 : Int32))] [])) _
            refine own_blk X24 hx bl0_100_2 (own_hb hby bd0_100_2) (pc' := 105) (Ls' := #[.val (.int p1), .val (.int p2), .val (.int p3), .val (.int p4), .val (.int p1), .val (.int ((p4 &&& (2147483647 : Int32)) % (3 : Int32))), .val (.int (0 : Int32)), .val (.ref b3), .val (.ref w1), .val (.ref b11), .val (.int (0 : Int32))]) (st' := [(.int (1 : Int32))]) rfl ?_
            exact retN X24 hx (t := .boolean) Bd.returns (by simp) (hb hby at_105) hr
          · show Q0_0 Z p1 p2 p3 p4 w1 w2 h0 n0 _ T24.heap _
            rw [e24]
            exact ⟨by rw [f0_0, if_pos hc2, if_pos hc10, if_neg hc20, if_pos hc23], N24⟩
        · obtain ⟨_, T25, Lc25, X25, hQ25, st25⟩ := own_callV X16 hx hZ (y := (⟨"com/example/vendsettle/vendsettle/Processor$Status", "isSuccess", "()Z"⟩ : MethodName)) hown (hw _ (List.mem_of_getElem? (i := 51) rfl)) (hw _ (List.mem_of_getElem? (i := 52) rfl)) (hw _ (List.mem_of_getElem? (i := 54) rfl)) (hw _ (List.mem_of_getElem? (i := 53) rfl)) (hw _ (List.mem_of_getElem? (i := 35) rfl)) (hw _ (List.mem_of_getElem? (i := 55) rfl)) (by decide) (W := 0) Ec16_a1 (argsL := []) (rest := []) (rm8 l Z a0 hw [] b11 p1 T16.heap n0 zs18 Ec16_a1 Fc16_a1_errorCode) (by decide) (by decide) (c' := 7) (s' := 15) rfl rfl (by decide) (by decide) rfl (g := (mkF m 92 #[.val (.int p1), .val (.int p2), .val (.int p3), .val (.int p4), .val (.int p1), .val (.int ((p4 &&& (2147483647 : Int32)) % (3 : Int32))), .val (.int (0 : Int32)), .val (.ref b3), .val (.ref w1), .val (.ref b11), .val (.int (1 : Int32))] [(.ref b11)])) rfl (by rw [hml]; rfl) (lenOf pd_0_6 rfl) rfl (by show 2 * 0 + _ ≤ _; exact Nat.le_of_eq rfl) (hb hby at_92)
          obtain ⟨hv25, N25q, e25⟩ := hQ25
          have N25 := Fr.app N16 N25q
          rw [f8, if_pos (own_z hc20 hc23)] at hv25
          subst hv25
          obtain ⟨fs, hr, hrun, hended, hRW⟩ := X25.leaveW (s := s) hS3 (by rw [e25]; exact zk17) (v := some (.int (1 : Int32))) (fun h => by rw [Bd.returns] at h; cases h)
          refine ⟨_, _, pre22 _ ?_, hrun, hended, _, _, rfl, ?_, ⟨_, rfl⟩, hRW.2.1, hRW.2.2.1, hRW.2.2.2.mono (by decide) (by decide)⟩
          · show Steps p.tables e below (T16.setTop (mkF m 78 #[.val (.int p1), .val (.int p2), .val (.int p3), .val (.int p4), .val (.int p1), .val (.int ((p4 &&& (2147483647 : Int32)) % (3 : Int32))), .val (.int (0 : Int32)), .val (.ref b3), .val (.ref w1), .val (.ref b11), .unset] [(.int p1)])) _
            refine XS.ifYes X16.here hx rfl (pc0 := 78) (pc' := 87) rfl (hb hby at_78) rfl ((if0 _ _).trans (flt hc23).2.2.2) (by decide) (by decide) ?_
            show Steps p.tables e below (T16.setTop (mkF m 87 #[.val (.int p1), .val (.int p2), .val (.int p3), .val (.int p4), .val (.int p1), .val (.int ((p4 &&& (2147483647 : Int32)) % (3 : Int32))), .val (.int (0 : Int32)), .val (.ref b3), .val (.ref w1), .val (.ref b11), .unset] [])) _
            refine own_blk X16 hx bl0_87_2 (own_hb hby bd0_87_2) (pc' := 90) (Ls' := #[.val (.int p1), .val (.int p2), .val (.int p3), .val (.int p4), .val (.int p1), .val (.int ((p4 &&& (2147483647 : Int32)) % (3 : Int32))), .val (.int (0 : Int32)), .val (.ref b3), .val (.ref w1), .val (.ref b11), .val (.int (1 : Int32))]) (st' := []) rfl ?_
            refine own_blk X16 hx bl0_90_1 (own_hb hby bd0_90_1) (pc' := 92) (Ls' := #[.val (.int p1), .val (.int p2), .val (.int p3), .val (.int p4), .val (.int p1), .val (.int ((p4 &&& (2147483647 : Int32)) % (3 : Int32))), .val (.int (0 : Int32)), .val (.ref b3), .val (.ref w1), .val (.ref b11), .val (.int (1 : Int32))]) (st' := [(.ref b11)]) rfl ?_
            refine st25 _ ?_
            show Steps p.tables e below (T25.setTop (mkF m 95 #[.val (.int p1), .val (.int p2), .val (.int p3), .val (.int p4), .val (.int p1), .val (.int ((p4 &&& (2147483647 : Int32)) % (3 : Int32))), .val (.int (0 : Int32)), .val (.ref b3), .val (.ref w1), .val (.ref b11), .val (.int (1 : Int32))] [(.int (1 : Int32))])) _
            refine own_blk X25 hx bl0_95_1 (own_hb hby bd0_95_1) (pc' := 97) (Ls' := #[.val (.int p1), .val (.int p2), .val (.int p3), .val (.int p4), .val (.int p1), .val (.int ((p4 &&& (2147483647 : Int32)) % (3 : Int32))), .val (.int (0 : Int32)), .val (.ref b3), .val (.ref w1), .val (.ref b11), .val (.int (1 : Int32))]) (st' := [(.int (1 : Int32)), (.int (1 : Int32))]) rfl ?_
            refine XS.icmpNo X25.here hx rfl (hb hby at_97) rfl (teq (by decide : (1 : Int32) = (1 : Int32))).2 ?_
            show Steps p.tables e below (T25.setTop (mkF m 100 #[.val (.int p1), .val (.int p2), .val (.int p3), .val (.int p4), .val (.int p1), .val (.int ((p4 &&& (2147483647 : Int32)) % (3 : Int32))), .val (.int (0 : Int32)), .val (.ref b3), .val (.ref w1), .val (.ref b11), .val (.int (1 : Int32))] [])) _
            refine own_blk X25 hx bl0_100_2 (own_hb hby bd0_100_2) (pc' := 105) (Ls' := #[.val (.int p1), .val (.int p2), .val (.int p3), .val (.int p4), .val (.int p1), .val (.int ((p4 &&& (2147483647 : Int32)) % (3 : Int32))), .val (.int (0 : Int32)), .val (.ref b3), .val (.ref w1), .val (.ref b11), .val (.int (1 : Int32))]) (st' := [(.int (1 : Int32))]) rfl ?_
            exact retN X25 hx (t := .boolean) Bd.returns (by simp) (hb hby at_105) hr
          · show Q0_0 Z p1 p2 p3 p4 w1 w2 h0 n0 _ T25.heap _
            rw [e25]
            exact ⟨by rw [f0_0, if_pos hc2, if_pos hc10, if_neg hc20, if_neg hc23], N25⟩
    · by_cases hc26 : ((p4 &&& (2147483647 : Int32)) % (3 : Int32)) = (2 : Int32)
      · rw [f5, if_neg hc10, if_pos hc26] at hv6
        subst hv6
        obtain ⟨T27, h27, X27, e27, E27, A27, D27, -, st27⟩ := newO X6 hx hZ hown (hw _ (List.mem_of_getElem? (i := 33) rfl)) (hw _ (List.mem_of_getElem? (i := 34) rfl)) (hw _ (List.mem_of_getElem? (i := 35) rfl)) e6 (g := (mkF m 50 #[.val (.int p1), .val (.int p2), .val (.int p3), .val (.int p4), .val (.int p1), .val (.int ((p4 &&& (2147483647 : Int32)) % (3 : Int32))), .val (.int (0 : Int32)), .val (.ref b3), .val (.ref w2), .unset, .unset] [])) rfl (hb hby at_50) (by decide) (by decide)
        obtain ⟨b27, g27⟩ : ∃ z, z = T3.heap.size := ⟨_, rfl⟩
        rw [← g27] at A27 D27 st27
        have fa28 : Exa Z T3.heap w1 "com/example/vendsettle/vendsettle/Processor$Reason" := (E_w1.keep K3)
        have ne_w1_b27 : w1 ≠ b27 := Nat.ne_of_lt (Nat.lt_of_lt_of_le fa28.lt (Nat.le_of_eq g27.symm))
        have fa29 : Exa Z T3.heap w2 "com/example/vendsettle/vendsettle/Processor$Reason" := (E_w2.keep K3)
        have ne_w2_b27 : w2 ≠ b27 := Nat.ne_of_lt (Nat.lt_of_lt_of_le fa29.lt (Nat.le_of_eq g27.symm))
        have g_b27 : n0 ≤ b27 := Nat.le_trans zs5 (Nat.le_of_eq g27.symm)
        have zk30 : T3.heap.size ≤ h27.size := Nat.le_trans (Nat.le_refl _) E27.1
        have zs31 : n0 ≤ h27.size := Nat.le_trans zs5 E27.1
        have F_errorCode_b27 : Fld Z h27 b27 "com/example/vendsettle/vendsettle/Processor$Status" "errorCode" "I" (.int (0 : Int32)) := D27 (Or.inr (hw _ (List.mem_of_getElem? (i := 46) rfl))) (ty := .int) (by decide)
        have F_statusMessage_b27 : Fld Z h27 b27 "com/example/vendsettle/vendsettle/Processor$Status" "statusMessage" "Ljava/lang/String;" .null := D27 (Or.inr (hw _ (List.mem_of_getElem? (i := 48) rfl))) (ty := (.object "java/lang/String")) (by decide)
        have F_reason_b27 : Fld Z h27 b27 "com/example/vendsettle/vendsettle/Processor$Status" "reason" "Lcom/example/vendsettle/vendsettle/Processor$Reason;" .null := D27 (Or.inr (hw _ (List.mem_of_getElem? (i := 50) rfl))) (ty := (.object "com/example/vendsettle/vendsettle/Processor$Reason")) (by decide)
        obtain ⟨_, T32, Lc32, X32, hQ32, st32⟩ := own_callI X27 hx hZ (y := (⟨"com/example/vendsettle/vendsettle/Processor$Status", "<init>", "(ILjava/lang/String;Lcom/example/vendsettle/vendsettle/Processor$Reason;)V"⟩ : MethodName)) rfl hown (hw _ (List.mem_of_getElem? (i := 36) rfl)) (hw _ (List.mem_of_getElem? (i := 37) rfl)) (hw _ (List.mem_of_getElem? (i := 35) rfl)) (hw _ (List.mem_of_getElem? (i := 38) rfl)) (by decide) (W := 1) (a := b27) (argsL := [(.int p1), (.ref b3), (.ref w2)]) (rest := [(.ref b27)]) (rm6r l Z a0 hw [] b27 p1 b3 w2 h27 n0 zs31 A27 F_errorCode_b27 F_statusMessage_b27 F_reason_b27 g_b27) (by decide) (by decide) (c' := 7) (s' := 15) rfl rfl (by decide) (by decide) e27 (g := (mkF m 60 #[.val (.int p1), .val (.int p2), .val (.int p3), .val (.int p4), .val (.int p1), .val (.int ((p4 &&& (2147483647 : Int32)) % (3 : Int32))), .val (.int (0 : Int32)), .val (.ref b3), .val (.ref w2), .unset, .unset] [(.ref w2), (.ref b3), (.int p1), (.ref b27), (.ref b27)])) rfl (by rw [hml]; rfl) (lenOf pd_0_5 rfl) rfl (by show 2 * 0 + _ ≤ _; exact Nat.le_of_eq rfl) (hb hby at_60)
        obtain ⟨rfl, N32q, K32, Ec32_a1, Fc32_a1_errorCode, Fc32_a1_statusMessage, Fc32_a1_reason⟩ := hQ32
        have N32 := Fr.app N6 N32q
        have zk33 : T3.heap.size ≤ T32.heap.size := Nat.le_trans zk30 K32.1
        have zs34 : n0 ≤ T32.heap.size := Nat.le_trans zs31 K32.1
        have pre35 : ∀ t, Steps p.tables e below (T32.setTop (mkF m 67 #[.val (.int p1), .val (.int p2), .val (.int p3), .val (.int p4), .val (.int p1), .val (.int ((p4 &&& (2147483647 : Int32)) % (3 : Int32))), .val (.int (0 : Int32)), .val (.ref b3), .val (.ref w2), .val (.ref b27), .unset] [(.int p1)])) t → Steps p.tables e below (s₁.setTop (entryFrame m #[(.int p1), (.int p2), (.int p3), (.int p4)] maxLocals)) t := fun t kt => by
          refine pre9 _ ?_
          refine st6 _ ?_
          show Steps p.tables e below (T6.setTop (mkF m 48 #[.val (.int p1), .val (.int p2), .val (.int p3), .val (.int p4), .val (.int p1), .val (.int ((p4 &&& (2147483647 : Int32)) % (3 : Int32))), .val (.int (0 : Int32)), .val (.ref b3), .unset, .unset, .unset] [(.ref w2)])) _
          refine own_blk X6 hx bl0_48_1 (own_hb hby bd0_48_1) (pc' := 50) (Ls' := #[.val (.int p1), .val (.int p2), .val (.int p3), .val (.int p4), .val (.int p1), .val (.int ((p4 &&& (2147483647 : Int32)) % (3 : Int32))), .val (.int (0 : Int32)), .val (.ref b3), .val (.ref w2), .unset, .unset]) (st' := []) rfl ?_
          refine st27 _ ?_
          show Steps p.tables e below (T27.setTop (mkF m 53 #[.val (.int p1), .val (.int p2), .val (.int p3), .val (.int p4), .val (.int p1), .val (.int ((p4 &&& (2147483647 : Int32)) % (3 : Int32))), .val (.int (0 : Int32)), .val (.ref b3), .val (.ref w2), .unset, .unset] [(.ref b27)])) _
          refine own_blk X27 hx bl0_53_4 (own_hb hby bd0_53_4) (pc' := 60) (Ls' := #[.val (.int p1), .val (.int p2), .val (.int p3), .val (.int p4), .val (.int p1), .val (.int ((p4 &&& (2147483647 : Int32)) % (3 : Int32))), .val (.int (0 : Int32)), .val (.ref b3), .val (.ref w2), .unset, .unset]) (st' := [(.ref w2), (.ref b3), (.int p1), (.ref b27), (.ref b27)]) rfl ?_
          refine st32 _ ?_
          show Steps p.tables e below (T32.setTop (mkF m 63 #[.val (.int p1), .val (.int p2), .val (.int p3), .val (.int p4), .val (.int p1), .val (.int ((p4 &&& (2147483647 : Int32)) % (3 : Int32))), .val (.int (0 : Int32)), .val (.ref b3), .val (.ref w2), .unset, .unset] [(.ref b27)])) _
          refine own_blk X32 hx bl0_63_1 (own_hb hby bd0_63_1) (pc' := 65) (Ls' := #[.val (.int p1), .val (.int p2), .val (.int p3), .val (.int p4), .val (.int p1), .val (.int ((p4 &&& (2147483647 : Int32)) % (3 : Int32))), .val (.int (0 : Int32)), .val (.ref b3), .val (.ref w2), .val (.ref b27), .unset]) (st' := []) rfl ?_
          refine own_blk X32 hx bl0_65_1 (own_hb hby bd0_65_1) (pc' := 67) (Ls' := #[.val (.int p1), .val (.int p2), .val (.int p3), .val (.int p4), .val (.int p1), .val (.int ((p4 &&& (2147483647 : Int32)) % (3 : Int32))), .val (.int (0 : Int32)), .val (.ref b3), .val (.ref w2), .val (.ref b27), .unset]) (st' := [(.int p1)]) rfl ?_
          exact kt
        by_cases hc36 : p1 < (0 : Int32)
        · obtain ⟨_, T37, Lc37, X37, hQ37, st37⟩ := own_callV X32 hx hZ (y := (⟨"com/example/vendsettle/vendsettle/Processor$Status", "isSuccess", "()Z"⟩ : MethodName)) hown (hw _ (List.mem_of_getElem? (i := 51) rfl)) (hw _ (List.mem_of_getElem? (i := 52) rfl)) (hw _ (List.mem_of_getElem? (i := 54) rfl)) (hw _ (List.mem_of_getElem? (i := 53) rfl)) (hw _ (List.mem_of_getElem? (i := 35) rfl)) (hw _ (List.mem_of_getElem? (i := 55) rfl)) (by decide) (W := 0) Ec32_a1 (argsL := []) (rest := []) (rm8 l Z a0 hw [] b27 p1 T32.heap n0 zs34 Ec32_a1 Fc32_a1_errorCode) (by decide) (by decide) (c' := 7) (s' := 15) rfl rfl (by decide) (by decide) rfl (g := (mkF m 92 #[.val (.int p1), .val (.int p2), .val (.int p3), .val (.int p4), .val (.int p1), .val (.int ((p4 &&& (2147483647 : Int32)) % (3 : Int32))), .val (.int (0 : Int32)), .val (.ref b3), .val (.ref w2), .val (.ref b27), .val (.int (0 : Int32))] [(.ref b27)])) rfl (by rw [hml]; rfl) (lenOf pd_0_6 rfl) rfl (by show 2 * 0 + _ ≤ _; exact Nat.le_of_eq rfl) (hb hby at_92)
          obtain ⟨hv37, N37q, e37⟩ := hQ37
          have N37 := Fr.app N32 N37q
          rw [f8, if_neg (own_ltn hc36)] at hv37
          subst hv37
          obtain ⟨fs, hr, hrun, hended, hRW⟩ := X37.leaveW (s := s) hS3 (by rw [e37]; exact zk33) (v := some (.int (1 : Int32))) (fun h => by rw [Bd.returns] at h; cases h)
          refine ⟨_, _, pre35 _ ?_, hrun, hended, _, _, rfl, ?_, ⟨_, rfl⟩, hRW.2.1, hRW.2.2.1, hRW.2.2.2.mono (by decide) (by decide)⟩
          · show Steps p.tables e below (T32.setTop (mkF m 67 #[.val (.int p1), .val (.int p2), .val (.int p3), .val (.int p4), .val (.int p1), .val (.int ((p4 &&& (2147483647 : Int32)) % (3 : Int32))), .val (.int (0 : Int32)), .val (.ref b3), .val (.ref w2), .val (.ref b27), .unset] [(.int p1)])) _
            refine XS.ifNo X32.here hx rfl (hb hby at_67) rfl ((if0 _ _).trans (tlt hc36).2.1) ?_
            show Steps p.tables e below (T32.setTop (mkF m 70 #[.val (.int p1), .val (.int p2), .val (.int p3), .val (.int p4), .val (.int p1), .val (.int ((p4 &&& (2147483647 : Int32)) % (3 : Int32))), .val (.int (0 : Int32)), .val (.ref b3), .val (.ref w2), .val (.ref b27), .unset] [])) _
            refine own_blk X32 hx bl0_70_2 (own_hb hby bd0_70_2) (pc' := 73) (Ls' := #[.val (.int p1), .val (.int p2), .val (.int p3), .val (.int p4), .val (.int p1), .val (.int ((p4 &&& (2147483647 : Int32)) % (3 : Int32))), .val (.int (0 : Int32)), .val (.ref b3), .val (.ref w2), .val (.ref b27), .val (.int (0 : Int32))]) (st' := []) rfl ?_
            refine own_blk X32 hx bl0_73_2 (own_hb hby bd0_73_2) (pc' := 92) (Ls' := #[.val (.int p1), .val (.int p2), .val (.int p3), .val (.int p4), .val (.int p1), .val (.int ((p4 &&& (2147483647 : Int32)) % (3 : Int32))), .val (.int (0 : Int32)), .val (.ref b3), .val (.ref w2), .val (.ref b27), .val (.int (0 : Int32))]) (st' := [(.ref b27)]) rfl ?_
            refine st37 _ ?_
            show Steps p.tables e below (T37.setTop (mkF m 95 #[.val (.int p1), .val (.int p2), .val (.int p3), .val (.int p4), .val (.int p1), .val (.int ((p4 &&& (2147483647 : Int32)) % (3 : Int32))), .val (.int (0 : Int32)), .val (.ref b3), .val (.ref w2), .val (.ref b27), .val (.int (0 : Int32))] [(.int (0 : Int32))])) _
            refine own_blk X37 hx bl0_95_1 (own_hb hby bd0_95_1) (pc' := 97) (Ls' := #[.val (.int p1), .val (.int p2), .val (.int p3), .val (.int p4), .val (.int p1), .val (.int ((p4 &&& (2147483647 : Int32)) % (3 : Int32))), .val (.int (0 : Int32)), .val (.ref b3), .val (.ref w2), .val (.ref b27), .val (.int (0 : Int32))]) (st' := [(.int (0 : Int32)), (.int (0 : Int32))]) rfl ?_
            refine XS.icmpNo X37.here hx rfl (hb hby at_97) rfl (teq (by decide : (0 : Int32) = (0 : Int32))).2 ?_
            show Steps p.tables e below (T37.setTop (mkF m 100 #[.val (.int p1), .val (.int p2), .val (.int p3), .val (.int p4), .val (.int p1), .val (.int ((p4 &&& (2147483647 : Int32)) % (3 : Int32))), .val (.int (0 : Int32)), .val (.ref b3), .val (.ref w2), .val (.ref b27), .val (.int (0 : Int32))] [])) _
            refine own_blk X37 hx bl0_100_2 (own_hb hby bd0_100_2) (pc' := 105) (Ls' := #[.val (.int p1), .val (.int p2), .val (.int p3), .val (.int p4), .val (.int p1), .val (.int ((p4 &&& (2147483647 : Int32)) % (3 : Int32))), .val (.int (0 : Int32)), .val (.ref b3), .val (.ref w2), .val (.ref b27), .val (.int (0 : Int32))]) (st' := [(.int (1 : Int32))]) rfl ?_
            exact retN X37 hx (t := .boolean) Bd.returns (by simp) (hb hby at_105) hr
          · show Q0_0 Z p1 p2 p3 p4 w1 w2 h0 n0 _ T37.heap _
            rw [e37]
            exact ⟨by rw [f0_0, if_pos hc2, if_neg hc10, if_pos hc26, if_pos hc36], N37⟩
        · have pre38 : ∀ t, Steps p.tables e below (T32.setTop (mkF m 78 #[.val (.int p1), .val (.int p2), .val (.int p3), .val (.int p4), .val (.int p1), .val (.int ((p4 &&& (2147483647 : Int32)) % (3 : Int32))), .val (.int (0 : Int32)), .val (.ref b3), .val (.ref w2), .val (.ref b27), .unset] [(.int p1)])) t → Steps p.tables e below (s₁.setTop (entryFrame m #[(.int p1), (.int p2), (.int p3), (.int p4)] maxLocals)) t := fun t kt => by
            refine pre35 _ ?_
            show Steps p.tables e below (T32.setTop (mkF m 67 #[.val (.int p1), .val (.int p2), .val (.int p3), .val (.int p4), .val (.int p1), .val (.int ((p4 &&& (2147483647 : Int32)) % (3 : Int32))), .val (.int (0 : Int32)), .val (.ref b3), .val (.ref w2), .val (.ref b27), .unset] [(.int p1)])) _
            refine XS.ifYes X32.here hx rfl (pc0 := 67) (pc' := 76) rfl (hb hby at_67) rfl ((if0 _ _).trans (flt hc36).2.1) (by decide) (by decide) ?_
            show Steps p.tables e below (T32.setTop (mkF m 76 #[.val (.int p1), .val (.int p2), .val (.int p3), .val (.int p4), .val (.int p1), .val (.int ((p4 &&& (2147483647 : Int32)) % (3 : Int32))), .val (.int (0 : Int32)), .val (.ref b3), .val (.ref w2), .val (.ref b27), .unset] [])) _
            refine own_blk X32 hx bl0_76_1 (own_hb hby bd0_76_1) (pc' := 78) (Ls' := #[.val (.int p1), .val (.int p2), .val (.int p3), .val (.int p4), .val (.int p1), .val (.int ((p4 &&& (2147483647 : Int32)) % (3 : Int32))), .val (.int (0 : Int32)), .val (.ref b3), .val (.ref w2), .val (.ref b27), .unset]) (st' := [(.int p1)]) rfl ?_
            exact kt
          by_cases hc39 : (0 : Int32) < p1
          · obtain ⟨_, T40, Lc40, X40, hQ40, st40⟩ := own_callV X32 hx hZ (y := (⟨"com/example/vendsettle/vendsettle/Processor$Status", "isSuccess", "()Z"⟩ : MethodName)) hown (hw _ (List.mem_of_getElem? (i := 51) rfl)) (hw _ (List.mem_of_getElem? (i := 52) rfl)) (hw _ (List.mem_of_getElem? (i := 54) rfl)) (hw _ (List.mem_of_getElem? (i := 53) rfl)) (hw _ (List.mem_of_getElem? (i := 35) rfl)) (hw _ (List.mem_of_getElem? (i := 55) rfl)) (by decide) (W := 0) Ec32_a1 (argsL := []) (rest := []) (rm8 l Z a0 hw [] b27 p1 T32.heap n0 zs34 Ec32_a1 Fc32_a1_errorCode) (by decide) (by decide) (c' := 7) (s' := 15) rfl rfl (by decide) (by decide) rfl (g := (mkF m 92 #[.val (.int p1), .val (.int p2), .val (.int p3), .val (.int p4), .val (.int p1), .val (.int ((p4 &&& (2147483647 : Int32)) % (3 : Int32))), .val (.int (0 : Int32)), .val (.ref b3), .val (.ref w2), .val (.ref b27), .val (.int (0 : Int32))] [(.ref b27)])) rfl (by rw [hml]; rfl) (lenOf pd_0_6 rfl) rfl (by show 2 * 0 + _ ≤ _; exact Nat.le_of_eq rfl) (hb hby at_92)
            obtain ⟨hv40, N40q, e40⟩ := hQ40
            have N40 := Fr.app N32 N40q
            rw [f8, if_neg (own_gtn hc39)] at hv40
            subst hv40
            obtain ⟨fs, hr, hrun, hended, hRW⟩ := X40.leaveW (s := s) hS3 (by rw [e40]; exact zk33) (v := some (.int (1 : Int32))) (fun h => by rw [Bd.returns] at h; cases h)
            refine ⟨_, _, pre38 _ ?_, hrun, hended, _, _, rfl, ?_, ⟨_, rfl⟩, hRW.2.1, hRW.2.2.1, hRW.2.2.2.mono (by decide) (by decide)⟩
            · show Steps p.tables e below (T32.setTop (mkF m 78 #[.val (.int p1), .val (.int p2), .val (.int p3), .val (.int p4), .val (.int p1), .val (.int ((p4 &&& (2147483647 : Int32)) % (3 : Int32))), .val (.int (0 : Int32)), .val (.ref b3), .val (.ref w2), .val (.ref b27), .unset] [(.int p1)])) _
              refine XS.ifNo X32.here hx rfl (hb hby at_78) rfl ((if0 _ _).trans (tlt hc39).2.2.2) ?_
              show Steps p.tables e below (T32.setTop (mkF m 81 #[.val (.int p1), .val (.int p2), .val (.int p3), .val (.int p4), .val (.int p1), .val (.int ((p4 &&& (2147483647 : Int32)) % (3 : Int32))), .val (.int (0 : Int32)), .val (.ref b3), .val (.ref w2), .val (.ref b27), .unset] [])) _
              refine own_blk X32 hx bl0_81_2 (own_hb hby bd0_81_2) (pc' := 84) (Ls' := #[.val (.int p1), .val (.int p2), .val (.int p3), .val (.int p4), .val (.int p1), .val (.int ((p4 &&& (2147483647 : Int32)) % (3 : Int32))), .val (.int (0 : Int32)), .val (.ref b3), .val (.ref w2), .val (.ref b27), .val (.int (0 : Int32))]) (st' := []) rfl ?_
              refine own_blk X32 hx bl0_84_2 (own_hb hby bd0_84_2) (pc' := 92) (Ls' := #[.val (.int p1), .val (.int p2), .val (.int p3), .val (.int p4), .val (.int p1), .val (.int ((p4 &&& (2147483647 : Int32)) % (3 : Int32))), .val (.int (0 : Int32)), .val (.ref b3), .val (.ref w2), .val (.ref b27), .val (.int (0 : Int32))]) (st' := [(.ref b27)]) rfl ?_
              refine st40 _ ?_
              show Steps p.tables e below (T40.setTop (mkF m 95 #[.val (.int p1), .val (.int p2), .val (.int p3), .val (.int p4), .val (.int p1), .val (.int ((p4 &&& (2147483647 : Int32)) % (3 : Int32))), .val (.int (0 : Int32)), .val (.ref b3), .val (.ref w2), .val (.ref b27), .val (.int (0 : Int32))] [(.int (0 : Int32))])) _
              refine own_blk X40 hx bl0_95_1 (own_hb hby bd0_95_1) (pc' := 97) (Ls' := #[.val (.int p1), .val (.int p2), .val (.int p3), .val (.int p4), .val (.int p1), .val (.int ((p4 &&& (2147483647 : Int32)) % (3 : Int32))), .val (.int (0 : Int32)), .val (.ref b3), .val (.ref w2), .val (.ref b27), .val (.int (0 : Int32))]) (st' := [(.int (0 : Int32)), (.int (0 : Int32))]) rfl ?_
              refine XS.icmpNo X40.here hx rfl (hb hby at_97) rfl (teq (by decide : (0 : Int32) = (0 : Int32))).2 ?_
              show Steps p.tables e below (T40.setTop (mkF m 100 #[.val (.int p1), .val (.int p2), .val (.int p3), .val (.int p4), .val (.int p1), .val (.int ((p4 &&& (2147483647 : Int32)) % (3 : Int32))), .val (.int (0 : Int32)), .val (.ref b3), .val (.ref w2), .val (.ref b27), .val (.int (0 : Int32))] [])) _
              refine own_blk X40 hx bl0_100_2 (own_hb hby bd0_100_2) (pc' := 105) (Ls' := #[.val (.int p1), .val (.int p2), .val (.int p3), .val (.int p4), .val (.int p1), .val (.int ((p4 &&& (2147483647 : Int32)) % (3 : Int32))), .val (.int (0 : Int32)), .val (.ref b3), .val (.ref w2), .val (.ref b27), .val (.int (0 : Int32))]) (st' := [(.int (1 : Int32))]) rfl ?_
              exact retN X40 hx (t := .boolean) Bd.returns (by simp) (hb hby at_105) hr
            · show Q0_0 Z p1 p2 p3 p4 w1 w2 h0 n0 _ T40.heap _
              rw [e40]
              exact ⟨by rw [f0_0, if_pos hc2, if_neg hc10, if_pos hc26, if_neg hc36, if_pos hc39], N40⟩
          · obtain ⟨_, T41, Lc41, X41, hQ41, st41⟩ := own_callV X32 hx hZ (y := (⟨"com/example/vendsettle/vendsettle/Processor$Status", "isSuccess", "()Z"⟩ : MethodName)) hown (hw _ (List.mem_of_getElem? (i := 51) rfl)) (hw _ (List.mem_of_getElem? (i := 52) rfl)) (hw _ (List.mem_of_getElem? (i := 54) rfl)) (hw _ (List.mem_of_getElem? (i := 53) rfl)) (hw _ (List.mem_of_getElem? (i := 35) rfl)) (hw _ (List.mem_of_getElem? (i := 55) rfl)) (by decide) (W := 0) Ec32_a1 (argsL := []) (rest := []) (rm8 l Z a0 hw [] b27 p1 T32.heap n0 zs34 Ec32_a1 Fc32_a1_errorCode) (by decide) (by decide) (c' := 7) (s' := 15) rfl rfl (by decide) (by decide) rfl (g := (mkF m 92 #[.val (.int p1), .val (.int p2), .val (.int p3), .val (.int p4), .val (.int p1), .val (.int ((p4 &&& (2147483647 : Int32)) % (3 : Int32))), .val (.int (0 : Int32)), .val (.ref b3), .val (.ref w2), .val (.ref b27), .val (.int (1 : Int32))] [(.ref b27)])) rfl (by rw [hml]; rfl) (lenOf pd_0_6 rfl) rfl (by show 2 * 0 + _ ≤ _; exact Nat.le_of_eq rfl) (hb hby at_92)
            obtain ⟨hv41, N41q, e41⟩ := hQ41
            have N41 := Fr.app N32 N41q
            rw [f8, if_pos (own_z hc36 hc39)] at hv41
            subst hv41
            obtain ⟨fs, hr, hrun, hended, hRW⟩ := X41.leaveW (s := s) hS3 (by rw [e41]; exact zk33) (v := some (.int (1 : Int32))) (fun h => by rw [Bd.returns] at h; cases h)
            refine ⟨_, _, pre38 _ ?_, hrun, hended, _, _, rfl, ?_, ⟨_, rfl⟩, hRW.2.1, hRW.2.2.1, hRW.2.2.2.mono (by decide) (by decide)⟩
            · show Steps p.tables e below (T32.setTop (mkF m 78 #[.val (.int p1), .val (.int p2), .val (.int p3), .val (.int p4), .val (.int p1), .val (.int ((p4 &&& (2147483647 : Int32)) % (3 : Int32))), .val (.int (0 : Int32)), .val (.ref b3), .val (.ref w2), .val (.ref b27), .unset] [(.int p1)])) _
              refine XS.ifYes X32.here hx rfl (pc0 := 78) (pc' := 87) rfl (hb hby at_78) rfl ((if0 _ _).trans (flt hc39).2.2.2) (by decide) (by decide) ?_
              show Steps p.tables e below (T32.setTop (mkF m 87 #[.val (.int p1), .val (.int p2), .val (.int p3), .val (.int p4), .val (.int p1), .val (.int ((p4 &&& (2147483647 : Int32)) % (3 : Int32))), .val (.int (0 : Int32)), .val (.ref b3), .val (.ref w2), .val (.ref b27), .unset] [])) _
              refine own_blk X32 hx bl0_87_2 (own_hb hby bd0_87_2) (pc' := 90) (Ls' := #[.val (.int p1), .val (.int p2), .val (.int p3), .val (.int p4), .val (.int p1), .val (.int ((p4 &&& (2147483647 : Int32)) % (3 : Int32))), .val (.int (0 : Int32)), .val (.ref b3), .val (.ref w2), .val (.ref b27), .val (.int (1 : Int32))]) (st' := []) rfl ?_
              refine own_blk X32 hx bl0_90_1 (own_hb hby bd0_90_1) (pc' := 92) (Ls' := #[.val (.int p1), .val (.int p2), .val (.int p3), .val (.int p4), .val (.int p1), .val (.int ((p4 &&& (2147483647 : Int32)) % (3 : Int32))), .val (.int (0 : Int32)), .val (.ref b3), .val (.ref w2), .val (.ref b27), .val (.int (1 : Int32))]) (st' := [(.ref b27)]) rfl ?_
              refine st41 _ ?_
              show Steps p.tables e below (T41.setTop (mkF m 95 #[.val (.int p1), .val (.int p2), .val (.int p3), .val (.int p4), .val (.int p1), .val (.int ((p4 &&& (2147483647 : Int32)) % (3 : Int32))), .val (.int (0 : Int32)), .val (.ref b3), .val (.ref w2), .val (.ref b27), .val (.int (1 : Int32))] [(.int (1 : Int32))])) _
              refine own_blk X41 hx bl0_95_1 (own_hb hby bd0_95_1) (pc' := 97) (Ls' := #[.val (.int p1), .val (.int p2), .val (.int p3), .val (.int p4), .val (.int p1), .val (.int ((p4 &&& (2147483647 : Int32)) % (3 : Int32))), .val (.int (0 : Int32)), .val (.ref b3), .val (.ref w2), .val (.ref b27), .val (.int (1 : Int32))]) (st' := [(.int (1 : Int32)), (.int (1 : Int32))]) rfl ?_
              refine XS.icmpNo X41.here hx rfl (hb hby at_97) rfl (teq (by decide : (1 : Int32) = (1 : Int32))).2 ?_
              show Steps p.tables e below (T41.setTop (mkF m 100 #[.val (.int p1), .val (.int p2), .val (.int p3), .val (.int p4), .val (.int p1), .val (.int ((p4 &&& (2147483647 : Int32)) % (3 : Int32))), .val (.int (0 : Int32)), .val (.ref b3), .val (.ref w2), .val (.ref b27), .val (.int (1 : Int32))] [])) _
              refine own_blk X41 hx bl0_100_2 (own_hb hby bd0_100_2) (pc' := 105) (Ls' := #[.val (.int p1), .val (.int p2), .val (.int p3), .val (.int p4), .val (.int p1), .val (.int ((p4 &&& (2147483647 : Int32)) % (3 : Int32))), .val (.int (0 : Int32)), .val (.ref b3), .val (.ref w2), .val (.ref b27), .val (.int (1 : Int32))]) (st' := [(.int (1 : Int32))]) rfl ?_
              exact retN X41 hx (t := .boolean) Bd.returns (by simp) (hb hby at_105) hr
            · show Q0_0 Z p1 p2 p3 p4 w1 w2 h0 n0 _ T41.heap _
              rw [e41]
              exact ⟨by rw [f0_0, if_pos hc2, if_neg hc10, if_pos hc26, if_neg hc36, if_neg hc39], N41⟩
      · rw [f5, if_neg hc10, if_neg hc26] at hv6
        subst hv6
        obtain ⟨T42, h42, X42, e42, E42, A42, D42, -, st42⟩ := newO X6 hx hZ hown (hw _ (List.mem_of_getElem? (i := 33) rfl)) (hw _ (List.mem_of_getElem? (i := 34) rfl)) (hw _ (List.mem_of_getElem? (i := 35) rfl)) e6 (g := (mkF m 50 #[.val (.int p1), .val (.int p2), .val (.int p3), .val (.int p4), .val (.int p1), .val (.int ((p4 &&& (2147483647 : Int32)) % (3 : Int32))), .val (.int (0 : Int32)), .val (.ref b3), .val .null, .unset, .unset] [])) rfl (hb hby at_50) (by decide) (by decide)
        obtain ⟨b42, g42⟩ : ∃ z, z = T3.heap.size := ⟨_, rfl⟩
        rw [← g42] at A42 D42 st42
        have fa43 : Exa Z T3.heap w1 "com/example/vendsettle/vendsettle/Processor$Reason" := (E_w1.keep K3)
        have ne_w1_b42 : w1 ≠ b42 := Nat.ne_of_lt (Nat.lt_of_lt_of_le fa43.lt (Nat.le_of_eq g42.symm))
        have fa44 : Exa Z T3.heap w2 "com/example/vendsettle/vendsettle/Processor$Reason" := (E_w2.keep K3)
        have ne_w2_b42 : w2 ≠ b42 := Nat.ne_of_lt (Nat.lt_of_lt_of_le fa44.lt (Nat.le_of_eq g42.symm))
        have g_b42 : n0 ≤ b42 := Nat.le_trans zs5 (Nat.le_of_eq g42.symm)
        have zk45 : T3.heap.size ≤ h42.size := Nat.le_trans (Nat.le_refl _) E42.1
        have zs46 : n0 ≤ h42.size := Nat.le_trans zs5 E42.1
        have F_errorCode_b42 : Fld Z h42 b42 "com/example/vendsettle/vendsettle/Processor$Status" "errorCode" "I" (.int (0 : Int32)) := D42 (Or.inr (hw _ (List.mem_of_getElem? (i := 46) rfl))) (ty := .int) (by decide)
        have F_statusMessage_b42 : Fld Z h42 b42 "com/example/vendsettle/vendsettle/Processor$Status" "statusMessage" "Ljava/lang/String;" .null := D42 (Or.inr (hw _ (List.mem_of_getElem? (i := 48) rfl))) (ty := (.object "java/lang/String")) (by decide)
        have F_reason_b42 : Fld Z h42 b42 "com/example/vendsettle/vendsettle/Processor$Status" "reason" "Lcom/example/vendsettle/vendsettle/Processor$Reason;" .null := D42 (Or.inr (hw _ (List.mem_of_getElem? (i := 50) rfl))) (ty := (.object "com/example/vendsettle/vendsettle/Processor$Reason")) (by decide)
        obtain ⟨_, T47, Lc47, X47, hQ47, st47⟩ := own_callI X42 hx hZ (y := (⟨"com/example/vendsettle/vendsettle/Processor$Status", "<init>", "(ILjava/lang/String;Lcom/example/vendsettle/vendsettle/Processor$Reason;)V"⟩ : MethodName)) rfl hown (hw _ (List.mem_of_getElem? (i := 36) rfl)) (hw _ (List.mem_of_getElem? (i := 37) rfl)) (hw _ (List.mem_of_getElem? (i := 35) rfl)) (hw _ (List.mem_of_getElem? (i := 38) rfl)) (by decide) (W := 1) (a := b42) (argsL := [(.int p1), (.ref b3), .null]) (rest := [(.ref b42)]) (rm6z l Z a0 hw [] b42 p1 b3 h42 n0 zs46 A42 F_errorCode_b42 F_statusMessage_b42 F_reason_b42 g_b42) (by decide) (by decide) (c' := 7) (s' := 15) rfl rfl (by decide) (by decide) e42 (g := (mkF m 60 #[.val (.int p1), .val (.int p2), .val (.int p3), .val (.int p4), .val (.int p1), .val (.int ((p4 &&& (2147483647 : Int32)) % (3 : Int32))), .val (.int (0 : Int32)), .val (.ref b3), .val .null, .unset, .unset] [.null, (.ref b3), (.int p1), (.ref b42), (.ref b42)])) rfl (by rw [hml]; rfl) (lenOf pd_0_5 rfl) rfl (by show 2 * 0 + _ ≤ _; exact Nat.le_of_eq rfl) (hb hby at_60)
        obtain ⟨rfl, N47q, K47, Ec47_a1, Fc47_a1_errorCode, Fc47_a1_statusMessage, Fc47_a1_reason⟩ := hQ47
        have N47 := Fr.app N6 N47q
        have zk48 : T3.heap.size ≤ T47.heap.size := Nat.le_trans zk45 K47.1
        have zs49 : n0 ≤ T47.heap.size := Nat.le_trans zs46 K47.1
        have pre50 : ∀ t, Steps p.tables e below (T47.setTop (mkF m 67 #[.val (.int p1), .val (.int p2), .val (.int p3), .val (.int p4), .val (.int p1), .val (.int ((p4 &&& (2147483647 : Int32)) % (3 : Int32))), .val (.int (0 : Int32)), .val (.ref b3), .val .null, .val (.ref b42), .unset] [(.int p1)])) t → Steps p.tables e below (s₁.setTop (entryFrame m #[(.int p1), (.int p2), (.int p3), (.int p4)] maxLocals)) t := fun t kt => by
          refine pre9 _ ?_
          refine st6 _ ?_
          show Steps p.tables e below (T6.setTop (mkF m 48 #[.val (.int p1), .val (.int p2), .val (.int p3), .val (.int p4), .val (.int p1), .val (.int ((p4 &&& (2147483647 : Int32)) % (3 : Int32))), .val (.int (0 : Int32)), .val (.ref b3), .unset, .unset, .unset] [.null])) _
          refine XS.astore X6.here hx rfl (hb hby at_48) rfl rfl (l' := #[.val (.int p1), .val (.int p2), .val (.int p3), .val (.int p4), .val (.int p1), .val (.int ((p4 &&& (2147483647 : Int32)) % (3 : Int32))), .val (.int (0 : Int32)), .val (.ref b3), .val .null, .unset, .unset]) rfl ?_
          show Steps p.tables e below (T6.setTop (mkF m 50 #[.val (.int p1), .val (.int p2), .val (.int p3), .val (.int p4), .val (.int p1), .val (.int ((p4 &&& (2147483647 : Int32)) % (3 : Int32))), .val (.int (0 : Int32)), .val (.ref b3), .val .null, .unset, .unset] [])) _
          refine st42 _ ?_
          show Steps p.tables e below (T42.setTop (mkF m 53 #[.val (.int p1), .val (.int p2), .val (.int p3), .val (.int p4), .val (.int p1), .val (.int ((p4 &&& (2147483647 : Int32)) % (3 : Int32))), .val (.int (0 : Int32)), .val (.ref b3), .val .null, .unset, .unset] [(.ref b42)])) _
          refine own_blk X42 hx bl0_53_4 (own_hb hby bd0_53_4) (pc' := 60) (Ls' := #[.val (.int p1), .val (.int p2), .val (.int p3), .val (.int p4), .val (.int p1), .val (.int ((p4 &&& (2147483647 : Int32)) % (3 : Int32))), .val (.int (0 : Int32)), .val (.ref b3), .val .null, .unset, .unset]) (st' := [.null, (.ref b3), (.int p1), (.ref b42), (.ref b42)]) rfl ?_
          refine st47 _ ?_
          show Steps p.tables e below (T47.setTop (mkF m 63 #[.val (.int p1), .val (.int p2), .val (.int p3), .val (.int p4), .val (.int p1), .val (.int ((p4 &&& (2147483647 : Int32)) % (3 : Int32))), .val (.int (0 : Int32)), .val (.ref b3), .val .null, .unset, .unset] [(.ref b42)])) _
          refine own_blk X47 hx bl0_63_1 (own_hb hby bd0_63_1) (pc' := 65) (Ls' := #[.val (.int p1), .val (.int p2), .val (.int p3), .val (.int p4), .val (.int p1), .val (.int ((p4 &&& (2147483647 : Int32)) % (3 : Int32))), .val (.int (0 : Int32)), .val (.ref b3), .val .null, .val (.ref b42), .unset]) (st' := []) rfl ?_
          refine own_blk X47 hx bl0_65_1 (own_hb hby bd0_65_1) (pc' := 67) (Ls' := #[.val (.int p1), .val (.int p2), .val (.int p3), .val (.int p4), .val (.int p1), .val (.int ((p4 &&& (2147483647 : Int32)) % (3 : Int32))), .val (.int (0 : Int32)), .val (.ref b3), .val .null, .val (.ref b42), .unset]) (st' := [(.int p1)]) rfl ?_
          exact kt
        by_cases hc51 : p1 < (0 : Int32)
        · obtain ⟨_, T52, Lc52, X52, hQ52, st52⟩ := own_callV X47 hx hZ (y := (⟨"com/example/vendsettle/vendsettle/Processor$Status", "isSuccess", "()Z"⟩ : MethodName)) hown (hw _ (List.mem_of_getElem? (i := 51) rfl)) (hw _ (List.mem_of_getElem? (i := 52) rfl)) (hw _ (List.mem_of_getElem? (i := 54) rfl)) (hw _ (List.mem_of_getElem? (i := 53) rfl)) (hw _ (List.mem_of_getElem? (i := 35) rfl)) (hw _ (List.mem_of_getElem? (i := 55) rfl)) (by decide) (W := 0) Ec47_a1 (argsL := []) (rest := []) (rm8 l Z a0 hw [] b42 p1 T47.heap n0 zs49 Ec47_a1 Fc47_a1_errorCode) (by decide) (by decide) (c' := 7) (s' := 15) rfl rfl (by decide) (by decide) rfl (g := (mkF m 92 #[.val (.int p1), .val (.int p2), .val (.int p3), .val (.int p4), .val (.int p1), .val (.int ((p4 &&& (2147483647 : Int32)) % (3 : Int32))), .val (.int (0 : Int32)), .val (.ref b3), .val .null, .val (.ref b42), .val (.int (0 : Int32))] [(.ref b42)])) rfl (by rw [hml]; rfl) (lenOf pd_0_6 rfl) rfl (by show 2 * 0 + _ ≤ _; exact Nat.le_of_eq rfl) (hb hby at_92)
          obtain ⟨hv52, N52q, e52⟩ := hQ52
          have N52 := Fr.app N47 N52q
          rw [f8, if_neg (own_ltn hc51)] at hv52
          subst hv52
          obtain ⟨fs, hr, hrun, hended, hRW⟩ := X52.leaveW (s := s) hS3 (by rw [e52]; exact zk48) (v := some (.int (1 : Int32))) (fun h => by rw [Bd.returns] at h; cases h)
          refine ⟨_, _, pre50 _ ?_, hrun, hended, _, _, rfl, ?_, ⟨_, rfl⟩, hRW.2.1, hRW.2.2.1, hRW.2.2.2.mono (by decide) (by decide)⟩
          · show Steps p.tables e below (T47.setTop (mkF m 67 #[.val (.int p1), .val (.int p2), .val (.int p3), .val (.int p4), .val (.int p1), .val (.int ((p4 &&& (2147483647 : Int32)) % (3 : Int32))), .val (.int (0 : Int32)), .val (.ref b3), .val .null, .val (.ref b42), .unset] [(.int p1)])) _
            refine XS.ifNo X47.here hx rfl (hb hby at_67) rfl ((if0 _ _).trans (tlt hc51).2.1) ?_
            show Steps p.tables e below (T47.setTop (mkF m 70 #[.val (.int p1), .val (.int p2), .val (.int p3), .val (.int p4), .val (.int p1), .val (.int ((p4 &&& (2147483647 : Int32)) % (3 : Int32))), .val (.int (0 : Int32)), .val (.ref b3), .val .null, .val (.ref b42), .unset] [])) _
            refine own_blk X47 hx bl0_70_2 (own_hb hby bd0_70_2) (pc' := 73) (Ls' := #[.val (.int p1), .val (.int p2), .val (.int p3), .val (.int p4), .val (.int p1), .val (.int ((p4 &&& (2147483647 : Int32)) % (3 : Int32))), .val (.int (0 : Int32)), .val (.ref b3), .val .null, .val (.ref b42), .val (.int (0 : Int32))]) (st' := []) rfl ?_
            refine own_blk X47 hx bl0_73_2 (own_hb hby bd0_73_2) (pc' := 92) (Ls' := #[.val (.int p1), .val (.int p2), .val (.int p3), .val (.int p4), .val (.int p1), .val (.int ((p4 &&& (2147483647 : Int32)) % (3 : Int32))), .val (.int (0 : Int32)), .val (.ref b3), .val .null, .val (.ref b42), .val (.int (0 : Int32))]) (st' := [(.ref b42)]) rfl ?_
            refine st52 _ ?_
            show Steps p.tables e below (T52.setTop (mkF m 95 #[.val (.int p1), .val (.int p2), .val (.int p3), .val (.int p4), .val (.int p1), .val (.int ((p4 &&& (2147483647 : Int32)) % (3 : Int32))), .val (.int (0 : Int32)), .val (.ref b3), .val .null, .val (.ref b42), .val (.int (0 : Int32))] [(.int (0 : Int32))])) _
            refine own_blk X52 hx bl0_95_1 (own_hb hby bd0_95_1) (pc' := 97) (Ls' := #[.val (.int p1), .val (.int p2), .val (.int p3), .val (.int p4), .val (.int p1), .val (.int ((p4 &&& (2147483647 : Int32)) % (3 : Int32))), .val (.int (0 : Int32)), .val (.ref b3), .val .null, .val (.ref b42), .val (.int (0 : Int32))]) (st' := [(.int (0 : Int32)), (.int (0 : Int32))]) rfl ?_
            refine XS.icmpNo X52.here hx rfl (hb hby at_97) rfl (teq (by decide : (0 : Int32) = (0 : Int32))).2 ?_
            show Steps p.tables e below (T52.setTop (mkF m 100 #[.val (.int p1), .val (.int p2), .val (.int p3), .val (.int p4), .val (.int p1), .val (.int ((p4 &&& (2147483647 : Int32)) % (3 : Int32))), .val (.int (0 : Int32)), .val (.ref b3), .val .null, .val (.ref b42), .val (.int (0 : Int32))] [])) _
            refine own_blk X52 hx bl0_100_2 (own_hb hby bd0_100_2) (pc' := 105) (Ls' := #[.val (.int p1), .val (.int p2), .val (.int p3), .val (.int p4), .val (.int p1), .val (.int ((p4 &&& (2147483647 : Int32)) % (3 : Int32))), .val (.int (0 : Int32)), .val (.ref b3), .val .null, .val (.ref b42), .val (.int (0 : Int32))]) (st' := [(.int (1 : Int32))]) rfl ?_
            exact retN X52 hx (t := .boolean) Bd.returns (by simp) (hb hby at_105) hr
          · show Q0_0 Z p1 p2 p3 p4 w1 w2 h0 n0 _ T52.heap _
            rw [e52]
            exact ⟨by rw [f0_0, if_pos hc2, if_neg hc10, if_neg hc26, if_pos hc51], N52⟩
        · have pre53 : ∀ t, Steps p.tables e below (T47.setTop (mkF m 78 #[.val (.int p1), .val (.int p2), .val (.int p3), .val (.int p4), .val (.int p1), .val (.int ((p4 &&& (2147483647 : Int32)) % (3 : Int32))), .val (.int (0 : Int32)), .val (.ref b3), .val .null, .val (.ref b42), .unset] [(.int p1)])) t → Steps p.tables e below (s₁.setTop (entryFrame m #[(.int p1), (.int p2), (.int p3), (.int p4)] maxLocals)) t := fun t kt => by
            refine pre50 _ ?_
            show Steps p.tables e below (T47.setTop (mkF m 67 #[.val (.int p1), .val (.int p2), .val (.int p3), .val (.int p4), .val (.int p1), .val (.int ((p4 &&& (2147483647 : Int32)) % (3 : Int32))), .val (.int (0 : Int32)), .val (.ref b3), .val .null, .val (.ref b42), .unset] [(.int p1)])) _
            refine XS.ifYes X47.here hx rfl (pc0 := 67) (pc' := 76) rfl (hb hby at_67) rfl ((if0 _ _).trans (flt hc51).2.1) (by decide) (by decide) ?_
            show Steps p.tables e below (T47.setTop (mkF m 76 #[.val (.int p1), .val (.int p2), .val (.int p3), .val (.int p4), .val (.int p1), .val (.int ((p4 &&& (2147483647 : Int32)) % (3 : Int32))), .val (.int (0 : Int32)), .val (.ref b3), .val .null, .val (.ref b42), .unset] [])) _
            refine own_blk X47 hx bl0_76_1 (own_hb hby bd0_76_1) (pc' := 78) (Ls' := #[.val (.int p1), .val (.int p2), .val (.int p3), .val (.int p4), .val (.int p1), .val (.int ((p4 &&& (2147483647 : Int32)) % (3 : Int32))), .val (.int (0 : Int32)), .val (.ref b3), .val .null, .val (.ref b42), .unset]) (st' := [(.int p1)]) rfl ?_
            exact kt
          by_cases hc54 : (0 : Int32) < p1
          · obtain ⟨_, T55, Lc55, X55, hQ55, st55⟩ := own_callV X47 hx hZ (y := (⟨"com/example/vendsettle/vendsettle/Processor$Status", "isSuccess", "()Z"⟩ : MethodName)) hown (hw _ (List.mem_of_getElem? (i := 51) rfl)) (hw _ (List.mem_of_getElem? (i := 52) rfl)) (hw _ (List.mem_of_getElem? (i := 54) rfl)) (hw _ (List.mem_of_getElem? (i := 53) rfl)) (hw _ (List.mem_of_getElem? (i := 35) rfl)) (hw _ (List.mem_of_getElem? (i := 55) rfl)) (by decide) (W := 0) Ec47_a1 (argsL := []) (rest := []) (rm8 l Z a0 hw [] b42 p1 T47.heap n0 zs49 Ec47_a1 Fc47_a1_errorCode) (by decide) (by decide) (c' := 7) (s' := 15) rfl rfl (by decide) (by decide) rfl (g := (mkF m 92 #[.val (.int p1), .val (.int p2), .val (.int p3), .val (.int p4), .val (.int p1), .val (.int ((p4 &&& (2147483647 : Int32)) % (3 : Int32))), .val (.int (0 : Int32)), .val (.ref b3), .val .null, .val (.ref b42), .val (.int (0 : Int32))] [(.ref b42)])) rfl (by rw [hml]; rfl) (lenOf pd_0_6 rfl) rfl (by show 2 * 0 + _ ≤ _; exact Nat.le_of_eq rfl) (hb hby at_92)
            obtain ⟨hv55, N55q, e55⟩ := hQ55
            have N55 := Fr.app N47 N55q
            rw [f8, if_neg (own_gtn hc54)] at hv55
            subst hv55
            obtain ⟨fs, hr, hrun, hended, hRW⟩ := X55.leaveW (s := s) hS3 (by rw [e55]; exact zk48) (v := some (.int (1 : Int32))) (fun h => by rw [Bd.returns] at h; cases h)
            refine ⟨_, _, pre53 _ ?_, hrun, hended, _, _, rfl, ?_, ⟨_, rfl⟩, hRW.2.1, hRW.2.2.1, hRW.2.2.2.mono (by decide) (by decide)⟩
            · show Steps p.tables e below (T47.setTop (mkF m 78 #[.val (.int p1), .val (.int p2), .val (.int p3), .val (.int p4), .val (.int p1), .val (.int ((p4 &&& (2147483647 : Int32)) % (3 : Int32))), .val (.int (0 : Int32)), .val (.ref b3), .val .null, .val (.ref b42), .unset] [(.int p1)])) _
              refine XS.ifNo X47.here hx rfl (hb hby at_78) rfl ((if0 _ _).trans (tlt hc54).2.2.2) ?_
              show Steps p.tables e below (T47.setTop (mkF m 81 #[.val (.int p1), .val (.int p2), .val (.int p3), .val (.int p4), .val (.int p1), .val (.int ((p4 &&& (2147483647 : Int32)) % (3 : Int32))), .val (.int (0 : Int32)), .val (.ref b3), .val .null, .val (.ref b42), .unset] [])) _
              refine own_blk X47 hx bl0_81_2 (own_hb hby bd0_81_2) (pc' := 84) (Ls' := #[.val (.int p1), .val (.int p2), .val (.int p3), .val (.int p4), .val (.int p1), .val (.int ((p4 &&& (2147483647 : Int32)) % (3 : Int32))), .val (.int (0 : Int32)), .val (.ref b3), .val .null, .val (.ref b42), .val (.int (0 : Int32))]) (st' := []) rfl ?_
              refine own_blk X47 hx bl0_84_2 (own_hb hby bd0_84_2) (pc' := 92) (Ls' := #[.val (.int p1), .val (.int p2), .val (.int p3), .val (.int p4), .val (.int p1), .val (.int ((p4 &&& (2147483647 : Int32)) % (3 : Int32))), .val (.int (0 : Int32)), .val (.ref b3), .val .null, .val (.ref b42), .val (.int (0 : Int32))]) (st' := [(.ref b42)]) rfl ?_
              refine st55 _ ?_
              show Steps p.tables e below (T55.setTop (mkF m 95 #[.val (.int p1), .val (.int p2), .val (.int p3), .val (.int p4), .val (.int p1), .val (.int ((p4 &&& (2147483647 : Int32)) % (3 : Int32))), .val (.int (0 : Int32)), .val (.ref b3), .val .null, .val (.ref b42), .val (.int (0 : Int32))] [(.int (0 : Int32))])) _
              refine own_blk X55 hx bl0_95_1 (own_hb hby bd0_95_1) (pc' := 97) (Ls' := #[.val (.int p1), .val (.int p2), .val (.int p3), .val (.int p4), .val (.int p1), .val (.int ((p4 &&& (2147483647 : Int32)) % (3 : Int32))), .val (.int (0 : Int32)), .val (.ref b3), .val .null, .val (.ref b42), .val (.int (0 : Int32))]) (st' := [(.int (0 : Int32)), (.int (0 : Int32))]) rfl ?_
              refine XS.icmpNo X55.here hx rfl (hb hby at_97) rfl (teq (by decide : (0 : Int32) = (0 : Int32))).2 ?_
              show Steps p.tables e below (T55.setTop (mkF m 100 #[.val (.int p1), .val (.int p2), .val (.int p3), .val (.int p4), .val (.int p1), .val (.int ((p4 &&& (2147483647 : Int32)) % (3 : Int32))), .val (.int (0 : Int32)), .val (.ref b3), .val .null, .val (.ref b42), .val (.int (0 : Int32))] [])) _
              refine own_blk X55 hx bl0_100_2 (own_hb hby bd0_100_2) (pc' := 105) (Ls' := #[.val (.int p1), .val (.int p2), .val (.int p3), .val (.int p4), .val (.int p1), .val (.int ((p4 &&& (2147483647 : Int32)) % (3 : Int32))), .val (.int (0 : Int32)), .val (.ref b3), .val .null, .val (.ref b42), .val (.int (0 : Int32))]) (st' := [(.int (1 : Int32))]) rfl ?_
              exact retN X55 hx (t := .boolean) Bd.returns (by simp) (hb hby at_105) hr
            · show Q0_0 Z p1 p2 p3 p4 w1 w2 h0 n0 _ T55.heap _
              rw [e55]
              exact ⟨by rw [f0_0, if_pos hc2, if_neg hc10, if_neg hc26, if_neg hc51, if_pos hc54], N55⟩
          · obtain ⟨_, T56, Lc56, X56, hQ56, st56⟩ := own_callV X47 hx hZ (y := (⟨"com/example/vendsettle/vendsettle/Processor$Status", "isSuccess", "()Z"⟩ : MethodName)) hown (hw _ (List.mem_of_getElem? (i := 51) rfl)) (hw _ (List.mem_of_getElem? (i := 52) rfl)) (hw _ (List.mem_of_getElem? (i := 54) rfl)) (hw _ (List.mem_of_getElem? (i := 53) rfl)) (hw _ (List.mem_of_getElem? (i := 35) rfl)) (hw _ (List.mem_of_getElem? (i := 55) rfl)) (by decide) (W := 0) Ec47_a1 (argsL := []) (rest := []) (rm8 l Z a0 hw [] b42 p1 T47.heap n0 zs49 Ec47_a1 Fc47_a1_errorCode) (by decide) (by decide) (c' := 7) (s' := 15) rfl rfl (by decide) (by decide) rfl (g := (mkF m 92 #[.val (.int p1), .val (.int p2), .val (.int p3), .val (.int p4), .val (.int p1), .val (.int ((p4 &&& (2147483647 : Int32)) % (3 : Int32))), .val (.int (0 : Int32)), .val (.ref b3), .val .null, .val (.ref b42), .val (.int (1 : Int32))] [(.ref b42)])) rfl (by rw [hml]; rfl) (lenOf pd_0_6 rfl) rfl (by show 2 * 0 + _ ≤ _; exact Nat.le_of_eq rfl) (hb hby at_92)
            obtain ⟨hv56, N56q, e56⟩ := hQ56
            have N56 := Fr.app N47 N56q
            rw [f8, if_pos (own_z hc51 hc54)] at hv56
            subst hv56
            obtain ⟨fs, hr, hrun, hended, hRW⟩ := X56.leaveW (s := s) hS3 (by rw [e56]; exact zk48) (v := some (.int (1 : Int32))) (fun h => by rw [Bd.returns] at h; cases h)
            refine ⟨_, _, pre53 _ ?_, hrun, hended, _, _, rfl, ?_, ⟨_, rfl⟩, hRW.2.1, hRW.2.2.1, hRW.2.2.2.mono (by decide) (by decide)⟩
            · show Steps p.tables e below (T47.setTop (mkF m 78 #[.val (.int p1), .val (.int p2), .val (.int p3), .val (.int p4), .val (.int p1), .val (.int ((p4 &&& (2147483647 : Int32)) % (3 : Int32))), .val (.int (0 : Int32)), .val (.ref b3), .val .null, .val (.ref b42), .unset] [(.int p1)])) _
              refine XS.ifYes X47.here hx rfl (pc0 := 78) (pc' := 87) rfl (hb hby at_78) rfl ((if0 _ _).trans (flt hc54).2.2.2) (by decide) (by decide) ?_
              show Steps p.tables e below (T47.setTop (mkF m 87 #[.val (.int p1), .val (.int p2), .val (.int p3), .val (.int p4), .val (.int p1), .val (.int ((p4 &&& (2147483647 : Int32)) % (3 : Int32))), .val (.int (0 : Int32)), .val (.ref b3), .val .null, .val (.ref b42), .unset] [])) _
              refine own_blk X47 hx bl0_87_2 (own_hb hby bd0_87_2) (pc' := 90) (Ls' := #[.val (.int p1), .val (.int p2), .val (.int p3), .val (.int p4), .val (.int p1), .val (.int ((p4 &&& (2147483647 : Int32)) % (3 : Int32))), .val (.int (0 : Int32)), .val (.ref b3), .val .null, .val (.ref b42), .val (.int (1 : Int32))]) (st' := []) rfl ?_
              refine own_blk X47 hx bl0_90_1 (own_hb hby bd0_90_1) (pc' := 92) (Ls' := #[.val (.int p1), .val (.int p2), .val (.int p3), .val (.int p4), .val (.int p1), .val (.int ((p4 &&& (2147483647 : Int32)) % (3 : Int32))), .val (.int (0 : Int32)), .val (.ref b3), .val .null, .val (.ref b42), .val (.int (1 : Int32))]) (st' := [(.ref b42)]) rfl ?_
              refine st56 _ ?_
              show Steps p.tables e below (T56.setTop (mkF m 95 #[.val (.int p1), .val (.int p2), .val (.int p3), .val (.int p4), .val (.int p1), .val (.int ((p4 &&& (2147483647 : Int32)) % (3 : Int32))), .val (.int (0 : Int32)), .val (.ref b3), .val .null, .val (.ref b42), .val (.int (1 : Int32))] [(.int (1 : Int32))])) _
              refine own_blk X56 hx bl0_95_1 (own_hb hby bd0_95_1) (pc' := 97) (Ls' := #[.val (.int p1), .val (.int p2), .val (.int p3), .val (.int p4), .val (.int p1), .val (.int ((p4 &&& (2147483647 : Int32)) % (3 : Int32))), .val (.int (0 : Int32)), .val (.ref b3), .val .null, .val (.ref b42), .val (.int (1 : Int32))]) (st' := [(.int (1 : Int32)), (.int (1 : Int32))]) rfl ?_
              refine XS.icmpNo X56.here hx rfl (hb hby at_97) rfl (teq (by decide : (1 : Int32) = (1 : Int32))).2 ?_
              show Steps p.tables e below (T56.setTop (mkF m 100 #[.val (.int p1), .val (.int p2), .val (.int p3), .val (.int p4), .val (.int p1), .val (.int ((p4 &&& (2147483647 : Int32)) % (3 : Int32))), .val (.int (0 : Int32)), .val (.ref b3), .val .null, .val (.ref b42), .val (.int (1 : Int32))] [])) _
              refine own_blk X56 hx bl0_100_2 (own_hb hby bd0_100_2) (pc' := 105) (Ls' := #[.val (.int p1), .val (.int p2), .val (.int p3), .val (.int p4), .val (.int p1), .val (.int ((p4 &&& (2147483647 : Int32)) % (3 : Int32))), .val (.int (0 : Int32)), .val (.ref b3), .val .null, .val (.ref b42), .val (.int (1 : Int32))]) (st' := [(.int (1 : Int32))]) rfl ?_
              exact retN X56 hx (t := .boolean) Bd.returns (by simp) (hb hby at_105) hr
            · show Q0_0 Z p1 p2 p3 p4 w1 w2 h0 n0 _ T56.heap _
              rw [e56]
              exact ⟨by rw [f0_0, if_pos hc2, if_neg hc10, if_neg hc26, if_neg hc51, if_neg hc54], N56⟩
  · have pre58 : ∀ t, Steps p.tables e below (s₁.setTop (mkF m 38 #[.val (.int p1), .val (.int p2), .val (.int p3), .val (.int p4), .val (.int (0 : Int32)), .val (.int ((p4 &&& (2147483647 : Int32)) % (3 : Int32))), .val (.int (0 : Int32)), .unset, .unset, .unset, .unset] [(.int p3), (.int p2), (.int (0 : Int32))])) t → Steps p.tables e below (s₁.setTop (entryFrame m #[(.int p1), (.int p2), (.int p3), (.int p4)] maxLocals)) t := fun t kt => by
      refine pre1 _ ?_
      show Steps p.tables e below (s₁.setTop (mkF m 5 #[.val (.int p1), .val (.int p2), .val (.int p3), .val (.int p4), .unset, .unset, .unset, .unset, .unset, .unset, .unset] [(.int ((p4 >>> ((4 : Int32) &&& 31)) &&& (1 : Int32)))])) _
      refine XS.ifNo X0.here hx rfl (hb hby at_5) rfl ((if0 _ _).trans (feq hc2).1) ?_
      show Steps p.tables e below (s₁.setTop (mkF m 8 #[.val (.int p1), .val (.int p2), .val (.int p3), .val (.int p4), .unset, .unset, .unset, .unset, .unset, .unset, .unset] [])) _
      refine own_blk X0 hx bl0_8_3 (own_hb hby bd0_8_3) (pc' := 15) (Ls' := #[.val (.int p1), .val (.int p2), .val (.int p3), .val (.int p4), .val (.int (0 : Int32)), .unset, .unset, .unset, .unset, .unset, .unset]) (st' := []) rfl ?_
      refine own_blk X0 hx bl0_15_1 (own_hb hby bd0_15_1) (pc' := 16) (Ls' := #[.val (.int p1), .val (.int p2), .val (.int p3), .val (.int p4), .val (.int (0 : Int32)), .unset, .unset, .unset, .unset, .unset, .unset]) (st' := [(.int p4)]) rfl ?_
      refine X0.ldcInt hx hown (mvT hZ (hw _ (List.mem_of_getElem? (i := 0) rfl))) (g := (mkF m 16 #[.val (.int p1), .val (.int p2), .val (.int p3), .val (.int p4), .val (.int (0 : Int32)), .unset, .unset, .unset, .unset, .unset, .unset] [(.int p4)])) rfl (hb hby at_16) _ ?_
      show Steps p.tables e below (s₁.setTop (mkF m 18 #[.val (.int p1), .val (.int p2), .val (.int p3), .val (.int p4), .val (.int (0 : Int32)), .unset, .unset, .unset, .unset, .unset, .unset] [(.int (2147483647 : Int32)), (.int p4)])) _
      refine own_blk X0 hx bl0_18_2 (own_hb hby bd0_18_2) (pc' := 20) (Ls' := #[.val (.int p1), .val (.int p2), .val (.int p3), .val (.int p4), .val (.int (0 : Int32)), .unset, .unset, .unset, .unset, .unset, .unset]) (st' := [(.int (3 : Int32)), (.int (p4 &&& (2147483647 : Int32)))]) rfl ?_
      refine iremM X0 hx rfl (hb hby at_20) rfl (by decide : ¬ ((3 : Int32) = (0 : Int32))) ?_
      show Steps p.tables e below (s₁.setTop (mkF m 21 #[.val (.int p1), .val (.int p2), .val (.int p3), .val (.int p4), .val (.int (0 : Int32)), .unset, .unset, .unset, .unset, .unset, .unset] [(.int ((p4 &&& (2147483647 : Int32)) % (3 : Int32)))])) _
      refine own_blk X0 hx bl0_21_1 (own_hb hby bd0_21_1) (pc' := 23) (Ls' := #[.val (.int p1), .val (.int p2), .val (.int p3), .val (.int p4), .val (.int (0 : Int32)), .val (.int ((p4 &&& (2147483647 : Int32)) % (3 : Int32))), .unset, .unset, .unset, .unset, .unset]) (st' := []) rfl ?_
      refine own_blk X0 hx bl0_23_3 (own_hb hby bd0_23_3) (pc' := 27) (Ls' := #[.val (.int p1), .val (.int p2), .val (.int p3), .val (.int p4), .val (.int (0 : Int32)), .val (.int ((p4 &&& (2147483647 : Int32)) % (3 : Int32))), .unset, .unset, .unset, .unset, .unset]) (st' := [(.int (p4 >>> ((8 : Int32) &&& 31)))]) rfl ?_
      refine X0.ldcInt hx hown (mvT hZ (hw _ (List.mem_of_getElem? (i := 0) rfl))) (g := (mkF m 27 #[.val (.int p1), .val (.int p2), .val (.int p3), .val (.int p4), .val (.int (0 : Int32)), .val (.int ((p4 &&& (2147483647 : Int32)) % (3 : Int32))), .unset, .unset, .unset, .unset, .unset] [(.int (p4 >>> ((8 : Int32) &&& 31)))])) rfl (hb hby at_27) _ ?_
      show Steps p.tables e below (s₁.setTop (mkF m 29 #[.val (.int p1), .val (.int p2), .val (.int p3), .val (.int p4), .val (.int (0 : Int32)), .val (.int ((p4 &&& (2147483647 : Int32)) % (3 : Int32))), .unset, .unset, .unset, .unset, .unset] [(.int (2147483647 : Int32)), (.int (p4 >>> ((8 : Int32) &&& 31)))])) _
      refine own_blk X0 hx bl0_29_2 (own_hb hby bd0_29_2) (pc' := 31) (Ls' := #[.val (.int p1), .val (.int p2), .val (.int p3), .val (.int p4), .val (.int (0 : Int32)), .val (.int ((p4 &&& (2147483647 : Int32)) % (3 : Int32))), .unset, .unset, .unset, .unset, .unset]) (st' := [(.int (3 : Int32)), (.int ((p4 >>> ((8 : Int32) &&& 31)) &&& (2147483647 : Int32)))]) rfl ?_
      refine iremM X0 hx rfl (hb hby at_31) rfl (by decide : ¬ ((3 : Int32) = (0 : Int32))) ?_
      show Steps p.tables e below (s₁.setTop (mkF m 32 #[.val (.int p1), .val (.int p2), .val (.int p3), .val (.int p4), .val (.int (0 : Int32)), .val (.int ((p4 &&& (2147483647 : Int32)) % (3 : Int32))), .unset, .unset, .unset, .unset, .unset] [(.int (((p4 >>> ((8 : Int32) &&& 31)) &&& (2147483647 : Int32)) % (3 : Int32)))])) _
      rw [hn]
      show Steps p.tables e below (s₁.setTop (mkF m 32 #[.val (.int p1), .val (.int p2), .val (.int p3), .val (.int p4), .val (.int (0 : Int32)), .val (.int ((p4 &&& (2147483647 : Int32)) % (3 : Int32))), .unset, .unset, .unset, .unset, .unset] [(.int (0 : Int32))])) _
      refine own_blk X0 hx bl0_32_1 (own_hb hby bd0_32_1) (pc' := 34) (Ls' := #[.val (.int p1), .val (.int p2), .val (.int p3), .val (.int p4), .val (.int (0 : Int32)), .val (.int ((p4 &&& (2147483647 : Int32)) % (3 : Int32))), .val (.int (0 : Int32)), .unset, .unset, .unset, .unset]) (st' := []) rfl ?_
      refine own_blk X0 hx bl0_34_3 (own_hb hby bd0_34_3) (pc' := 38) (Ls' := #[.val (.int p1), .val (.int p2), .val (.int p3), .val (.int p4), .val (.int (0 : Int32)), .val (.int ((p4 &&& (2147483647 : Int32)) % (3 : Int32))), .val (.int (0 : Int32)), .unset, .unset, .unset, .unset]) (st' := [(.int p3), (.int p2), (.int (0 : Int32))]) rfl ?_
      exact kt
    obtain ⟨_, T57, Lc57, X57, hQ57, hC57, hS57, hZ, hown, st57⟩ := own_callSH X0 hx hZ (y := (⟨"com/example/vendsettle/vendsettle/StatusIsSuccessPinLaw", "messageOf", "(III)Ljava/lang/String;"⟩ : MethodName)) hown (hw _ (List.mem_of_getElem? (i := 1) rfl)) (hw _ (List.mem_of_getElem? (i := 2) rfl)) (hw _ (List.mem_of_getElem? (i := 3) rfl)) (hw _ (List.mem_of_getElem? (i := 4) rfl)) (by decide) (W := 0) (argsL := [(.int (0 : Int32)), (.int p2), (.int p3)]) (rest := []) (rm1_0 l Z a0 hw [] p2 p3 h0 n0 Z0 ) (own_ew hw) CH0.1 (by decide) (by decide) (c' := 6) (s' := 12) rfl rfl (by decide) (by decide) e0 (g := (mkF m 38 #[.val (.int p1), .val (.int p2), .val (.int p3), .val (.int p4), .val (.int (0 : Int32)), .val (.int ((p4 &&& (2147483647 : Int32)) % (3 : Int32))), .val (.int (0 : Int32)), .unset, .unset, .unset, .unset] [(.int p3), (.int p2), (.int (0 : Int32))])) rfl (by rw [hml]; rfl) (lenOf pd_0_0 rfl) rfl (by show 2 * 0 + _ ≤ _; exact Nat.le_of_eq rfl) (hb hby at_38)
    obtain ⟨b57, rfl, N57q, K57⟩ := hQ57
    have N57 := Fr.app N0 N57q
    have zs59 : n0 ≤ T57.heap.size := Nat.le_trans Z0 K57.1
    have fa61 : Sta Z T57.heap "com/example/vendsettle/vendsettle/Processor$Reason" "ALREADY_COMPLETED" "Lcom/example/vendsettle/vendsettle/Processor$Reason;" (.ref w1) := (own_sta_keep S_ALREADY_COMPLETED K57)
    have fa62 : Sta Z T57.heap "com/example/vendsettle/vendsettle/Processor$Reason" "NOT_FOUND" "Lcom/example/vendsettle/vendsettle/Processor$Reason;" (.ref w2) := (own_sta_keep S_NOT_FOUND K57)
    obtain ⟨_, T60, Lc60, X60, hQ60, st60⟩ := own_callS X57 hx hZ (y := (⟨"com/example/vendsettle/vendsettle/StatusIsSuccessPinLaw", "reasonOf", "(I)Lcom/example/vendsettle/vendsettle/Processor$Reason;"⟩ : MethodName)) hown (hw _ (List.mem_of_getElem? (i := 27) rfl)) (hw _ (List.mem_of_getElem? (i := 28) rfl)) (hw _ (List.mem_of_getElem? (i := 3) rfl)) (hw _ (List.mem_of_getElem? (i := 29) rfl)) (by decide) (W := 0) (argsL := [(.int ((p4 &&& (2147483647 : Int32)) % (3 : Int32)))]) (rest := []) (rm5 l Z a0 hw [] ((p4 &&& (2147483647 : Int32)) % (3 : Int32)) w1 w2 T57.heap n0 zs59 fa61 fa62) (by decide) (by decide) (c' := 6) (s' := 12) rfl rfl (by decide) (by decide) rfl (g := (mkF m 45 #[.val (.int p1), .val (.int p2), .val (.int p3), .val (.int p4), .val (.int (0 : Int32)), .val (.int ((p4 &&& (2147483647 : Int32)) % (3 : Int32))), .val (.int (0 : Int32)), .val (.ref b57), .unset, .unset, .unset] [(.int ((p4 &&& (2147483647 : Int32)) % (3 : Int32)))])) rfl (by rw [hml]; rfl) (lenOf pd_0_4 rfl) rfl (by show 2 * 0 + _ ≤ _; exact Nat.le_of_eq rfl) (hb hby at_45)
    obtain ⟨hv60, N60q, e60⟩ := hQ60
    have N60 := Fr.app N57 N60q
    have pre63 : ∀ t, Steps p.tables e below (T57.setTop (mkF m 45 #[.val (.int p1), .val (.int p2), .val (.int p3), .val (.int p4), .val (.int (0 : Int32)), .val (.int ((p4 &&& (2147483647 : Int32)) % (3 : Int32))), .val (.int (0 : Int32)), .val (.ref b57), .unset, .unset, .unset] [(.int ((p4 &&& (2147483647 : Int32)) % (3 : Int32)))])) t → Steps p.tables e below (s₁.setTop (entryFrame m #[(.int p1), (.int p2), (.int p3), (.int p4)] maxLocals)) t := fun t kt => by
      refine pre58 _ ?_
      show Steps p.tables e below (s₁.setTop (mkF m 38 #[.val (.int p1), .val (.int p2), .val (.int p3), .val (.int p4), .val (.int (0 : Int32)), .val (.int ((p4 &&& (2147483647 : Int32)) % (3 : Int32))), .val (.int (0 : Int32)), .unset, .unset, .unset, .unset] [(.int p3), (.int p2), (.int (0 : Int32))])) _
      refine st57 _ ?_
      show Steps p.tables e below (T57.setTop (mkF m 41 #[.val (.int p1), .val (.int p2), .val (.int p3), .val (.int p4), .val (.int (0 : Int32)), .val (.int ((p4 &&& (2147483647 : Int32)) % (3 : Int32))), .val (.int (0 : Int32)), .unset, .unset, .unset, .unset] [(.ref b57)])) _
      refine own_blk X57 hx bl0_41_1 (own_hb hby bd0_41_1) (pc' := 43) (Ls' := #[.val (.int p1), .val (.int p2), .val (.int p3), .val (.int p4), .val (.int (0 : Int32)), .val (.int ((p4 &&& (2147483647 : Int32)) % (3 : Int32))), .val (.int (0 : Int32)), .val (.ref b57), .unset, .unset, .unset]) (st' := []) rfl ?_
      refine own_blk X57 hx bl0_43_1 (own_hb hby bd0_43_1) (pc' := 45) (Ls' := #[.val (.int p1), .val (.int p2), .val (.int p3), .val (.int p4), .val (.int (0 : Int32)), .val (.int ((p4 &&& (2147483647 : Int32)) % (3 : Int32))), .val (.int (0 : Int32)), .val (.ref b57), .unset, .unset, .unset]) (st' := [(.int ((p4 &&& (2147483647 : Int32)) % (3 : Int32)))]) rfl ?_
      exact kt
    by_cases hc64 : ((p4 &&& (2147483647 : Int32)) % (3 : Int32)) = (1 : Int32)
    · rw [f5, if_pos hc64] at hv60
      subst hv60
      obtain ⟨T65, h65, X65, e65, E65, A65, D65, -, st65⟩ := newO X60 hx hZ hown (hw _ (List.mem_of_getElem? (i := 33) rfl)) (hw _ (List.mem_of_getElem? (i := 34) rfl)) (hw _ (List.mem_of_getElem? (i := 35) rfl)) e60 (g := (mkF m 50 #[.val (.int p1), .val (.int p2), .val (.int p3), .val (.int p4), .val (.int (0 : Int32)), .val (.int ((p4 &&& (2147483647 : Int32)) % (3 : Int32))), .val (.int (0 : Int32)), .val (.ref b57), .val (.ref w1), .unset, .unset] [])) rfl (hb hby at_50) (by decide) (by decide)
      obtain ⟨b65, g65⟩ : ∃ z, z = T57.heap.size := ⟨_, rfl⟩
      rw [← g65] at A65 D65 st65
      have fa66 : Exa Z T57.heap w1 "com/example/vendsettle/vendsettle/Processor$Reason" := (E_w1.keep K57)
      have ne_w1_b65 : w1 ≠ b65 := Nat.ne_of_lt (Nat.lt_of_lt_of_le fa66.lt (Nat.le_of_eq g65.symm))
      have fa67 : Exa Z T57.heap w2 "com/example/vendsettle/vendsettle/Processor$Reason" := (E_w2.keep K57)
      have ne_w2_b65 : w2 ≠ b65 := Nat.ne_of_lt (Nat.lt_of_lt_of_le fa67.lt (Nat.le_of_eq g65.symm))
      have g_b65 : n0 ≤ b65 := Nat.le_trans zs59 (Nat.le_of_eq g65.symm)
      have zk68 : T57.heap.size ≤ h65.size := Nat.le_trans (Nat.le_refl _) E65.1
      have zs69 : n0 ≤ h65.size := Nat.le_trans zs59 E65.1
      have F_errorCode_b65 : Fld Z h65 b65 "com/example/vendsettle/vendsettle/Processor$Status" "errorCode" "I" (.int (0 : Int32)) := D65 (Or.inr (hw _ (List.mem_of_getElem? (i := 46) rfl))) (ty := .int) (by decide)
      have F_statusMessage_b65 : Fld Z h65 b65 "com/example/vendsettle/vendsettle/Processor$Status" "statusMessage" "Ljava/lang/String;" .null := D65 (Or.inr (hw _ (List.mem_of_getElem? (i := 48) rfl))) (ty := (.object "java/lang/String")) (by decide)
      have F_reason_b65 : Fld Z h65 b65 "com/example/vendsettle/vendsettle/Processor$Status" "reason" "Lcom/example/vendsettle/vendsettle/Processor$Reason;" .null := D65 (Or.inr (hw _ (List.mem_of_getElem? (i := 50) rfl))) (ty := (.object "com/example/vendsettle/vendsettle/Processor$Reason")) (by decide)
      obtain ⟨_, T70, Lc70, X70, hQ70, st70⟩ := own_callI X65 hx hZ (y := (⟨"com/example/vendsettle/vendsettle/Processor$Status", "<init>", "(ILjava/lang/String;Lcom/example/vendsettle/vendsettle/Processor$Reason;)V"⟩ : MethodName)) rfl hown (hw _ (List.mem_of_getElem? (i := 36) rfl)) (hw _ (List.mem_of_getElem? (i := 37) rfl)) (hw _ (List.mem_of_getElem? (i := 35) rfl)) (hw _ (List.mem_of_getElem? (i := 38) rfl)) (by decide) (W := 1) (a := b65) (argsL := [(.int (0 : Int32)), (.ref b57), (.ref w1)]) (rest := [(.ref b65)]) (rm6r l Z a0 hw [] b65 (0 : Int32) b57 w1 h65 n0 zs69 A65 F_errorCode_b65 F_statusMessage_b65 F_reason_b65 g_b65) (by decide) (by decide) (c' := 7) (s' := 15) rfl rfl (by decide) (by decide) e65 (g := (mkF m 60 #[.val (.int p1), .val (.int p2), .val (.int p3), .val (.int p4), .val (.int (0 : Int32)), .val (.int ((p4 &&& (2147483647 : Int32)) % (3 : Int32))), .val (.int (0 : Int32)), .val (.ref b57), .val (.ref w1), .unset, .unset] [(.ref w1), (.ref b57), (.int (0 : Int32)), (.ref b65), (.ref b65)])) rfl (by rw [hml]; rfl) (lenOf pd_0_5 rfl) rfl (by show 2 * 0 + _ ≤ _; exact Nat.le_of_eq rfl) (hb hby at_60)
      obtain ⟨rfl, N70q, K70, Ec70_a1, Fc70_a1_errorCode, Fc70_a1_statusMessage, Fc70_a1_reason⟩ := hQ70
      have N70 := Fr.app N60 N70q
      have zk71 : T57.heap.size ≤ T70.heap.size := Nat.le_trans zk68 K70.1
      have zs72 : n0 ≤ T70.heap.size := Nat.le_trans zs69 K70.1
      obtain ⟨_, T73, Lc73, X73, hQ73, st73⟩ := own_callV X70 hx hZ (y := (⟨"com/example/vendsettle/vendsettle/Processor$Status", "isSuccess", "()Z"⟩ : MethodName)) hown (hw _ (List.mem_of_getElem? (i := 51) rfl)) (hw _ (List.mem_of_getElem? (i := 52) rfl)) (hw _ (List.mem_of_getElem? (i := 54) rfl)) (hw _ (List.mem_of_getElem? (i := 53) rfl)) (hw _ (List.mem_of_getElem? (i := 35) rfl)) (hw _ (List.mem_of_getElem? (i := 55) rfl)) (by decide) (W := 0) Ec70_a1 (argsL := []) (rest := []) (rm8 l Z a0 hw [] b65 (0 : Int32) T70.heap n0 zs72 Ec70_a1 Fc70_a1_errorCode) (by decide) (by decide) (c' := 7) (s' := 15) rfl rfl (by decide) (by decide) rfl (g := (mkF m 92 #[.val (.int p1), .val (.int p2), .val (.int p3), .val (.int p4), .val (.int (0 : Int32)), .val (.int ((p4 &&& (2147483647 : Int32)) % (3 : Int32))), .val (.int (0 : Int32)), .val (.ref b57), .val (.ref w1), .val (.ref b65), .val (.int (1 : Int32))] [(.ref b65)])) rfl (by rw [hml]; rfl) (lenOf pd_0_6 rfl) rfl (by show 2 * 0 + _ ≤ _; exact Nat.le_of_eq rfl) (hb hby at_92)
      obtain ⟨hv73, N73q, e73⟩ := hQ73
      have N73 := Fr.app N70 N73q
      rw [f8, if_pos (by decide : (0 : Int32) = (0 : Int32))] at hv73
      subst hv73
      obtain ⟨fs, hr, hrun, hended, hRW⟩ := X73.leaveW (s := s) hS57 (by rw [e73]; exact zk71) (v := some (.int (1 : Int32))) (fun h => by rw [Bd.returns] at h; cases h)
      refine ⟨_, _, pre63 _ ?_, hrun, hended, _, _, rfl, ?_, ⟨_, rfl⟩, hRW.2.1, hRW.2.2.1, hRW.2.2.2.mono (by decide) (by decide)⟩
      · refine st60 _ ?_
        show Steps p.tables e below (T60.setTop (mkF m 48 #[.val (.int p1), .val (.int p2), .val (.int p3), .val (.int p4), .val (.int (0 : Int32)), .val (.int ((p4 &&& (2147483647 : Int32)) % (3 : Int32))), .val (.int (0 : Int32)), .val (.ref b57), .unset, .unset, .unset] [(.ref w1)])) _
        refine own_blk X60 hx bl0_48_1 (own_hb hby bd0_48_1) (pc' := 50) (Ls' := #[.val (.int p1), .val (.int p2), .val (.int p3), .val (.int p4), .val (.int (0 : Int32)), .val (.int ((p4 &&& (2147483647 : Int32)) % (3 : Int32))), .val (.int (0 : Int32)), .val (.ref b57), .val (.ref w1), .unset, .unset]) (st' := []) rfl ?_
        refine st65 _ ?_
        show Steps p.tables e below (T65.setTop (mkF m 53 #[.val (.int p1), .val (.int p2), .val (.int p3), .val (.int p4), .val (.int (0 : Int32)), .val (.int ((p4 &&& (2147483647 : Int32)) % (3 : Int32))), .val (.int (0 : Int32)), .val (.ref b57), .val (.ref w1), .unset, .unset] [(.ref b65)])) _
        refine own_blk X65 hx bl0_53_4 (own_hb hby bd0_53_4) (pc' := 60) (Ls' := #[.val (.int p1), .val (.int p2), .val (.int p3), .val (.int p4), .val (.int (0 : Int32)), .val (.int ((p4 &&& (2147483647 : Int32)) % (3 : Int32))), .val (.int (0 : Int32)), .val (.ref b57), .val (.ref w1), .unset, .unset]) (st' := [(.ref w1), (.ref b57), (.int (0 : Int32)), (.ref b65), (.ref b65)]) rfl ?_
        refine st70 _ ?_
        show Steps p.tables e below (T70.setTop (mkF m 63 #[.val (.int p1), .val (.int p2), .val (.int p3), .val (.int p4), .val (.int (0 : Int32)), .val (.int ((p4 &&& (2147483647 : Int32)) % (3 : Int32))), .val (.int (0 : Int32)), .val (.ref b57), .val (.ref w1), .unset, .unset] [(.ref b65)])) _
        refine own_blk X70 hx bl0_63_1 (own_hb hby bd0_63_1) (pc' := 65) (Ls' := #[.val (.int p1), .val (.int p2), .val (.int p3), .val (.int p4), .val (.int (0 : Int32)), .val (.int ((p4 &&& (2147483647 : Int32)) % (3 : Int32))), .val (.int (0 : Int32)), .val (.ref b57), .val (.ref w1), .val (.ref b65), .unset]) (st' := []) rfl ?_
        refine own_blk X70 hx bl0_65_1 (own_hb hby bd0_65_1) (pc' := 67) (Ls' := #[.val (.int p1), .val (.int p2), .val (.int p3), .val (.int p4), .val (.int (0 : Int32)), .val (.int ((p4 &&& (2147483647 : Int32)) % (3 : Int32))), .val (.int (0 : Int32)), .val (.ref b57), .val (.ref w1), .val (.ref b65), .unset]) (st' := [(.int (0 : Int32))]) rfl ?_
        refine XS.ifYes X70.here hx rfl (pc0 := 67) (pc' := 76) rfl (hb hby at_67) rfl ((if0 _ _).trans (flt (by decide : ¬ ((0 : Int32) < (0 : Int32)))).2.1) (by decide) (by decide) ?_
        show Steps p.tables e below (T70.setTop (mkF m 76 #[.val (.int p1), .val (.int p2), .val (.int p3), .val (.int p4), .val (.int (0 : Int32)), .val (.int ((p4 &&& (2147483647 : Int32)) % (3 : Int32))), .val (.int (0 : Int32)), .val (.ref b57), .val (.ref w1), .val (.ref b65), .unset] [])) _
        refine own_blk X70 hx bl0_76_1 (own_hb hby bd0_76_1) (pc' := 78) (Ls' := #[.val (.int p1), .val (.int p2), .val (.int p3), .val (.int p4), .val (.int (0 : Int32)), .val (.int ((p4 &&& (2147483647 : Int32)) % (3 : Int32))), .val (.int (0 : Int32)), .val (.ref b57), .val (.ref w1), .val (.ref b65), .unset]) (st' := [(.int (0 : Int32))]) rfl ?_
        refine XS.ifYes X70.here hx rfl (pc0 := 78) (pc' := 87) rfl (hb hby at_78) rfl ((if0 _ _).trans (flt (by decide : ¬ ((0 : Int32) < (0 : Int32)))).2.2.2) (by decide) (by decide) ?_
        show Steps p.tables e below (T70.setTop (mkF m 87 #[.val (.int p1), .val (.int p2), .val (.int p3), .val (.int p4), .val (.int (0 : Int32)), .val (.int ((p4 &&& (2147483647 : Int32)) % (3 : Int32))), .val (.int (0 : Int32)), .val (.ref b57), .val (.ref w1), .val (.ref b65), .unset] [])) _
        refine own_blk X70 hx bl0_87_2 (own_hb hby bd0_87_2) (pc' := 90) (Ls' := #[.val (.int p1), .val (.int p2), .val (.int p3), .val (.int p4), .val (.int (0 : Int32)), .val (.int ((p4 &&& (2147483647 : Int32)) % (3 : Int32))), .val (.int (0 : Int32)), .val (.ref b57), .val (.ref w1), .val (.ref b65), .val (.int (1 : Int32))]) (st' := []) rfl ?_
        refine own_blk X70 hx bl0_90_1 (own_hb hby bd0_90_1) (pc' := 92) (Ls' := #[.val (.int p1), .val (.int p2), .val (.int p3), .val (.int p4), .val (.int (0 : Int32)), .val (.int ((p4 &&& (2147483647 : Int32)) % (3 : Int32))), .val (.int (0 : Int32)), .val (.ref b57), .val (.ref w1), .val (.ref b65), .val (.int (1 : Int32))]) (st' := [(.ref b65)]) rfl ?_
        refine st73 _ ?_
        show Steps p.tables e below (T73.setTop (mkF m 95 #[.val (.int p1), .val (.int p2), .val (.int p3), .val (.int p4), .val (.int (0 : Int32)), .val (.int ((p4 &&& (2147483647 : Int32)) % (3 : Int32))), .val (.int (0 : Int32)), .val (.ref b57), .val (.ref w1), .val (.ref b65), .val (.int (1 : Int32))] [(.int (1 : Int32))])) _
        refine own_blk X73 hx bl0_95_1 (own_hb hby bd0_95_1) (pc' := 97) (Ls' := #[.val (.int p1), .val (.int p2), .val (.int p3), .val (.int p4), .val (.int (0 : Int32)), .val (.int ((p4 &&& (2147483647 : Int32)) % (3 : Int32))), .val (.int (0 : Int32)), .val (.ref b57), .val (.ref w1), .val (.ref b65), .val (.int (1 : Int32))]) (st' := [(.int (1 : Int32)), (.int (1 : Int32))]) rfl ?_
        refine XS.icmpNo X73.here hx rfl (hb hby at_97) rfl (teq (by decide : (1 : Int32) = (1 : Int32))).2 ?_
        show Steps p.tables e below (T73.setTop (mkF m 100 #[.val (.int p1), .val (.int p2), .val (.int p3), .val (.int p4), .val (.int (0 : Int32)), .val (.int ((p4 &&& (2147483647 : Int32)) % (3 : Int32))), .val (.int (0 : Int32)), .val (.ref b57), .val (.ref w1), .val (.ref b65), .val (.int (1 : Int32))] [])) _
        refine own_blk X73 hx bl0_100_2 (own_hb hby bd0_100_2) (pc' := 105) (Ls' := #[.val (.int p1), .val (.int p2), .val (.int p3), .val (.int p4), .val (.int (0 : Int32)), .val (.int ((p4 &&& (2147483647 : Int32)) % (3 : Int32))), .val (.int (0 : Int32)), .val (.ref b57), .val (.ref w1), .val (.ref b65), .val (.int (1 : Int32))]) (st' := [(.int (1 : Int32))]) rfl ?_
        exact retN X73 hx (t := .boolean) Bd.returns (by simp) (hb hby at_105) hr
      · show Q0_0 Z p1 p2 p3 p4 w1 w2 h0 n0 _ T73.heap _
        rw [e73]
        exact ⟨by rw [f0_0, if_neg hc2, if_pos hc64], N73⟩
    · by_cases hc74 : ((p4 &&& (2147483647 : Int32)) % (3 : Int32)) = (2 : Int32)
      · rw [f5, if_neg hc64, if_pos hc74] at hv60
        subst hv60
        obtain ⟨T75, h75, X75, e75, E75, A75, D75, -, st75⟩ := newO X60 hx hZ hown (hw _ (List.mem_of_getElem? (i := 33) rfl)) (hw _ (List.mem_of_getElem? (i := 34) rfl)) (hw _ (List.mem_of_getElem? (i := 35) rfl)) e60 (g := (mkF m 50 #[.val (.int p1), .val (.int p2), .val (.int p3), .val (.int p4), .val (.int (0 : Int32)), .val (.int ((p4 &&& (2147483647 : Int32)) % (3 : Int32))), .val (.int (0 : Int32)), .val (.ref b57), .val (.ref w2), .unset, .unset] [])) rfl (hb hby at_50) (by decide) (by decide)
        obtain ⟨b75, g75⟩ : ∃ z, z = T57.heap.size := ⟨_, rfl⟩
        rw [← g75] at A75 D75 st75
        have fa76 : Exa Z T57.heap w1 "com/example/vendsettle/vendsettle/Processor$Reason" := (E_w1.keep K57)
        have ne_w1_b75 : w1 ≠ b75 := Nat.ne_of_lt (Nat.lt_of_lt_of_le fa76.lt (Nat.le_of_eq g75.symm))
        have fa77 : Exa Z T57.heap w2 "com/example/vendsettle/vendsettle/Processor$Reason" := (E_w2.keep K57)
        have ne_w2_b75 : w2 ≠ b75 := Nat.ne_of_lt (Nat.lt_of_lt_of_le fa77.lt (Nat.le_of_eq g75.symm))
        have g_b75 : n0 ≤ b75 := Nat.le_trans zs59 (Nat.le_of_eq g75.symm)
        have zk78 : T57.heap.size ≤ h75.size := Nat.le_trans (Nat.le_refl _) E75.1
        have zs79 : n0 ≤ h75.size := Nat.le_trans zs59 E75.1
        have F_errorCode_b75 : Fld Z h75 b75 "com/example/vendsettle/vendsettle/Processor$Status" "errorCode" "I" (.int (0 : Int32)) := D75 (Or.inr (hw _ (List.mem_of_getElem? (i := 46) rfl))) (ty := .int) (by decide)
        have F_statusMessage_b75 : Fld Z h75 b75 "com/example/vendsettle/vendsettle/Processor$Status" "statusMessage" "Ljava/lang/String;" .null := D75 (Or.inr (hw _ (List.mem_of_getElem? (i := 48) rfl))) (ty := (.object "java/lang/String")) (by decide)
        have F_reason_b75 : Fld Z h75 b75 "com/example/vendsettle/vendsettle/Processor$Status" "reason" "Lcom/example/vendsettle/vendsettle/Processor$Reason;" .null := D75 (Or.inr (hw _ (List.mem_of_getElem? (i := 50) rfl))) (ty := (.object "com/example/vendsettle/vendsettle/Processor$Reason")) (by decide)
        obtain ⟨_, T80, Lc80, X80, hQ80, st80⟩ := own_callI X75 hx hZ (y := (⟨"com/example/vendsettle/vendsettle/Processor$Status", "<init>", "(ILjava/lang/String;Lcom/example/vendsettle/vendsettle/Processor$Reason;)V"⟩ : MethodName)) rfl hown (hw _ (List.mem_of_getElem? (i := 36) rfl)) (hw _ (List.mem_of_getElem? (i := 37) rfl)) (hw _ (List.mem_of_getElem? (i := 35) rfl)) (hw _ (List.mem_of_getElem? (i := 38) rfl)) (by decide) (W := 1) (a := b75) (argsL := [(.int (0 : Int32)), (.ref b57), (.ref w2)]) (rest := [(.ref b75)]) (rm6r l Z a0 hw [] b75 (0 : Int32) b57 w2 h75 n0 zs79 A75 F_errorCode_b75 F_statusMessage_b75 F_reason_b75 g_b75) (by decide) (by decide) (c' := 7) (s' := 15) rfl rfl (by decide) (by decide) e75 (g := (mkF m 60 #[.val (.int p1), .val (.int p2), .val (.int p3), .val (.int p4), .val (.int (0 : Int32)), .val (.int ((p4 &&& (2147483647 : Int32)) % (3 : Int32))), .val (.int (0 : Int32)), .val (.ref b57), .val (.ref w2), .unset, .unset] [(.ref w2), (.ref b57), (.int (0 : Int32)), (.ref b75), (.ref b75)])) rfl (by rw [hml]; rfl) (lenOf pd_0_5 rfl) rfl (by show 2 * 0 + _ ≤ _; exact Nat.le_of_eq rfl) (hb hby at_60)
        obtain ⟨rfl, N80q, K80, Ec80_a1, Fc80_a1_errorCode, Fc80_a1_statusMessage, Fc80_a1_reason⟩ := hQ80
        have N80 := Fr.app N60 N80q
        have zk81 : T57.heap.size ≤ T80.heap.size := Nat.le_trans zk78 K80.1
        have zs82 : n0 ≤ T80.heap.size := Nat.le_trans zs79 K80.1
        obtain ⟨_, T83, Lc83, X83, hQ83, st83⟩ := own_callV X80 hx hZ (y := (⟨"com/example/vendsettle/vendsettle/Processor$Status", "isSuccess", "()Z"⟩ : MethodName)) hown (hw _ (List.mem_of_getElem? (i := 51) rfl)) (hw _ (List.mem_of_getElem? (i := 52) rfl)) (hw _ (List.mem_of_getElem? (i := 54) rfl)) (hw _ (List.mem_of_getElem? (i := 53) rfl)) (hw _ (List.mem_of_getElem? (i := 35) rfl)) (hw _ (List.mem_of_getElem? (i := 55) rfl)) (by decide) (W := 0) Ec80_a1 (argsL := []) (rest := []) (rm8 l Z a0 hw [] b75 (0 : Int32) T80.heap n0 zs82 Ec80_a1 Fc80_a1_errorCode) (by decide) (by decide) (c' := 7) (s' := 15) rfl rfl (by decide) (by decide) rfl (g := (mkF m 92 #[.val (.int p1), .val (.int p2), .val (.int p3), .val (.int p4), .val (.int (0 : Int32)), .val (.int ((p4 &&& (2147483647 : Int32)) % (3 : Int32))), .val (.int (0 : Int32)), .val (.ref b57), .val (.ref w2), .val (.ref b75), .val (.int (1 : Int32))] [(.ref b75)])) rfl (by rw [hml]; rfl) (lenOf pd_0_6 rfl) rfl (by show 2 * 0 + _ ≤ _; exact Nat.le_of_eq rfl) (hb hby at_92)
        obtain ⟨hv83, N83q, e83⟩ := hQ83
        have N83 := Fr.app N80 N83q
        rw [f8, if_pos (by decide : (0 : Int32) = (0 : Int32))] at hv83
        subst hv83
        obtain ⟨fs, hr, hrun, hended, hRW⟩ := X83.leaveW (s := s) hS57 (by rw [e83]; exact zk81) (v := some (.int (1 : Int32))) (fun h => by rw [Bd.returns] at h; cases h)
        refine ⟨_, _, pre63 _ ?_, hrun, hended, _, _, rfl, ?_, ⟨_, rfl⟩, hRW.2.1, hRW.2.2.1, hRW.2.2.2.mono (by decide) (by decide)⟩
        · refine st60 _ ?_
          show Steps p.tables e below (T60.setTop (mkF m 48 #[.val (.int p1), .val (.int p2), .val (.int p3), .val (.int p4), .val (.int (0 : Int32)), .val (.int ((p4 &&& (2147483647 : Int32)) % (3 : Int32))), .val (.int (0 : Int32)), .val (.ref b57), .unset, .unset, .unset] [(.ref w2)])) _
          refine own_blk X60 hx bl0_48_1 (own_hb hby bd0_48_1) (pc' := 50) (Ls' := #[.val (.int p1), .val (.int p2), .val (.int p3), .val (.int p4), .val (.int (0 : Int32)), .val (.int ((p4 &&& (2147483647 : Int32)) % (3 : Int32))), .val (.int (0 : Int32)), .val (.ref b57), .val (.ref w2), .unset, .unset]) (st' := []) rfl ?_
          refine st75 _ ?_
          show Steps p.tables e below (T75.setTop (mkF m 53 #[.val (.int p1), .val (.int p2), .val (.int p3), .val (.int p4), .val (.int (0 : Int32)), .val (.int ((p4 &&& (2147483647 : Int32)) % (3 : Int32))), .val (.int (0 : Int32)), .val (.ref b57), .val (.ref w2), .unset, .unset] [(.ref b75)])) _
          refine own_blk X75 hx bl0_53_4 (own_hb hby bd0_53_4) (pc' := 60) (Ls' := #[.val (.int p1), .val (.int p2), .val (.int p3), .val (.int p4), .val (.int (0 : Int32)), .val (.int ((p4 &&& (2147483647 : Int32)) % (3 : Int32))), .val (.int (0 : Int32)), .val (.ref b57), .val (.ref w2), .unset, .unset]) (st' := [(.ref w2), (.ref b57), (.int (0 : Int32)), (.ref b75), (.ref b75)]) rfl ?_
          refine st80 _ ?_
          show Steps p.tables e below (T80.setTop (mkF m 63 #[.val (.int p1), .val (.int p2), .val (.int p3), .val (.int p4), .val (.int (0 : Int32)), .val (.int ((p4 &&& (2147483647 : Int32)) % (3 : Int32))), .val (.int (0 : Int32)), .val (.ref b57), .val (.ref w2), .unset, .unset] [(.ref b75)])) _
          refine own_blk X80 hx bl0_63_1 (own_hb hby bd0_63_1) (pc' := 65) (Ls' := #[.val (.int p1), .val (.int p2), .val (.int p3), .val (.int p4), .val (.int (0 : Int32)), .val (.int ((p4 &&& (2147483647 : Int32)) % (3 : Int32))), .val (.int (0 : Int32)), .val (.ref b57), .val (.ref w2), .val (.ref b75), .unset]) (st' := []) rfl ?_
          refine own_blk X80 hx bl0_65_1 (own_hb hby bd0_65_1) (pc' := 67) (Ls' := #[.val (.int p1), .val (.int p2), .val (.int p3), .val (.int p4), .val (.int (0 : Int32)), .val (.int ((p4 &&& (2147483647 : Int32)) % (3 : Int32))), .val (.int (0 : Int32)), .val (.ref b57), .val (.ref w2), .val (.ref b75), .unset]) (st' := [(.int (0 : Int32))]) rfl ?_
          refine XS.ifYes X80.here hx rfl (pc0 := 67) (pc' := 76) rfl (hb hby at_67) rfl ((if0 _ _).trans (flt (by decide : ¬ ((0 : Int32) < (0 : Int32)))).2.1) (by decide) (by decide) ?_
          show Steps p.tables e below (T80.setTop (mkF m 76 #[.val (.int p1), .val (.int p2), .val (.int p3), .val (.int p4), .val (.int (0 : Int32)), .val (.int ((p4 &&& (2147483647 : Int32)) % (3 : Int32))), .val (.int (0 : Int32)), .val (.ref b57), .val (.ref w2), .val (.ref b75), .unset] [])) _
          refine own_blk X80 hx bl0_76_1 (own_hb hby bd0_76_1) (pc' := 78) (Ls' := #[.val (.int p1), .val (.int p2), .val (.int p3), .val (.int p4), .val (.int (0 : Int32)), .val (.int ((p4 &&& (2147483647 : Int32)) % (3 : Int32))), .val (.int (0 : Int32)), .val (.ref b57), .val (.ref w2), .val (.ref b75), .unset]) (st' := [(.int (0 : Int32))]) rfl ?_
          refine XS.ifYes X80.here hx rfl (pc0 := 78) (pc' := 87) rfl (hb hby at_78) rfl ((if0 _ _).trans (flt (by decide : ¬ ((0 : Int32) < (0 : Int32)))).2.2.2) (by decide) (by decide) ?_
          show Steps p.tables e below (T80.setTop (mkF m 87 #[.val (.int p1), .val (.int p2), .val (.int p3), .val (.int p4), .val (.int (0 : Int32)), .val (.int ((p4 &&& (2147483647 : Int32)) % (3 : Int32))), .val (.int (0 : Int32)), .val (.ref b57), .val (.ref w2), .val (.ref b75), .unset] [])) _
          refine own_blk X80 hx bl0_87_2 (own_hb hby bd0_87_2) (pc' := 90) (Ls' := #[.val (.int p1), .val (.int p2), .val (.int p3), .val (.int p4), .val (.int (0 : Int32)), .val (.int ((p4 &&& (2147483647 : Int32)) % (3 : Int32))), .val (.int (0 : Int32)), .val (.ref b57), .val (.ref w2), .val (.ref b75), .val (.int (1 : Int32))]) (st' := []) rfl ?_
          refine own_blk X80 hx bl0_90_1 (own_hb hby bd0_90_1) (pc' := 92) (Ls' := #[.val (.int p1), .val (.int p2), .val (.int p3), .val (.int p4), .val (.int (0 : Int32)), .val (.int ((p4 &&& (2147483647 : Int32)) % (3 : Int32))), .val (.int (0 : Int32)), .val (.ref b57), .val (.ref w2), .val (.ref b75), .val (.int (1 : Int32))]) (st' := [(.ref b75)]) rfl ?_
          refine st83 _ ?_
          show Steps p.tables e below (T83.setTop (mkF m 95 #[.val (.int p1), .val (.int p2), .val (.int p3), .val (.int p4), .val (.int (0 : Int32)), .val (.int ((p4 &&& (2147483647 : Int32)) % (3 : Int32))), .val (.int (0 : Int32)), .val (.ref b57), .val (.ref w2), .val (.ref b75), .val (.int (1 : Int32))] [(.int (1 : Int32))])) _
          refine own_blk X83 hx bl0_95_1 (own_hb hby bd0_95_1) (pc' := 97) (Ls' := #[.val (.int p1), .val (.int p2), .val (.int p3), .val (.int p4), .val (.int (0 : Int32)), .val (.int ((p4 &&& (2147483647 : Int32)) % (3 : Int32))), .val (.int (0 : Int32)), .val (.ref b57), .val (.ref w2), .val (.ref b75), .val (.int (1 : Int32))]) (st' := [(.int (1 : Int32)), (.int (1 : Int32))]) rfl ?_
          refine XS.icmpNo X83.here hx rfl (hb hby at_97) rfl (teq (by decide : (1 : Int32) = (1 : Int32))).2 ?_
          show Steps p.tables e below (T83.setTop (mkF m 100 #[.val (.int p1), .val (.int p2), .val (.int p3), .val (.int p4), .val (.int (0 : Int32)), .val (.int ((p4 &&& (2147483647 : Int32)) % (3 : Int32))), .val (.int (0 : Int32)), .val (.ref b57), .val (.ref w2), .val (.ref b75), .val (.int (1 : Int32))] [])) _
          refine own_blk X83 hx bl0_100_2 (own_hb hby bd0_100_2) (pc' := 105) (Ls' := #[.val (.int p1), .val (.int p2), .val (.int p3), .val (.int p4), .val (.int (0 : Int32)), .val (.int ((p4 &&& (2147483647 : Int32)) % (3 : Int32))), .val (.int (0 : Int32)), .val (.ref b57), .val (.ref w2), .val (.ref b75), .val (.int (1 : Int32))]) (st' := [(.int (1 : Int32))]) rfl ?_
          exact retN X83 hx (t := .boolean) Bd.returns (by simp) (hb hby at_105) hr
        · show Q0_0 Z p1 p2 p3 p4 w1 w2 h0 n0 _ T83.heap _
          rw [e83]
          exact ⟨by rw [f0_0, if_neg hc2, if_neg hc64, if_pos hc74], N83⟩
      · rw [f5, if_neg hc64, if_neg hc74] at hv60
        subst hv60
        obtain ⟨T84, h84, X84, e84, E84, A84, D84, -, st84⟩ := newO X60 hx hZ hown (hw _ (List.mem_of_getElem? (i := 33) rfl)) (hw _ (List.mem_of_getElem? (i := 34) rfl)) (hw _ (List.mem_of_getElem? (i := 35) rfl)) e60 (g := (mkF m 50 #[.val (.int p1), .val (.int p2), .val (.int p3), .val (.int p4), .val (.int (0 : Int32)), .val (.int ((p4 &&& (2147483647 : Int32)) % (3 : Int32))), .val (.int (0 : Int32)), .val (.ref b57), .val .null, .unset, .unset] [])) rfl (hb hby at_50) (by decide) (by decide)
        obtain ⟨b84, g84⟩ : ∃ z, z = T57.heap.size := ⟨_, rfl⟩
        rw [← g84] at A84 D84 st84
        have fa85 : Exa Z T57.heap w1 "com/example/vendsettle/vendsettle/Processor$Reason" := (E_w1.keep K57)
        have ne_w1_b84 : w1 ≠ b84 := Nat.ne_of_lt (Nat.lt_of_lt_of_le fa85.lt (Nat.le_of_eq g84.symm))
        have fa86 : Exa Z T57.heap w2 "com/example/vendsettle/vendsettle/Processor$Reason" := (E_w2.keep K57)
        have ne_w2_b84 : w2 ≠ b84 := Nat.ne_of_lt (Nat.lt_of_lt_of_le fa86.lt (Nat.le_of_eq g84.symm))
        have g_b84 : n0 ≤ b84 := Nat.le_trans zs59 (Nat.le_of_eq g84.symm)
        have zk87 : T57.heap.size ≤ h84.size := Nat.le_trans (Nat.le_refl _) E84.1
        have zs88 : n0 ≤ h84.size := Nat.le_trans zs59 E84.1
        have F_errorCode_b84 : Fld Z h84 b84 "com/example/vendsettle/vendsettle/Processor$Status" "errorCode" "I" (.int (0 : Int32)) := D84 (Or.inr (hw _ (List.mem_of_getElem? (i := 46) rfl))) (ty := .int) (by decide)
        have F_statusMessage_b84 : Fld Z h84 b84 "com/example/vendsettle/vendsettle/Processor$Status" "statusMessage" "Ljava/lang/String;" .null := D84 (Or.inr (hw _ (List.mem_of_getElem? (i := 48) rfl))) (ty := (.object "java/lang/String")) (by decide)
        have F_reason_b84 : Fld Z h84 b84 "com/example/vendsettle/vendsettle/Processor$Status" "reason" "Lcom/example/vendsettle/vendsettle/Processor$Reason;" .null := D84 (Or.inr (hw _ (List.mem_of_getElem? (i := 50) rfl))) (ty := (.object "com/example/vendsettle/vendsettle/Processor$Reason")) (by decide)
        obtain ⟨_, T89, Lc89, X89, hQ89, st89⟩ := own_callI X84 hx hZ (y := (⟨"com/example/vendsettle/vendsettle/Processor$Status", "<init>", "(ILjava/lang/String;Lcom/example/vendsettle/vendsettle/Processor$Reason;)V"⟩ : MethodName)) rfl hown (hw _ (List.mem_of_getElem? (i := 36) rfl)) (hw _ (List.mem_of_getElem? (i := 37) rfl)) (hw _ (List.mem_of_getElem? (i := 35) rfl)) (hw _ (List.mem_of_getElem? (i := 38) rfl)) (by decide) (W := 1) (a := b84) (argsL := [(.int (0 : Int32)), (.ref b57), .null]) (rest := [(.ref b84)]) (rm6z l Z a0 hw [] b84 (0 : Int32) b57 h84 n0 zs88 A84 F_errorCode_b84 F_statusMessage_b84 F_reason_b84 g_b84) (by decide) (by decide) (c' := 7) (s' := 15) rfl rfl (by decide) (by decide) e84 (g := (mkF m 60 #[.val (.int p1), .val (.int p2), .val (.int p3), .val (.int p4), .val (.int (0 : Int32)), .val (.int ((p4 &&& (2147483647 : Int32)) % (3 : Int32))), .val (.int (0 : Int32)), .val (.ref b57), .val .null, .unset, .unset] [.null, (.ref b57), (.int (0 : Int32)), (.ref b84), (.ref b84)])) rfl (by rw [hml]; rfl) (lenOf pd_0_5 rfl) rfl (by show 2 * 0 + _ ≤ _; exact Nat.le_of_eq rfl) (hb hby at_60)
        obtain ⟨rfl, N89q, K89, Ec89_a1, Fc89_a1_errorCode, Fc89_a1_statusMessage, Fc89_a1_reason⟩ := hQ89
        have N89 := Fr.app N60 N89q
        have zk90 : T57.heap.size ≤ T89.heap.size := Nat.le_trans zk87 K89.1
        have zs91 : n0 ≤ T89.heap.size := Nat.le_trans zs88 K89.1
        obtain ⟨_, T92, Lc92, X92, hQ92, st92⟩ := own_callV X89 hx hZ (y := (⟨"com/example/vendsettle/vendsettle/Processor$Status", "isSuccess", "()Z"⟩ : MethodName)) hown (hw _ (List.mem_of_getElem? (i := 51) rfl)) (hw _ (List.mem_of_getElem? (i := 52) rfl)) (hw _ (List.mem_of_getElem? (i := 54) rfl)) (hw _ (List.mem_of_getElem? (i := 53) rfl)) (hw _ (List.mem_of_getElem? (i := 35) rfl)) (hw _ (List.mem_of_getElem? (i := 55) rfl)) (by decide) (W := 0) Ec89_a1 (argsL := []) (rest := []) (rm8 l Z a0 hw [] b84 (0 : Int32) T89.heap n0 zs91 Ec89_a1 Fc89_a1_errorCode) (by decide) (by decide) (c' := 7) (s' := 15) rfl rfl (by decide) (by decide) rfl (g := (mkF m 92 #[.val (.int p1), .val (.int p2), .val (.int p3), .val (.int p4), .val (.int (0 : Int32)), .val (.int ((p4 &&& (2147483647 : Int32)) % (3 : Int32))), .val (.int (0 : Int32)), .val (.ref b57), .val .null, .val (.ref b84), .val (.int (1 : Int32))] [(.ref b84)])) rfl (by rw [hml]; rfl) (lenOf pd_0_6 rfl) rfl (by show 2 * 0 + _ ≤ _; exact Nat.le_of_eq rfl) (hb hby at_92)
        obtain ⟨hv92, N92q, e92⟩ := hQ92
        have N92 := Fr.app N89 N92q
        rw [f8, if_pos (by decide : (0 : Int32) = (0 : Int32))] at hv92
        subst hv92
        obtain ⟨fs, hr, hrun, hended, hRW⟩ := X92.leaveW (s := s) hS57 (by rw [e92]; exact zk90) (v := some (.int (1 : Int32))) (fun h => by rw [Bd.returns] at h; cases h)
        refine ⟨_, _, pre63 _ ?_, hrun, hended, _, _, rfl, ?_, ⟨_, rfl⟩, hRW.2.1, hRW.2.2.1, hRW.2.2.2.mono (by decide) (by decide)⟩
        · refine st60 _ ?_
          show Steps p.tables e below (T60.setTop (mkF m 48 #[.val (.int p1), .val (.int p2), .val (.int p3), .val (.int p4), .val (.int (0 : Int32)), .val (.int ((p4 &&& (2147483647 : Int32)) % (3 : Int32))), .val (.int (0 : Int32)), .val (.ref b57), .unset, .unset, .unset] [.null])) _
          refine XS.astore X60.here hx rfl (hb hby at_48) rfl rfl (l' := #[.val (.int p1), .val (.int p2), .val (.int p3), .val (.int p4), .val (.int (0 : Int32)), .val (.int ((p4 &&& (2147483647 : Int32)) % (3 : Int32))), .val (.int (0 : Int32)), .val (.ref b57), .val .null, .unset, .unset]) rfl ?_
          show Steps p.tables e below (T60.setTop (mkF m 50 #[.val (.int p1), .val (.int p2), .val (.int p3), .val (.int p4), .val (.int (0 : Int32)), .val (.int ((p4 &&& (2147483647 : Int32)) % (3 : Int32))), .val (.int (0 : Int32)), .val (.ref b57), .val .null, .unset, .unset] [])) _
          refine st84 _ ?_
          show Steps p.tables e below (T84.setTop (mkF m 53 #[.val (.int p1), .val (.int p2), .val (.int p3), .val (.int p4), .val (.int (0 : Int32)), .val (.int ((p4 &&& (2147483647 : Int32)) % (3 : Int32))), .val (.int (0 : Int32)), .val (.ref b57), .val .null, .unset, .unset] [(.ref b84)])) _
          refine own_blk X84 hx bl0_53_4 (own_hb hby bd0_53_4) (pc' := 60) (Ls' := #[.val (.int p1), .val (.int p2), .val (.int p3), .val (.int p4), .val (.int (0 : Int32)), .val (.int ((p4 &&& (2147483647 : Int32)) % (3 : Int32))), .val (.int (0 : Int32)), .val (.ref b57), .val .null, .unset, .unset]) (st' := [.null, (.ref b57), (.int (0 : Int32)), (.ref b84), (.ref b84)]) rfl ?_
          refine st89 _ ?_
          show Steps p.tables e below (T89.setTop (mkF m 63 #[.val (.int p1), .val (.int p2), .val (.int p3), .val (.int p4), .val (.int (0 : Int32)), .val (.int ((p4 &&& (2147483647 : Int32)) % (3 : Int32))), .val (.int (0 : Int32)), .val (.ref b57), .val .null, .unset, .unset] [(.ref b84)])) _
          refine own_blk X89 hx bl0_63_1 (own_hb hby bd0_63_1) (pc' := 65) (Ls' := #[.val (.int p1), .val (.int p2), .val (.int p3), .val (.int p4), .val (.int (0 : Int32)), .val (.int ((p4 &&& (2147483647 : Int32)) % (3 : Int32))), .val (.int (0 : Int32)), .val (.ref b57), .val .null, .val (.ref b84), .unset]) (st' := []) rfl ?_
          refine own_blk X89 hx bl0_65_1 (own_hb hby bd0_65_1) (pc' := 67) (Ls' := #[.val (.int p1), .val (.int p2), .val (.int p3), .val (.int p4), .val (.int (0 : Int32)), .val (.int ((p4 &&& (2147483647 : Int32)) % (3 : Int32))), .val (.int (0 : Int32)), .val (.ref b57), .val .null, .val (.ref b84), .unset]) (st' := [(.int (0 : Int32))]) rfl ?_
          refine XS.ifYes X89.here hx rfl (pc0 := 67) (pc' := 76) rfl (hb hby at_67) rfl ((if0 _ _).trans (flt (by decide : ¬ ((0 : Int32) < (0 : Int32)))).2.1) (by decide) (by decide) ?_
          show Steps p.tables e below (T89.setTop (mkF m 76 #[.val (.int p1), .val (.int p2), .val (.int p3), .val (.int p4), .val (.int (0 : Int32)), .val (.int ((p4 &&& (2147483647 : Int32)) % (3 : Int32))), .val (.int (0 : Int32)), .val (.ref b57), .val .null, .val (.ref b84), .unset] [])) _
          refine own_blk X89 hx bl0_76_1 (own_hb hby bd0_76_1) (pc' := 78) (Ls' := #[.val (.int p1), .val (.int p2), .val (.int p3), .val (.int p4), .val (.int (0 : Int32)), .val (.int ((p4 &&& (2147483647 : Int32)) % (3 : Int32))), .val (.int (0 : Int32)), .val (.ref b57), .val .null, .val (.ref b84), .unset]) (st' := [(.int (0 : Int32))]) rfl ?_
          refine XS.ifYes X89.here hx rfl (pc0 := 78) (pc' := 87) rfl (hb hby at_78) rfl ((if0 _ _).trans (flt (by decide : ¬ ((0 : Int32) < (0 : Int32)))).2.2.2) (by decide) (by decide) ?_
          show Steps p.tables e below (T89.setTop (mkF m 87 #[.val (.int p1), .val (.int p2), .val (.int p3), .val (.int p4), .val (.int (0 : Int32)), .val (.int ((p4 &&& (2147483647 : Int32)) % (3 : Int32))), .val (.int (0 : Int32)), .val (.ref b57), .val .null, .val (.ref b84), .unset] [])) _
          refine own_blk X89 hx bl0_87_2 (own_hb hby bd0_87_2) (pc' := 90) (Ls' := #[.val (.int p1), .val (.int p2), .val (.int p3), .val (.int p4), .val (.int (0 : Int32)), .val (.int ((p4 &&& (2147483647 : Int32)) % (3 : Int32))), .val (.int (0 : Int32)), .val (.ref b57), .val .null, .val (.ref b84), .val (.int (1 : Int32))]) (st' := []) rfl ?_
          refine own_blk X89 hx bl0_90_1 (own_hb hby bd0_90_1) (pc' := 92) (Ls' := #[.val (.int p1), .val (.int p2), .val (.int p3), .val (.int p4), .val (.int (0 : Int32)), .val (.int ((p4 &&& (2147483647 : Int32)) % (3 : Int32))), .val (.int (0 : Int32)), .val (.ref b57), .val .null, .val (.ref b84), .val (.int (1 : Int32))]) (st' := [(.ref b84)]) rfl ?_
          refine st92 _ ?_
          show Steps p.tables e below (T92.setTop (mkF m 95 #[.val (.int p1), .val (.int p2), .val (.int p3), .val (.int p4), .val (.int (0 : Int32)), .val (.int ((p4 &&& (2147483647 : Int32)) % (3 : Int32))), .val (.int (0 : Int32)), .val (.ref b57), .val .null, .val (.ref b84), .val (.int (1 : Int32))] [(.int (1 : Int32))])) _
          refine own_blk X92 hx bl0_95_1 (own_hb hby bd0_95_1) (pc' := 97) (Ls' := #[.val (.int p1), .val (.int p2), .val (.int p3), .val (.int p4), .val (.int (0 : Int32)), .val (.int ((p4 &&& (2147483647 : Int32)) % (3 : Int32))), .val (.int (0 : Int32)), .val (.ref b57), .val .null, .val (.ref b84), .val (.int (1 : Int32))]) (st' := [(.int (1 : Int32)), (.int (1 : Int32))]) rfl ?_
          refine XS.icmpNo X92.here hx rfl (hb hby at_97) rfl (teq (by decide : (1 : Int32) = (1 : Int32))).2 ?_
          show Steps p.tables e below (T92.setTop (mkF m 100 #[.val (.int p1), .val (.int p2), .val (.int p3), .val (.int p4), .val (.int (0 : Int32)), .val (.int ((p4 &&& (2147483647 : Int32)) % (3 : Int32))), .val (.int (0 : Int32)), .val (.ref b57), .val .null, .val (.ref b84), .val (.int (1 : Int32))] [])) _
          refine own_blk X92 hx bl0_100_2 (own_hb hby bd0_100_2) (pc' := 105) (Ls' := #[.val (.int p1), .val (.int p2), .val (.int p3), .val (.int p4), .val (.int (0 : Int32)), .val (.int ((p4 &&& (2147483647 : Int32)) % (3 : Int32))), .val (.int (0 : Int32)), .val (.ref b57), .val .null, .val (.ref b84), .val (.int (1 : Int32))]) (st' := [(.int (1 : Int32))]) rfl ?_
          exact retN X92 hx (t := .boolean) Bd.returns (by simp) (hb hby at_105) hr
        · show Q0_0 Z p1 p2 p3 p4 w1 w2 h0 n0 _ T92.heap _
          rw [e92]
          exact ⟨by rw [f0_0, if_neg hc2, if_neg hc64, if_neg hc74], N92⟩

def f0_1 (p1 : Int32) (p2 : Int32) (p3 : Int32) (p4 : Int32) (wz : Int32) : Int32 := (if ((p4 >>> ((4 : Int32) &&& 31)) &&& (1 : Int32)) = (0 : Int32) then (if ((p4 &&& (2147483647 : Int32)) % (3 : Int32)) = (1 : Int32) then (if p1 < (0 : Int32) then (1 : Int32) else (if (0 : Int32) < p1 then (1 : Int32) else (1 : Int32))) else (if ((p4 &&& (2147483647 : Int32)) % (3 : Int32)) = (2 : Int32) then (if p1 < (0 : Int32) then (1 : Int32) else (if (0 : Int32) < p1 then (1 : Int32) else (1 : Int32))) else (if p1 < (0 : Int32) then (1 : Int32) else (if (0 : Int32) < p1 then (1 : Int32) else (1 : Int32))))) else (if ((p4 &&& (2147483647 : Int32)) % (3 : Int32)) = (1 : Int32) then (1 : Int32) else (if ((p4 &&& (2147483647 : Int32)) % (3 : Int32)) = (2 : Int32) then (1 : Int32) else (1 : Int32))))
def Q0_1 (Z : State) (p1 : Int32) (p2 : Int32) (p3 : Int32) (p4 : Int32) (w1 : Addr) (w2 : Addr) (wz : Int32) (h0 : Heap) (n0 : Nat) (v : Option Value) (h : Heap) (L : List Loc) : Prop := v = some (.int (f0_1 p1 p2 p3 p4 wz)) ∧ Fr n0 L
set_option maxRecDepth 65536 in
set_option maxHeartbeats 40000000 in
theorem rm0_1 (l : Launch) (Z : State) (a0 : Array Value) (hw : ∀ d ∈ tables_1, d.before a0 Z = true) (ws : List Jvm.Cond) (p1 : Int32) (p2 : Int32) (p3 : Int32) (p4 : Int32) (w1 : Addr) (w2 : Addr) (wz : Int32) (h0 : Heap) (n0 : Nat) (Z0 : n0 ≤ h0.size) (E_w1 : Exa Z h0 w1 "com/example/vendsettle/vendsettle/Processor$Reason") (E_w2 : Exa Z h0 w2 "com/example/vendsettle/vendsettle/Processor$Reason") (S_ALREADY_COMPLETED : Sta Z h0 "com/example/vendsettle/vendsettle/Processor$Reason" "ALREADY_COMPLETED" "Lcom/example/vendsettle/vendsettle/Processor$Reason;" (.ref w1)) (S_NOT_FOUND : Sta Z h0 "com/example/vendsettle/vendsettle/Processor$Reason" "NOT_FOUND" "Lcom/example/vendsettle/vendsettle/Processor$Reason;" (.ref w2)) (S_COMPACT_STRINGS : Sta Z h0 "java/lang/String" "COMPACT_STRINGS" "Z" (.int wz)) (hn : (((p4 >>> ((8 : Int32) &&& 31)) &&& (2147483647 : Int32)) % (3 : Int32)) = (1 : Int32)) (hwz : ¬ wz = 0) :
    MetFree l x (head1 (Jvm.Cond.code x code maxLocals ret :: ws) room_1) (fun a U => a = #[(.int p1), (.int p2), (.int p3), (.int p4)] ∧ Z.Warmed39 U.vm ∧ U.heap = h0) (fun _ _ _ _ _ => True) (fun _ U o U' => ∃ v L, o = .returned v ∧ Q0_1 Z p1 p2 p3 p4 w1 w2 wz h0 n0 v U'.heap L ∧ ReturnedEndW U o U' L room_1.cells room_1.slots) := by
  refine MetFree.of_bodySF (plainFor_of_name pn_0) hisR ?_
  intro p e s m args below meth c s₁ Bd hml0 hP hK
  obtain ⟨rfl, hZ, hh⟩ := hP
  have hx := Bd.exec
  have hby := Bd.bytes
  have hml : c.maxLocals = 11 := hml0
  have hown : s.vm.findClass "com/example/vendsettle/vendsettle/StatusIsSuccessPinLaw" = some m.cls := findClass_of_methodNamed Bd.named
  have hnm := (name_of_methodNamed Bd.named Bd.method).1
  have X0 : Stand p l e room_1 s m #[(.int p1), (.int p2), (.int p3), (.int p4)] below meth c s₁ [] 0 0 := Stand.of_body Bd
  have e0 : s₁.heap = h0 := by rw [← hh, Bd.state]; rfl
  have N0 := Fr.nil n0
  have pre0 : ∀ t, Steps p.tables e below (s₁.setTop (mkF m 0 #[.val (.int p1), .val (.int p2), .val (.int p3), .val (.int p4), .unset, .unset, .unset, .unset, .unset, .unset, .unset] [])) t → Steps p.tables e below (s₁.setTop (entryFrame m #[(.int p1), (.int p2), (.int p3), (.int p4)] maxLocals)) t := fun t k => castTop (ef_0 m p1 p2 p3 p4) k
  have pre1 : ∀ t, Steps p.tables e below (s₁.setTop (mkF m 5 #[.val (.int p1), .val (.int p2), .val (.int p3), .val (.int p4), .unset, .unset, .unset, .unset, .unset, .unset, .unset] [(.int ((p4 >>> ((4 : Int32) &&& 31)) &&& (1 : Int32)))])) t → Steps p.tables e below (s₁.setTop (entryFrame m #[(.int p1), (.int p2), (.int p3), (.int p4)] maxLocals)) t := fun t kt => by
    refine pre0 _ ?_
    show Steps p.tables e below (s₁.setTop (mkF m 0 #[.val (.int p1), .val (.int p2), .val (.int p3), .val (.int p4), .unset, .unset, .unset, .unset, .unset, .unset, .unset] [])) _
    refine own_blk X0 hx bl0_0_5 (own_hb hby bd0_0_5) (pc' := 5) (Ls' := #[.val (.int p1), .val (.int p2), .val (.int p3), .val (.int p4), .unset, .unset, .unset, .unset, .unset, .unset, .unset]) (st' := [(.int ((p4 >>> ((4 : Int32) &&& 31)) &&& (1 : Int32)))]) rfl ?_
    exact kt
  by_cases hc2 : ((p4 >>> ((4 : Int32) &&& 31)) &&& (1 : Int32)) = (0 : Int32)
  · obtain ⟨_, T3, Lc3, X3, hQ3, st3⟩ := own_callS X0 hx hZ (y := (⟨"com/example/vendsettle/vendsettle/StatusIsSuccessPinLaw", "messageOf", "(III)Ljava/lang/String;"⟩ : MethodName)) hown (hw _ (List.mem_of_getElem? (i := 1) rfl)) (hw _ (List.mem_of_getElem? (i := 2) rfl)) (hw _ (List.mem_of_getElem? (i := 3) rfl)) (hw _ (List.mem_of_getElem? (i := 4) rfl)) (by decide) (W := 0) (argsL := [(.int (1 : Int32)), (.int p2), (.int p3)]) (rest := []) (rm1_1 l Z a0 hw [] p2 p3 wz h0 n0 Z0 S_COMPACT_STRINGS hwz) (by decide) (by decide) (c' := 3) (s' := 6) rfl rfl (by decide) (by decide) e0 (g := (mkF m 38 #[.val (.int p1), .val (.int p2), .val (.int p3), .val (.int p4), .val (.int p1), .val (.int ((p4 &&& (2147483647 : Int32)) % (3 : Int32))), .val (.int (1 : Int32)), .unset, .unset, .unset, .unset] [(.int p3), (.int p2), (.int (1 : Int32))])) rfl (by rw [hml]; rfl) (lenOf pd_0_0 rfl) rfl (by show 2 * 0 + _ ≤ _; exact Nat.le_of_eq rfl) (hb hby at_38)
    obtain ⟨b3, rfl, N3q, K3⟩ := hQ3
    have N3 := Fr.app N0 N3q
    have zs4 : n0 ≤ T3.heap.size := Nat.le_trans Z0 K3.1
    have fa6 : Sta Z T3.heap "com/example/vendsettle/vendsettle/Processor$Reason" "ALREADY_COMPLETED" "Lcom/example/vendsettle/vendsettle/Processor$Reason;" (.ref w1) := (own_sta_keep S_ALREADY_COMPLETED K3)
    have fa7 : Sta Z T3.heap "com/example/vendsettle/vendsettle/Processor$Reason" "NOT_FOUND" "Lcom/example/vendsettle/vendsettle/Processor$Reason;" (.ref w2) := (own_sta_keep S_NOT_FOUND K3)
    obtain ⟨_, T5, Lc5, X5, hQ5, st5⟩ := own_callS X3 hx hZ (y := (⟨"com/example/vendsettle/vendsettle/StatusIsSuccessPinLaw", "reasonOf", "(I)Lcom/example/vendsettle/vendsettle/Processor$Reason;"⟩ : MethodName)) hown (hw _ (List.mem_of_getElem? (i := 27) rfl)) (hw _ (List.mem_of_getElem? (i := 28) rfl)) (hw _ (List.mem_of_getElem? (i := 3) rfl)) (hw _ (List.mem_of_getElem? (i := 29) rfl)) (by decide) (W := 0) (argsL := [(.int ((p4 &&& (2147483647 : Int32)) % (3 : Int32)))]) (rest := []) (rm5 l Z a0 hw [] ((p4 &&& (2147483647 : Int32)) % (3 : Int32)) w1 w2 T3.heap n0 zs4 fa6 fa7) (by decide) (by decide) (c' := 3) (s' := 6) rfl rfl (by decide) (by decide) rfl (g := (mkF m 45 #[.val (.int p1), .val (.int p2), .val (.int p3), .val (.int p4), .val (.int p1), .val (.int ((p4 &&& (2147483647 : Int32)) % (3 : Int32))), .val (.int (1 : Int32)), .val (.ref b3), .unset, .unset, .unset] [(.int ((p4 &&& (2147483647 : Int32)) % (3 : Int32)))])) rfl (by rw [hml]; rfl) (lenOf pd_0_4 rfl) rfl (by show 2 * 0 + _ ≤ _; exact Nat.le_of_eq rfl) (hb hby at_45)
    obtain ⟨hv5, N5q, e5⟩ := hQ5
    have N5 := Fr.app N3 N5q
    have pre8 : ∀ t, Steps p.tables e below (T3.setTop (mkF m 45 #[.val (.int p1), .val (.int p2), .val (.int p3), .val (.int p4), .val (.int p1), .val (.int ((p4 &&& (2147483647 : Int32)) % (3 : Int32))), .val (.int (1 : Int32)), .val (.ref b3), .unset, .unset, .unset] [(.int ((p4 &&& (2147483647 : Int32)) % (3 : Int32)))])) t → Steps p.tables e below (s₁.setTop (entryFrame m #[(.int p1), (.int p2), (.int p3), (.int p4)] maxLocals)) t := fun t kt => by
      refine pre1 _ ?_
      show Steps p.tables e below (s₁.setTop (mkF m 5 #[.val (.int p1), .val (.int p2), .val (.int p3), .val (.int p4), .unset, .unset, .unset, .unset, .unset, .unset, .unset] [(.int ((p4 >>> ((4 : Int32) &&& 31)) &&& (1 : Int32)))])) _
      refine XS.ifYes X0.here hx rfl (pc0 := 5) (pc' := 12) rfl (hb hby at_5) rfl ((if0 _ _).trans (teq hc2).1) (by decide) (by decide) ?_
      show Steps p.tables e below (s₁.setTop (mkF m 12 #[.val (.int p1), .val (.int p2), .val (.int p3), .val (.int p4), .unset, .unset, .unset, .unset, .unset, .unset, .unset] [])) _
      refine own_blk X0 hx bl0_12_2 (own_hb hby bd0_12_2) (pc' := 15) (Ls' := #[.val (.int p1), .val (.int p2), .val (.int p3), .val (.int p4), .val (.int p1), .unset, .unset, .unset, .unset, .unset, .unset]) (st' := []) rfl ?_
      refine own_blk X0 hx bl0_15_1 (own_hb hby bd0_15_1) (pc' := 16) (Ls' := #[.val (.int p1), .val (.int p2), .val (.int p3), .val (.int p4), .val (.int p1), .unset, .unset, .unset, .unset, .unset, .unset]) (st' := [(.int p4)]) rfl ?_
      refine X0.ldcInt hx hown (mvT hZ (hw _ (List.mem_of_getElem? (i := 0) rfl))) (g := (mkF m 16 #[.val (.int p1), .val (.int p2), .val (.int p3), .val (.int p4), .val (.int p1), .unset, .unset, .unset, .unset, .unset, .unset] [(.int p4)])) rfl (hb hby at_16) _ ?_
      show Steps p.tables e below (s₁.setTop (mkF m 18 #[.val (.int p1), .val (.int p2), .val (.int p3), .val (.int p4), .val (.int p1), .unset, .unset, .unset, .unset, .unset, .unset] [(.int (2147483647 : Int32)), (.int p4)])) _
      refine own_blk X0 hx bl0_18_2 (own_hb hby bd0_18_2) (pc' := 20) (Ls' := #[.val (.int p1), .val (.int p2), .val (.int p3), .val (.int p4), .val (.int p1), .unset, .unset, .unset, .unset, .unset, .unset]) (st' := [(.int (3 : Int32)), (.int (p4 &&& (2147483647 : Int32)))]) rfl ?_
      refine iremM X0 hx rfl (hb hby at_20) rfl (by decide : ¬ ((3 : Int32) = (0 : Int32))) ?_
      show Steps p.tables e below (s₁.setTop (mkF m 21 #[.val (.int p1), .val (.int p2), .val (.int p3), .val (.int p4), .val (.int p1), .unset, .unset, .unset, .unset, .unset, .unset] [(.int ((p4 &&& (2147483647 : Int32)) % (3 : Int32)))])) _
      refine own_blk X0 hx bl0_21_1 (own_hb hby bd0_21_1) (pc' := 23) (Ls' := #[.val (.int p1), .val (.int p2), .val (.int p3), .val (.int p4), .val (.int p1), .val (.int ((p4 &&& (2147483647 : Int32)) % (3 : Int32))), .unset, .unset, .unset, .unset, .unset]) (st' := []) rfl ?_
      refine own_blk X0 hx bl0_23_3 (own_hb hby bd0_23_3) (pc' := 27) (Ls' := #[.val (.int p1), .val (.int p2), .val (.int p3), .val (.int p4), .val (.int p1), .val (.int ((p4 &&& (2147483647 : Int32)) % (3 : Int32))), .unset, .unset, .unset, .unset, .unset]) (st' := [(.int (p4 >>> ((8 : Int32) &&& 31)))]) rfl ?_
      refine X0.ldcInt hx hown (mvT hZ (hw _ (List.mem_of_getElem? (i := 0) rfl))) (g := (mkF m 27 #[.val (.int p1), .val (.int p2), .val (.int p3), .val (.int p4), .val (.int p1), .val (.int ((p4 &&& (2147483647 : Int32)) % (3 : Int32))), .unset, .unset, .unset, .unset, .unset] [(.int (p4 >>> ((8 : Int32) &&& 31)))])) rfl (hb hby at_27) _ ?_
      show Steps p.tables e below (s₁.setTop (mkF m 29 #[.val (.int p1), .val (.int p2), .val (.int p3), .val (.int p4), .val (.int p1), .val (.int ((p4 &&& (2147483647 : Int32)) % (3 : Int32))), .unset, .unset, .unset, .unset, .unset] [(.int (2147483647 : Int32)), (.int (p4 >>> ((8 : Int32) &&& 31)))])) _
      refine own_blk X0 hx bl0_29_2 (own_hb hby bd0_29_2) (pc' := 31) (Ls' := #[.val (.int p1), .val (.int p2), .val (.int p3), .val (.int p4), .val (.int p1), .val (.int ((p4 &&& (2147483647 : Int32)) % (3 : Int32))), .unset, .unset, .unset, .unset, .unset]) (st' := [(.int (3 : Int32)), (.int ((p4 >>> ((8 : Int32) &&& 31)) &&& (2147483647 : Int32)))]) rfl ?_
      refine iremM X0 hx rfl (hb hby at_31) rfl (by decide : ¬ ((3 : Int32) = (0 : Int32))) ?_
      show Steps p.tables e below (s₁.setTop (mkF m 32 #[.val (.int p1), .val (.int p2), .val (.int p3), .val (.int p4), .val (.int p1), .val (.int ((p4 &&& (2147483647 : Int32)) % (3 : Int32))), .unset, .unset, .unset, .unset, .unset] [(.int (((p4 >>> ((8 : Int32) &&& 31)) &&& (2147483647 : Int32)) % (3 : Int32)))])) _
      rw [hn]
      show Steps p.tables e below (s₁.setTop (mkF m 32 #[.val (.int p1), .val (.int p2), .val (.int p3), .val (.int p4), .val (.int p1), .val (.int ((p4 &&& (2147483647 : Int32)) % (3 : Int32))), .unset, .unset, .unset, .unset, .unset] [(.int (1 : Int32))])) _
      refine own_blk X0 hx bl0_32_1 (own_hb hby bd0_32_1) (pc' := 34) (Ls' := #[.val (.int p1), .val (.int p2), .val (.int p3), .val (.int p4), .val (.int p1), .val (.int ((p4 &&& (2147483647 : Int32)) % (3 : Int32))), .val (.int (1 : Int32)), .unset, .unset, .unset, .unset]) (st' := []) rfl ?_
      refine own_blk X0 hx bl0_34_3 (own_hb hby bd0_34_3) (pc' := 38) (Ls' := #[.val (.int p1), .val (.int p2), .val (.int p3), .val (.int p4), .val (.int p1), .val (.int ((p4 &&& (2147483647 : Int32)) % (3 : Int32))), .val (.int (1 : Int32)), .unset, .unset, .unset, .unset]) (st' := [(.int p3), (.int p2), (.int (1 : Int32))]) rfl ?_
      refine st3 _ ?_
      show Steps p.tables e below (T3.setTop (mkF m 41 #[.val (.int p1), .val (.int p2), .val (.int p3), .val (.int p4), .val (.int p1), .val (.int ((p4 &&& (2147483647 : Int32)) % (3 : Int32))), .val (.int (1 : Int32)), .unset, .unset, .unset, .unset] [(.ref b3)])) _
      refine own_blk X3 hx bl0_41_1 (own_hb hby bd0_41_1) (pc' := 43) (Ls' := #[.val (.int p1), .val (.int p2), .val (.int p3), .val (.int p4), .val (.int p1), .val (.int ((p4 &&& (2147483647 : Int32)) % (3 : Int32))), .val (.int (1 : Int32)), .val (.ref b3), .unset, .unset, .unset]) (st' := []) rfl ?_
      refine own_blk X3 hx bl0_43_1 (own_hb hby bd0_43_1) (pc' := 45) (Ls' := #[.val (.int p1), .val (.int p2), .val (.int p3), .val (.int p4), .val (.int p1), .val (.int ((p4 &&& (2147483647 : Int32)) % (3 : Int32))), .val (.int (1 : Int32)), .val (.ref b3), .unset, .unset, .unset]) (st' := [(.int ((p4 &&& (2147483647 : Int32)) % (3 : Int32)))]) rfl ?_
      exact kt
    by_cases hc9 : ((p4 &&& (2147483647 : Int32)) % (3 : Int32)) = (1 : Int32)
    · rw [f5, if_pos hc9] at hv5
      subst hv5
      obtain ⟨T10, h10, X10, e10, E10, A10, D10, -, st10⟩ := newO X5 hx hZ hown (hw _ (List.mem_of_getElem? (i := 33) rfl)) (hw _ (List.mem_of_getElem? (i := 34) rfl)) (hw _ (List.mem_of_getElem? (i := 35) rfl)) e5 (g := (mkF m 50 #[.val (.int p1), .val (.int p2), .val (.int p3), .val (.int p4), .val (.int p1), .val (.int ((p4 &&& (2147483647 : Int32)) % (3 : Int32))), .val (.int (1 : Int32)), .val (.ref b3), .val (.ref w1), .unset, .unset] [])) rfl (hb hby at_50) (by decide) (by decide)
      obtain ⟨b10, g10⟩ : ∃ z, z = T3.heap.size := ⟨_, rfl⟩
      rw [← g10] at A10 D10 st10
      have fa11 : Exa Z T3.heap w1 "com/example/vendsettle/vendsettle/Processor$Reason" := (E_w1.keep K3)
      have ne_w1_b10 : w1 ≠ b10 := Nat.ne_of_lt (Nat.lt_of_lt_of_le fa11.lt (Nat.le_of_eq g10.symm))
      have fa12 : Exa Z T3.heap w2 "com/example/vendsettle/vendsettle/Processor$Reason" := (E_w2.keep K3)
      have ne_w2_b10 : w2 ≠ b10 := Nat.ne_of_lt (Nat.lt_of_lt_of_le fa12.lt (Nat.le_of_eq g10.symm))
      have g_b10 : n0 ≤ b10 := Nat.le_trans zs4 (Nat.le_of_eq g10.symm)
      have zs13 : n0 ≤ h10.size := Nat.le_trans zs4 E10.1
      have F_errorCode_b10 : Fld Z h10 b10 "com/example/vendsettle/vendsettle/Processor$Status" "errorCode" "I" (.int (0 : Int32)) := D10 (Or.inr (hw _ (List.mem_of_getElem? (i := 46) rfl))) (ty := .int) (by decide)
      have F_statusMessage_b10 : Fld Z h10 b10 "com/example/vendsettle/vendsettle/Processor$Status" "statusMessage" "Ljava/lang/String;" .null := D10 (Or.inr (hw _ (List.mem_of_getElem? (i := 48) rfl))) (ty := (.object "java/lang/String")) (by decide)
      have F_reason_b10 : Fld Z h10 b10 "com/example/vendsettle/vendsettle/Processor$Status" "reason" "Lcom/example/vendsettle/vendsettle/Processor$Reason;" .null := D10 (Or.inr (hw _ (List.mem_of_getElem? (i := 50) rfl))) (ty := (.object "com/example/vendsettle/vendsettle/Processor$Reason")) (by decide)
      obtain ⟨_, T14, Lc14, X14, hQ14, st14⟩ := own_callI X10 hx hZ (y := (⟨"com/example/vendsettle/vendsettle/Processor$Status", "<init>", "(ILjava/lang/String;Lcom/example/vendsettle/vendsettle/Processor$Reason;)V"⟩ : MethodName)) rfl hown (hw _ (List.mem_of_getElem? (i := 36) rfl)) (hw _ (List.mem_of_getElem? (i := 37) rfl)) (hw _ (List.mem_of_getElem? (i := 35) rfl)) (hw _ (List.mem_of_getElem? (i := 38) rfl)) (by decide) (W := 1) (a := b10) (argsL := [(.int p1), (.ref b3), (.ref w1)]) (rest := [(.ref b10)]) (rm6r l Z a0 hw [] b10 p1 b3 w1 h10 n0 zs13 A10 F_errorCode_b10 F_statusMessage_b10 F_reason_b10 g_b10) (by decide) (by decide) (c' := 4) (s' := 9) rfl rfl (by decide) (by decide) e10 (g := (mkF m 60 #[.val (.int p1), .val (.int p2), .val (.int p3), .val (.int p4), .val (.int p1), .val (.int ((p4 &&& (2147483647 : Int32)) % (3 : Int32))), .val (.int (1 : Int32)), .val (.ref b3), .val (.ref w1), .unset, .unset] [(.ref w1), (.ref b3), (.int p1), (.ref b10), (.ref b10)])) rfl (by rw [hml]; rfl) (lenOf pd_0_5 rfl) rfl (by show 2 * 0 + _ ≤ _; exact Nat.le_of_eq rfl) (hb hby at_60)
      obtain ⟨rfl, N14q, K14, Ec14_a1, Fc14_a1_errorCode, Fc14_a1_statusMessage, Fc14_a1_reason⟩ := hQ14
      have N14 := Fr.app N5 N14q
      have zs15 : n0 ≤ T14.heap.size := Nat.le_trans zs13 K14.1
      have pre16 : ∀ t, Steps p.tables e below (T14.setTop (mkF m 67 #[.val (.int p1), .val (.int p2), .val (.int p3), .val (.int p4), .val (.int p1), .val (.int ((p4 &&& (2147483647 : Int32)) % (3 : Int32))), .val (.int (1 : Int32)), .val (.ref b3), .val (.ref w1), .val (.ref b10), .unset] [(.int p1)])) t → Steps p.tables e below (s₁.setTop (entryFrame m #[(.int p1), (.int p2), (.int p3), (.int p4)] maxLocals)) t := fun t kt => by
        refine pre8 _ ?_
        refine st5 _ ?_
        show Steps p.tables e below (T5.setTop (mkF m 48 #[.val (.int p1), .val (.int p2), .val (.int p3), .val (.int p4), .val (.int p1), .val (.int ((p4 &&& (2147483647 : Int32)) % (3 : Int32))), .val (.int (1 : Int32)), .val (.ref b3), .unset, .unset, .unset] [(.ref w1)])) _
        refine own_blk X5 hx bl0_48_1 (own_hb hby bd0_48_1) (pc' := 50) (Ls' := #[.val (.int p1), .val (.int p2), .val (.int p3), .val (.int p4), .val (.int p1), .val (.int ((p4 &&& (2147483647 : Int32)) % (3 : Int32))), .val (.int (1 : Int32)), .val (.ref b3), .val (.ref w1), .unset, .unset]) (st' := []) rfl ?_
        refine st10 _ ?_
        show Steps p.tables e below (T10.setTop (mkF m 53 #[.val (.int p1), .val (.int p2), .val (.int p3), .val (.int p4), .val (.int p1), .val (.int ((p4 &&& (2147483647 : Int32)) % (3 : Int32))), .val (.int (1 : Int32)), .val (.ref b3), .val (.ref w1), .unset, .unset] [(.ref b10)])) _
        refine own_blk X10 hx bl0_53_4 (own_hb hby bd0_53_4) (pc' := 60) (Ls' := #[.val (.int p1), .val (.int p2), .val (.int p3), .val (.int p4), .val (.int p1), .val (.int ((p4 &&& (2147483647 : Int32)) % (3 : Int32))), .val (.int (1 : Int32)), .val (.ref b3), .val (.ref w1), .unset, .unset]) (st' := [(.ref w1), (.ref b3), (.int p1), (.ref b10), (.ref b10)]) rfl ?_
        refine st14 _ ?_
        show Steps p.tables e below (T14.setTop (mkF m 63 #[.val (.int p1), .val (.int p2), .val (.int p3), .val (.int p4), .val (.int p1), .val (.int ((p4 &&& (2147483647 : Int32)) % (3 : Int32))), .val (.int (1 : Int32)), .val (.ref b3), .val (.ref w1), .unset, .unset] [(.ref b10)])) _
        refine own_blk X14 hx bl0_63_1 (own_hb hby bd0_63_1) (pc' := 65) (Ls' := #[.val (.int p1), .val (.int p2), .val (.int p3), .val (.int p4), .val (.int p1), .val (.int ((p4 &&& (2147483647 : Int32)) % (3 : Int32))), .val (.int (1 : Int32)), .val (.ref b3), .val (.ref w1), .val (.ref b10), .unset]) (st' := []) rfl ?_
        refine own_blk X14 hx bl0_65_1 (own_hb hby bd0_65_1) (pc' := 67) (Ls' := #[.val (.int p1), .val (.int p2), .val (.int p3), .val (.int p4), .val (.int p1), .val (.int ((p4 &&& (2147483647 : Int32)) % (3 : Int32))), .val (.int (1 : Int32)), .val (.ref b3), .val (.ref w1), .val (.ref b10), .unset]) (st' := [(.int p1)]) rfl ?_
        exact kt
      by_cases hc17 : p1 < (0 : Int32)
      · obtain ⟨_, T18, Lc18, X18, hQ18, st18⟩ := own_callV X14 hx hZ (y := (⟨"com/example/vendsettle/vendsettle/Processor$Status", "isSuccess", "()Z"⟩ : MethodName)) hown (hw _ (List.mem_of_getElem? (i := 51) rfl)) (hw _ (List.mem_of_getElem? (i := 52) rfl)) (hw _ (List.mem_of_getElem? (i := 54) rfl)) (hw _ (List.mem_of_getElem? (i := 53) rfl)) (hw _ (List.mem_of_getElem? (i := 35) rfl)) (hw _ (List.mem_of_getElem? (i := 55) rfl)) (by decide) (W := 0) Ec14_a1 (argsL := []) (rest := []) (rm8 l Z a0 hw [] b10 p1 T14.heap n0 zs15 Ec14_a1 Fc14_a1_errorCode) (by decide) (by decide) (c' := 4) (s' := 9) rfl rfl (by decide) (by decide) rfl (g := (mkF m 92 #[.val (.int p1), .val (.int p2), .val (.int p3), .val (.int p4), .val (.int p1), .val (.int ((p4 &&& (2147483647 : Int32)) % (3 : Int32))), .val (.int (1 : Int32)), .val (.ref b3), .val (.ref w1), .val (.ref b10), .val (.int (0 : Int32))] [(.ref b10)])) rfl (by rw [hml]; rfl) (lenOf pd_0_6 rfl) rfl (by show 2 * 0 + _ ≤ _; exact Nat.le_of_eq rfl) (hb hby at_92)
        obtain ⟨hv18, N18q, e18⟩ := hQ18
        have N18 := Fr.app N14 N18q
        rw [f8, if_neg (own_ltn hc17)] at hv18
        subst hv18
        have hSz : s.Since s.vm T14.heap.size := (State.WarmedH.refl s).since _
        obtain ⟨fs, hr, hrun, hended, hRW⟩ := X18.leaveW (s := s) hSz (by rw [e18]; exact (Nat.le_refl _)) (v := some (.int (1 : Int32))) (fun h => by rw [Bd.returns] at h; cases h)
        refine ⟨_, _, pre16 _ ?_, hrun, hended, _, _, rfl, ?_, ⟨_, rfl⟩, hRW.2.1, hRW.2.2.1, hRW.2.2.2.mono (by decide) (by decide)⟩
        · show Steps p.tables e below (T14.setTop (mkF m 67 #[.val (.int p1), .val (.int p2), .val (.int p3), .val (.int p4), .val (.int p1), .val (.int ((p4 &&& (2147483647 : Int32)) % (3 : Int32))), .val (.int (1 : Int32)), .val (.ref b3), .val (.ref w1), .val (.ref b10), .unset] [(.int p1)])) _
          refine XS.ifNo X14.here hx rfl (hb hby at_67) rfl ((if0 _ _).trans (tlt hc17).2.1) ?_
          show Steps p.tables e below (T14.setTop (mkF m 70 #[.val (.int p1), .val (.int p2), .val (.int p3), .val (.int p4), .val (.int p1), .val (.int ((p4 &&& (2147483647 : Int32)) % (3 : Int32))), .val (.int (1 : Int32)), .val (.ref b3), .val (.ref w1), .val (.ref b10), .unset] [])) _
          refine own_blk X14 hx bl0_70_2 (own_hb hby bd0_70_2) (pc' := 73) (Ls' := #[.val (.int p1), .val (.int p2), .val (.int p3), .val (.int p4), .val (.int p1), .val (.int ((p4 &&& (2147483647 : Int32)) % (3 : Int32))), .val (.int (1 : Int32)), .val (.ref b3), .val (.ref w1), .val (.ref b10), .val (.int (0 : Int32))]) (st' := []) rfl ?_
          refine own_blk X14 hx bl0_73_2 (own_hb hby bd0_73_2) (pc' := 92) (Ls' := #[.val (.int p1), .val (.int p2), .val (.int p3), .val (.int p4), .val (.int p1), .val (.int ((p4 &&& (2147483647 : Int32)) % (3 : Int32))), .val (.int (1 : Int32)), .val (.ref b3), .val (.ref w1), .val (.ref b10), .val (.int (0 : Int32))]) (st' := [(.ref b10)]) rfl ?_
          refine st18 _ ?_
          show Steps p.tables e below (T18.setTop (mkF m 95 #[.val (.int p1), .val (.int p2), .val (.int p3), .val (.int p4), .val (.int p1), .val (.int ((p4 &&& (2147483647 : Int32)) % (3 : Int32))), .val (.int (1 : Int32)), .val (.ref b3), .val (.ref w1), .val (.ref b10), .val (.int (0 : Int32))] [(.int (0 : Int32))])) _
          refine own_blk X18 hx bl0_95_1 (own_hb hby bd0_95_1) (pc' := 97) (Ls' := #[.val (.int p1), .val (.int p2), .val (.int p3), .val (.int p4), .val (.int p1), .val (.int ((p4 &&& (2147483647 : Int32)) % (3 : Int32))), .val (.int (1 : Int32)), .val (.ref b3), .val (.ref w1), .val (.ref b10), .val (.int (0 : Int32))]) (st' := [(.int (0 : Int32)), (.int (0 : Int32))]) rfl ?_
          refine XS.icmpNo X18.here hx rfl (hb hby at_97) rfl (teq (by decide : (0 : Int32) = (0 : Int32))).2 ?_
          show Steps p.tables e below (T18.setTop (mkF m 100 #[.val (.int p1), .val (.int p2), .val (.int p3), .val (.int p4), .val (.int p1), .val (.int ((p4 &&& (2147483647 : Int32)) % (3 : Int32))), .val (.int (1 : Int32)), .val (.ref b3), .val (.ref w1), .val (.ref b10), .val (.int (0 : Int32))] [])) _
          refine own_blk X18 hx bl0_100_2 (own_hb hby bd0_100_2) (pc' := 105) (Ls' := #[.val (.int p1), .val (.int p2), .val (.int p3), .val (.int p4), .val (.int p1), .val (.int ((p4 &&& (2147483647 : Int32)) % (3 : Int32))), .val (.int (1 : Int32)), .val (.ref b3), .val (.ref w1), .val (.ref b10), .val (.int (0 : Int32))]) (st' := [(.int (1 : Int32))]) rfl ?_
          exact retN X18 hx (t := .boolean) Bd.returns (by simp) (hb hby at_105) hr
        · show Q0_1 Z p1 p2 p3 p4 w1 w2 wz h0 n0 _ T18.heap _
          rw [e18]
          exact ⟨by rw [f0_1, if_pos hc2, if_pos hc9, if_pos hc17], N18⟩
      · have pre19 : ∀ t, Steps p.tables e below (T14.setTop (mkF m 78 #[.val (.int p1), .val (.int p2), .val (.int p3), .val (.int p4), .val (.int p1), .val (.int ((p4 &&& (2147483647 : Int32)) % (3 : Int32))), .val (.int (1 : Int32)), .val (.ref b3), .val (.ref w1), .val (.ref b10), .unset] [(.int p1)])) t → Steps p.tables e below (s₁.setTop (entryFrame m #[(.int p1), (.int p2), (.int p3), (.int p4)] maxLocals)) t := fun t kt => by
          refine pre16 _ ?_
          show Steps p.tables e below (T14.setTop (mkF m 67 #[.val (.int p1), .val (.int p2), .val (.int p3), .val (.int p4), .val (.int p1), .val (.int ((p4 &&& (2147483647 : Int32)) % (3 : Int32))), .val (.int (1 : Int32)), .val (.ref b3), .val (.ref w1), .val (.ref b10), .unset] [(.int p1)])) _
          refine XS.ifYes X14.here hx rfl (pc0 := 67) (pc' := 76) rfl (hb hby at_67) rfl ((if0 _ _).trans (flt hc17).2.1) (by decide) (by decide) ?_
          show Steps p.tables e below (T14.setTop (mkF m 76 #[.val (.int p1), .val (.int p2), .val (.int p3), .val (.int p4), .val (.int p1), .val (.int ((p4 &&& (2147483647 : Int32)) % (3 : Int32))), .val (.int (1 : Int32)), .val (.ref b3), .val (.ref w1), .val (.ref b10), .unset] [])) _
          refine own_blk X14 hx bl0_76_1 (own_hb hby bd0_76_1) (pc' := 78) (Ls' := #[.val (.int p1), .val (.int p2), .val (.int p3), .val (.int p4), .val (.int p1), .val (.int ((p4 &&& (2147483647 : Int32)) % (3 : Int32))), .val (.int (1 : Int32)), .val (.ref b3), .val (.ref w1), .val (.ref b10), .unset]) (st' := [(.int p1)]) rfl ?_
          exact kt
        by_cases hc20 : (0 : Int32) < p1
        · obtain ⟨_, T21, Lc21, X21, hQ21, st21⟩ := own_callV X14 hx hZ (y := (⟨"com/example/vendsettle/vendsettle/Processor$Status", "isSuccess", "()Z"⟩ : MethodName)) hown (hw _ (List.mem_of_getElem? (i := 51) rfl)) (hw _ (List.mem_of_getElem? (i := 52) rfl)) (hw _ (List.mem_of_getElem? (i := 54) rfl)) (hw _ (List.mem_of_getElem? (i := 53) rfl)) (hw _ (List.mem_of_getElem? (i := 35) rfl)) (hw _ (List.mem_of_getElem? (i := 55) rfl)) (by decide) (W := 0) Ec14_a1 (argsL := []) (rest := []) (rm8 l Z a0 hw [] b10 p1 T14.heap n0 zs15 Ec14_a1 Fc14_a1_errorCode) (by decide) (by decide) (c' := 4) (s' := 9) rfl rfl (by decide) (by decide) rfl (g := (mkF m 92 #[.val (.int p1), .val (.int p2), .val (.int p3), .val (.int p4), .val (.int p1), .val (.int ((p4 &&& (2147483647 : Int32)) % (3 : Int32))), .val (.int (1 : Int32)), .val (.ref b3), .val (.ref w1), .val (.ref b10), .val (.int (0 : Int32))] [(.ref b10)])) rfl (by rw [hml]; rfl) (lenOf pd_0_6 rfl) rfl (by show 2 * 0 + _ ≤ _; exact Nat.le_of_eq rfl) (hb hby at_92)
          obtain ⟨hv21, N21q, e21⟩ := hQ21
          have N21 := Fr.app N14 N21q
          rw [f8, if_neg (own_gtn hc20)] at hv21
          subst hv21
          have hSz : s.Since s.vm T14.heap.size := (State.WarmedH.refl s).since _
          obtain ⟨fs, hr, hrun, hended, hRW⟩ := X21.leaveW (s := s) hSz (by rw [e21]; exact (Nat.le_refl _)) (v := some (.int (1 : Int32))) (fun h => by rw [Bd.returns] at h; cases h)
          refine ⟨_, _, pre19 _ ?_, hrun, hended, _, _, rfl, ?_, ⟨_, rfl⟩, hRW.2.1, hRW.2.2.1, hRW.2.2.2.mono (by decide) (by decide)⟩
          · show Steps p.tables e below (T14.setTop (mkF m 78 #[.val (.int p1), .val (.int p2), .val (.int p3), .val (.int p4), .val (.int p1), .val (.int ((p4 &&& (2147483647 : Int32)) % (3 : Int32))), .val (.int (1 : Int32)), .val (.ref b3), .val (.ref w1), .val (.ref b10), .unset] [(.int p1)])) _
            refine XS.ifNo X14.here hx rfl (hb hby at_78) rfl ((if0 _ _).trans (tlt hc20).2.2.2) ?_
            show Steps p.tables e below (T14.setTop (mkF m 81 #[.val (.int p1), .val (.int p2), .val (.int p3), .val (.int p4), .val (.int p1), .val (.int ((p4 &&& (2147483647 : Int32)) % (3 : Int32))), .val (.int (1 : Int32)), .val (.ref b3), .val (.ref w1), .val (.ref b10), .unset] [])) _
            refine own_blk X14 hx bl0_81_2 (own_hb hby bd0_81_2) (pc' := 84) (Ls' := #[.val (.int p1), .val (.int p2), .val (.int p3), .val (.int p4), .val (.int p1), .val (.int ((p4 &&& (2147483647 : Int32)) % (3 : Int32))), .val (.int (1 : Int32)), .val (.ref b3), .val (.ref w1), .val (.ref b10), .val (.int (0 : Int32))]) (st' := []) rfl ?_
            refine own_blk X14 hx bl0_84_2 (own_hb hby bd0_84_2) (pc' := 92) (Ls' := #[.val (.int p1), .val (.int p2), .val (.int p3), .val (.int p4), .val (.int p1), .val (.int ((p4 &&& (2147483647 : Int32)) % (3 : Int32))), .val (.int (1 : Int32)), .val (.ref b3), .val (.ref w1), .val (.ref b10), .val (.int (0 : Int32))]) (st' := [(.ref b10)]) rfl ?_
            refine st21 _ ?_
            show Steps p.tables e below (T21.setTop (mkF m 95 #[.val (.int p1), .val (.int p2), .val (.int p3), .val (.int p4), .val (.int p1), .val (.int ((p4 &&& (2147483647 : Int32)) % (3 : Int32))), .val (.int (1 : Int32)), .val (.ref b3), .val (.ref w1), .val (.ref b10), .val (.int (0 : Int32))] [(.int (0 : Int32))])) _
            refine own_blk X21 hx bl0_95_1 (own_hb hby bd0_95_1) (pc' := 97) (Ls' := #[.val (.int p1), .val (.int p2), .val (.int p3), .val (.int p4), .val (.int p1), .val (.int ((p4 &&& (2147483647 : Int32)) % (3 : Int32))), .val (.int (1 : Int32)), .val (.ref b3), .val (.ref w1), .val (.ref b10), .val (.int (0 : Int32))]) (st' := [(.int (0 : Int32)), (.int (0 : Int32))]) rfl ?_
            refine XS.icmpNo X21.here hx rfl (hb hby at_97) rfl (teq (by decide : (0 : Int32) = (0 : Int32))).2 ?_
            show Steps p.tables e below (T21.setTop (mkF m 100 #[.val (.int p1), .val (.int p2), .val (.int p3), .val (.int p4), .val (.int p1), .val (.int ((p4 &&& (2147483647 : Int32)) % (3 : Int32))), .val (.int (1 : Int32)), .val (.ref b3), .val (.ref w1), .val (.ref b10), .val (.int (0 : Int32))] [])) _
            refine own_blk X21 hx bl0_100_2 (own_hb hby bd0_100_2) (pc' := 105) (Ls' := #[.val (.int p1), .val (.int p2), .val (.int p3), .val (.int p4), .val (.int p1), .val (.int ((p4 &&& (2147483647 : Int32)) % (3 : Int32))), .val (.int (1 : Int32)), .val (.ref b3), .val (.ref w1), .val (.ref b10), .val (.int (0 : Int32))]) (st' := [(.int (1 : Int32))]) rfl ?_
            exact retN X21 hx (t := .boolean) Bd.returns (by simp) (hb hby at_105) hr
          · show Q0_1 Z p1 p2 p3 p4 w1 w2 wz h0 n0 _ T21.heap _
            rw [e21]
            exact ⟨by rw [f0_1, if_pos hc2, if_pos hc9, if_neg hc17, if_pos hc20], N21⟩
        · obtain ⟨_, T22, Lc22, X22, hQ22, st22⟩ := own_callV X14 hx hZ (y := (⟨"com/example/vendsettle/vendsettle/Processor$Status", "isSuccess", "()Z"⟩ : MethodName)) hown (hw _ (List.mem_of_getElem? (i := 51) rfl)) (hw _ (List.mem_of_getElem? (i := 52) rfl)) (hw _ (List.mem_of_getElem? (i := 54) rfl)) (hw _ (List.mem_of_getElem? (i := 53) rfl)) (hw _ (List.mem_of_getElem? (i := 35) rfl)) (hw _ (List.mem_of_getElem? (i := 55) rfl)) (by decide) (W := 0) Ec14_a1 (argsL := []) (rest := []) (rm8 l Z a0 hw [] b10 p1 T14.heap n0 zs15 Ec14_a1 Fc14_a1_errorCode) (by decide) (by decide) (c' := 4) (s' := 9) rfl rfl (by decide) (by decide) rfl (g := (mkF m 92 #[.val (.int p1), .val (.int p2), .val (.int p3), .val (.int p4), .val (.int p1), .val (.int ((p4 &&& (2147483647 : Int32)) % (3 : Int32))), .val (.int (1 : Int32)), .val (.ref b3), .val (.ref w1), .val (.ref b10), .val (.int (1 : Int32))] [(.ref b10)])) rfl (by rw [hml]; rfl) (lenOf pd_0_6 rfl) rfl (by show 2 * 0 + _ ≤ _; exact Nat.le_of_eq rfl) (hb hby at_92)
          obtain ⟨hv22, N22q, e22⟩ := hQ22
          have N22 := Fr.app N14 N22q
          rw [f8, if_pos (own_z hc17 hc20)] at hv22
          subst hv22
          have hSz : s.Since s.vm T14.heap.size := (State.WarmedH.refl s).since _
          obtain ⟨fs, hr, hrun, hended, hRW⟩ := X22.leaveW (s := s) hSz (by rw [e22]; exact (Nat.le_refl _)) (v := some (.int (1 : Int32))) (fun h => by rw [Bd.returns] at h; cases h)
          refine ⟨_, _, pre19 _ ?_, hrun, hended, _, _, rfl, ?_, ⟨_, rfl⟩, hRW.2.1, hRW.2.2.1, hRW.2.2.2.mono (by decide) (by decide)⟩
          · show Steps p.tables e below (T14.setTop (mkF m 78 #[.val (.int p1), .val (.int p2), .val (.int p3), .val (.int p4), .val (.int p1), .val (.int ((p4 &&& (2147483647 : Int32)) % (3 : Int32))), .val (.int (1 : Int32)), .val (.ref b3), .val (.ref w1), .val (.ref b10), .unset] [(.int p1)])) _
            refine XS.ifYes X14.here hx rfl (pc0 := 78) (pc' := 87) rfl (hb hby at_78) rfl ((if0 _ _).trans (flt hc20).2.2.2) (by decide) (by decide) ?_
            show Steps p.tables e below (T14.setTop (mkF m 87 #[.val (.int p1), .val (.int p2), .val (.int p3), .val (.int p4), .val (.int p1), .val (.int ((p4 &&& (2147483647 : Int32)) % (3 : Int32))), .val (.int (1 : Int32)), .val (.ref b3), .val (.ref w1), .val (.ref b10), .unset] [])) _
            refine own_blk X14 hx bl0_87_2 (own_hb hby bd0_87_2) (pc' := 90) (Ls' := #[.val (.int p1), .val (.int p2), .val (.int p3), .val (.int p4), .val (.int p1), .val (.int ((p4 &&& (2147483647 : Int32)) % (3 : Int32))), .val (.int (1 : Int32)), .val (.ref b3), .val (.ref w1), .val (.ref b10), .val (.int (1 : Int32))]) (st' := []) rfl ?_
            refine own_blk X14 hx bl0_90_1 (own_hb hby bd0_90_1) (pc' := 92) (Ls' := #[.val (.int p1), .val (.int p2), .val (.int p3), .val (.int p4), .val (.int p1), .val (.int ((p4 &&& (2147483647 : Int32)) % (3 : Int32))), .val (.int (1 : Int32)), .val (.ref b3), .val (.ref w1), .val (.ref b10), .val (.int (1 : Int32))]) (st' := [(.ref b10)]) rfl ?_
            refine st22 _ ?_
            show Steps p.tables e below (T22.setTop (mkF m 95 #[.val (.int p1), .val (.int p2), .val (.int p3), .val (.int p4), .val (.int p1), .val (.int ((p4 &&& (2147483647 : Int32)) % (3 : Int32))), .val (.int (1 : Int32)), .val (.ref b3), .val (.ref w1), .val (.ref b10), .val (.int (1 : Int32))] [(.int (1 : Int32))])) _
            refine own_blk X22 hx bl0_95_1 (own_hb hby bd0_95_1) (pc' := 97) (Ls' := #[.val (.int p1), .val (.int p2), .val (.int p3), .val (.int p4), .val (.int p1), .val (.int ((p4 &&& (2147483647 : Int32)) % (3 : Int32))), .val (.int (1 : Int32)), .val (.ref b3), .val (.ref w1), .val (.ref b10), .val (.int (1 : Int32))]) (st' := [(.int (1 : Int32)), (.int (1 : Int32))]) rfl ?_
            refine XS.icmpNo X22.here hx rfl (hb hby at_97) rfl (teq (by decide : (1 : Int32) = (1 : Int32))).2 ?_
            show Steps p.tables e below (T22.setTop (mkF m 100 #[.val (.int p1), .val (.int p2), .val (.int p3), .val (.int p4), .val (.int p1), .val (.int ((p4 &&& (2147483647 : Int32)) % (3 : Int32))), .val (.int (1 : Int32)), .val (.ref b3), .val (.ref w1), .val (.ref b10), .val (.int (1 : Int32))] [])) _
            refine own_blk X22 hx bl0_100_2 (own_hb hby bd0_100_2) (pc' := 105) (Ls' := #[.val (.int p1), .val (.int p2), .val (.int p3), .val (.int p4), .val (.int p1), .val (.int ((p4 &&& (2147483647 : Int32)) % (3 : Int32))), .val (.int (1 : Int32)), .val (.ref b3), .val (.ref w1), .val (.ref b10), .val (.int (1 : Int32))]) (st' := [(.int (1 : Int32))]) rfl ?_
            exact retN X22 hx (t := .boolean) Bd.returns (by simp) (hb hby at_105) hr
          · show Q0_1 Z p1 p2 p3 p4 w1 w2 wz h0 n0 _ T22.heap _
            rw [e22]
            exact ⟨by rw [f0_1, if_pos hc2, if_pos hc9, if_neg hc17, if_neg hc20], N22⟩
    · by_cases hc23 : ((p4 &&& (2147483647 : Int32)) % (3 : Int32)) = (2 : Int32)
      · rw [f5, if_neg hc9, if_pos hc23] at hv5
        subst hv5
        obtain ⟨T24, h24, X24, e24, E24, A24, D24, -, st24⟩ := newO X5 hx hZ hown (hw _ (List.mem_of_getElem? (i := 33) rfl)) (hw _ (List.mem_of_getElem? (i := 34) rfl)) (hw _ (List.mem_of_getElem? (i := 35) rfl)) e5 (g := (mkF m 50 #[.val (.int p1), .val (.int p2), .val (.int p3), .val (.int p4), .val (.int p1), .val (.int ((p4 &&& (2147483647 : Int32)) % (3 : Int32))), .val (.int (1 : Int32)), .val (.ref b3), .val (.ref w2), .unset, .unset] [])) rfl (hb hby at_50) (by decide) (by decide)
        obtain ⟨b24, g24⟩ : ∃ z, z = T3.heap.size := ⟨_, rfl⟩
        rw [← g24] at A24 D24 st24
        have fa25 : Exa Z T3.heap w1 "com/example/vendsettle/vendsettle/Processor$Reason" := (E_w1.keep K3)
        have ne_w1_b24 : w1 ≠ b24 := Nat.ne_of_lt (Nat.lt_of_lt_of_le fa25.lt (Nat.le_of_eq g24.symm))
        have fa26 : Exa Z T3.heap w2 "com/example/vendsettle/vendsettle/Processor$Reason" := (E_w2.keep K3)
        have ne_w2_b24 : w2 ≠ b24 := Nat.ne_of_lt (Nat.lt_of_lt_of_le fa26.lt (Nat.le_of_eq g24.symm))
        have g_b24 : n0 ≤ b24 := Nat.le_trans zs4 (Nat.le_of_eq g24.symm)
        have zs27 : n0 ≤ h24.size := Nat.le_trans zs4 E24.1
        have F_errorCode_b24 : Fld Z h24 b24 "com/example/vendsettle/vendsettle/Processor$Status" "errorCode" "I" (.int (0 : Int32)) := D24 (Or.inr (hw _ (List.mem_of_getElem? (i := 46) rfl))) (ty := .int) (by decide)
        have F_statusMessage_b24 : Fld Z h24 b24 "com/example/vendsettle/vendsettle/Processor$Status" "statusMessage" "Ljava/lang/String;" .null := D24 (Or.inr (hw _ (List.mem_of_getElem? (i := 48) rfl))) (ty := (.object "java/lang/String")) (by decide)
        have F_reason_b24 : Fld Z h24 b24 "com/example/vendsettle/vendsettle/Processor$Status" "reason" "Lcom/example/vendsettle/vendsettle/Processor$Reason;" .null := D24 (Or.inr (hw _ (List.mem_of_getElem? (i := 50) rfl))) (ty := (.object "com/example/vendsettle/vendsettle/Processor$Reason")) (by decide)
        obtain ⟨_, T28, Lc28, X28, hQ28, st28⟩ := own_callI X24 hx hZ (y := (⟨"com/example/vendsettle/vendsettle/Processor$Status", "<init>", "(ILjava/lang/String;Lcom/example/vendsettle/vendsettle/Processor$Reason;)V"⟩ : MethodName)) rfl hown (hw _ (List.mem_of_getElem? (i := 36) rfl)) (hw _ (List.mem_of_getElem? (i := 37) rfl)) (hw _ (List.mem_of_getElem? (i := 35) rfl)) (hw _ (List.mem_of_getElem? (i := 38) rfl)) (by decide) (W := 1) (a := b24) (argsL := [(.int p1), (.ref b3), (.ref w2)]) (rest := [(.ref b24)]) (rm6r l Z a0 hw [] b24 p1 b3 w2 h24 n0 zs27 A24 F_errorCode_b24 F_statusMessage_b24 F_reason_b24 g_b24) (by decide) (by decide) (c' := 4) (s' := 9) rfl rfl (by decide) (by decide) e24 (g := (mkF m 60 #[.val (.int p1), .val (.int p2), .val (.int p3), .val (.int p4), .val (.int p1), .val (.int ((p4 &&& (2147483647 : Int32)) % (3 : Int32))), .val (.int (1 : Int32)), .val (.ref b3), .val (.ref w2), .unset, .unset] [(.ref w2), (.ref b3), (.int p1), (.ref b24), (.ref b24)])) rfl (by rw [hml]; rfl) (lenOf pd_0_5 rfl) rfl (by show 2 * 0 + _ ≤ _; exact Nat.le_of_eq rfl) (hb hby at_60)
        obtain ⟨rfl, N28q, K28, Ec28_a1, Fc28_a1_errorCode, Fc28_a1_statusMessage, Fc28_a1_reason⟩ := hQ28
        have N28 := Fr.app N5 N28q
        have zs29 : n0 ≤ T28.heap.size := Nat.le_trans zs27 K28.1
        have pre30 : ∀ t, Steps p.tables e below (T28.setTop (mkF m 67 #[.val (.int p1), .val (.int p2), .val (.int p3), .val (.int p4), .val (.int p1), .val (.int ((p4 &&& (2147483647 : Int32)) % (3 : Int32))), .val (.int (1 : Int32)), .val (.ref b3), .val (.ref w2), .val (.ref b24), .unset] [(.int p1)])) t → Steps p.tables e below (s₁.setTop (entryFrame m #[(.int p1), (.int p2), (.int p3), (.int p4)] maxLocals)) t := fun t kt => by
          refine pre8 _ ?_
          refine st5 _ ?_
          show Steps p.tables e below (T5.setTop (mkF m 48 #[.val (.int p1), .val (.int p2), .val (.int p3), .val (.int p4), .val (.int p1), .val (.int ((p4 &&& (2147483647 : Int32)) % (3 : Int32))), .val (.int (1 : Int32)), .val (.ref b3), .unset, .unset, .unset] [(.ref w2)])) _
          refine own_blk X5 hx bl0_48_1 (own_hb hby bd0_48_1) (pc' := 50) (Ls' := #[.val (.int p1), .val (.int p2), .val (.int p3), .val (.int p4), .val (.int p1), .val (.int ((p4 &&& (2147483647 : Int32)) % (3 : Int32))), .val (.int (1 : Int32)), .val (.ref b3), .val (.ref w2), .unset, .unset]) (st' := []) rfl ?_
          refine st24 _ ?_
          show Steps p.tables e below (T24.setTop (mkF m 53 #[.val (.int p1), .val (.int p2), .val (.int p3), .val (.int p4), .val (.int p1), .val (.int ((p4 &&& (2147483647 : Int32)) % (3 : Int32))), .val (.int (1 : Int32)), .val (.ref b3), .val (.ref w2), .unset, .unset] [(.ref b24)])) _
          refine own_blk X24 hx bl0_53_4 (own_hb hby bd0_53_4) (pc' := 60) (Ls' := #[.val (.int p1), .val (.int p2), .val (.int p3), .val (.int p4), .val (.int p1), .val (.int ((p4 &&& (2147483647 : Int32)) % (3 : Int32))), .val (.int (1 : Int32)), .val (.ref b3), .val (.ref w2), .unset, .unset]) (st' := [(.ref w2), (.ref b3), (.int p1), (.ref b24), (.ref b24)]) rfl ?_
          refine st28 _ ?_
          show Steps p.tables e below (T28.setTop (mkF m 63 #[.val (.int p1), .val (.int p2), .val (.int p3), .val (.int p4), .val (.int p1), .val (.int ((p4 &&& (2147483647 : Int32)) % (3 : Int32))), .val (.int (1 : Int32)), .val (.ref b3), .val (.ref w2), .unset, .unset] [(.ref b24)])) _
          refine own_blk X28 hx bl0_63_1 (own_hb hby bd0_63_1) (pc' := 65) (Ls' := #[.val (.int p1), .val (.int p2), .val (.int p3), .val (.int p4), .val (.int p1), .val (.int ((p4 &&& (2147483647 : Int32)) % (3 : Int32))), .val (.int (1 : Int32)), .val (.ref b3), .val (.ref w2), .val (.ref b24), .unset]) (st' := []) rfl ?_
          refine own_blk X28 hx bl0_65_1 (own_hb hby bd0_65_1) (pc' := 67) (Ls' := #[.val (.int p1), .val (.int p2), .val (.int p3), .val (.int p4), .val (.int p1), .val (.int ((p4 &&& (2147483647 : Int32)) % (3 : Int32))), .val (.int (1 : Int32)), .val (.ref b3), .val (.ref w2), .val (.ref b24), .unset]) (st' := [(.int p1)]) rfl ?_
          exact kt
        by_cases hc31 : p1 < (0 : Int32)
        · obtain ⟨_, T32, Lc32, X32, hQ32, st32⟩ := own_callV X28 hx hZ (y := (⟨"com/example/vendsettle/vendsettle/Processor$Status", "isSuccess", "()Z"⟩ : MethodName)) hown (hw _ (List.mem_of_getElem? (i := 51) rfl)) (hw _ (List.mem_of_getElem? (i := 52) rfl)) (hw _ (List.mem_of_getElem? (i := 54) rfl)) (hw _ (List.mem_of_getElem? (i := 53) rfl)) (hw _ (List.mem_of_getElem? (i := 35) rfl)) (hw _ (List.mem_of_getElem? (i := 55) rfl)) (by decide) (W := 0) Ec28_a1 (argsL := []) (rest := []) (rm8 l Z a0 hw [] b24 p1 T28.heap n0 zs29 Ec28_a1 Fc28_a1_errorCode) (by decide) (by decide) (c' := 4) (s' := 9) rfl rfl (by decide) (by decide) rfl (g := (mkF m 92 #[.val (.int p1), .val (.int p2), .val (.int p3), .val (.int p4), .val (.int p1), .val (.int ((p4 &&& (2147483647 : Int32)) % (3 : Int32))), .val (.int (1 : Int32)), .val (.ref b3), .val (.ref w2), .val (.ref b24), .val (.int (0 : Int32))] [(.ref b24)])) rfl (by rw [hml]; rfl) (lenOf pd_0_6 rfl) rfl (by show 2 * 0 + _ ≤ _; exact Nat.le_of_eq rfl) (hb hby at_92)
          obtain ⟨hv32, N32q, e32⟩ := hQ32
          have N32 := Fr.app N28 N32q
          rw [f8, if_neg (own_ltn hc31)] at hv32
          subst hv32
          have hSz : s.Since s.vm T28.heap.size := (State.WarmedH.refl s).since _
          obtain ⟨fs, hr, hrun, hended, hRW⟩ := X32.leaveW (s := s) hSz (by rw [e32]; exact (Nat.le_refl _)) (v := some (.int (1 : Int32))) (fun h => by rw [Bd.returns] at h; cases h)
          refine ⟨_, _, pre30 _ ?_, hrun, hended, _, _, rfl, ?_, ⟨_, rfl⟩, hRW.2.1, hRW.2.2.1, hRW.2.2.2.mono (by decide) (by decide)⟩
          · show Steps p.tables e below (T28.setTop (mkF m 67 #[.val (.int p1), .val (.int p2), .val (.int p3), .val (.int p4), .val (.int p1), .val (.int ((p4 &&& (2147483647 : Int32)) % (3 : Int32))), .val (.int (1 : Int32)), .val (.ref b3), .val (.ref w2), .val (.ref b24), .unset] [(.int p1)])) _
            refine XS.ifNo X28.here hx rfl (hb hby at_67) rfl ((if0 _ _).trans (tlt hc31).2.1) ?_
            show Steps p.tables e below (T28.setTop (mkF m 70 #[.val (.int p1), .val (.int p2), .val (.int p3), .val (.int p4), .val (.int p1), .val (.int ((p4 &&& (2147483647 : Int32)) % (3 : Int32))), .val (.int (1 : Int32)), .val (.ref b3), .val (.ref w2), .val (.ref b24), .unset] [])) _
            refine own_blk X28 hx bl0_70_2 (own_hb hby bd0_70_2) (pc' := 73) (Ls' := #[.val (.int p1), .val (.int p2), .val (.int p3), .val (.int p4), .val (.int p1), .val (.int ((p4 &&& (2147483647 : Int32)) % (3 : Int32))), .val (.int (1 : Int32)), .val (.ref b3), .val (.ref w2), .val (.ref b24), .val (.int (0 : Int32))]) (st' := []) rfl ?_
            refine own_blk X28 hx bl0_73_2 (own_hb hby bd0_73_2) (pc' := 92) (Ls' := #[.val (.int p1), .val (.int p2), .val (.int p3), .val (.int p4), .val (.int p1), .val (.int ((p4 &&& (2147483647 : Int32)) % (3 : Int32))), .val (.int (1 : Int32)), .val (.ref b3), .val (.ref w2), .val (.ref b24), .val (.int (0 : Int32))]) (st' := [(.ref b24)]) rfl ?_
            refine st32 _ ?_
            show Steps p.tables e below (T32.setTop (mkF m 95 #[.val (.int p1), .val (.int p2), .val (.int p3), .val (.int p4), .val (.int p1), .val (.int ((p4 &&& (2147483647 : Int32)) % (3 : Int32))), .val (.int (1 : Int32)), .val (.ref b3), .val (.ref w2), .val (.ref b24), .val (.int (0 : Int32))] [(.int (0 : Int32))])) _
            refine own_blk X32 hx bl0_95_1 (own_hb hby bd0_95_1) (pc' := 97) (Ls' := #[.val (.int p1), .val (.int p2), .val (.int p3), .val (.int p4), .val (.int p1), .val (.int ((p4 &&& (2147483647 : Int32)) % (3 : Int32))), .val (.int (1 : Int32)), .val (.ref b3), .val (.ref w2), .val (.ref b24), .val (.int (0 : Int32))]) (st' := [(.int (0 : Int32)), (.int (0 : Int32))]) rfl ?_
            refine XS.icmpNo X32.here hx rfl (hb hby at_97) rfl (teq (by decide : (0 : Int32) = (0 : Int32))).2 ?_
            show Steps p.tables e below (T32.setTop (mkF m 100 #[.val (.int p1), .val (.int p2), .val (.int p3), .val (.int p4), .val (.int p1), .val (.int ((p4 &&& (2147483647 : Int32)) % (3 : Int32))), .val (.int (1 : Int32)), .val (.ref b3), .val (.ref w2), .val (.ref b24), .val (.int (0 : Int32))] [])) _
            refine own_blk X32 hx bl0_100_2 (own_hb hby bd0_100_2) (pc' := 105) (Ls' := #[.val (.int p1), .val (.int p2), .val (.int p3), .val (.int p4), .val (.int p1), .val (.int ((p4 &&& (2147483647 : Int32)) % (3 : Int32))), .val (.int (1 : Int32)), .val (.ref b3), .val (.ref w2), .val (.ref b24), .val (.int (0 : Int32))]) (st' := [(.int (1 : Int32))]) rfl ?_
            exact retN X32 hx (t := .boolean) Bd.returns (by simp) (hb hby at_105) hr
          · show Q0_1 Z p1 p2 p3 p4 w1 w2 wz h0 n0 _ T32.heap _
            rw [e32]
            exact ⟨by rw [f0_1, if_pos hc2, if_neg hc9, if_pos hc23, if_pos hc31], N32⟩
        · have pre33 : ∀ t, Steps p.tables e below (T28.setTop (mkF m 78 #[.val (.int p1), .val (.int p2), .val (.int p3), .val (.int p4), .val (.int p1), .val (.int ((p4 &&& (2147483647 : Int32)) % (3 : Int32))), .val (.int (1 : Int32)), .val (.ref b3), .val (.ref w2), .val (.ref b24), .unset] [(.int p1)])) t → Steps p.tables e below (s₁.setTop (entryFrame m #[(.int p1), (.int p2), (.int p3), (.int p4)] maxLocals)) t := fun t kt => by
            refine pre30 _ ?_
            show Steps p.tables e below (T28.setTop (mkF m 67 #[.val (.int p1), .val (.int p2), .val (.int p3), .val (.int p4), .val (.int p1), .val (.int ((p4 &&& (2147483647 : Int32)) % (3 : Int32))), .val (.int (1 : Int32)), .val (.ref b3), .val (.ref w2), .val (.ref b24), .unset] [(.int p1)])) _
            refine XS.ifYes X28.here hx rfl (pc0 := 67) (pc' := 76) rfl (hb hby at_67) rfl ((if0 _ _).trans (flt hc31).2.1) (by decide) (by decide) ?_
            show Steps p.tables e below (T28.setTop (mkF m 76 #[.val (.int p1), .val (.int p2), .val (.int p3), .val (.int p4), .val (.int p1), .val (.int ((p4 &&& (2147483647 : Int32)) % (3 : Int32))), .val (.int (1 : Int32)), .val (.ref b3), .val (.ref w2), .val (.ref b24), .unset] [])) _
            refine own_blk X28 hx bl0_76_1 (own_hb hby bd0_76_1) (pc' := 78) (Ls' := #[.val (.int p1), .val (.int p2), .val (.int p3), .val (.int p4), .val (.int p1), .val (.int ((p4 &&& (2147483647 : Int32)) % (3 : Int32))), .val (.int (1 : Int32)), .val (.ref b3), .val (.ref w2), .val (.ref b24), .unset]) (st' := [(.int p1)]) rfl ?_
            exact kt
          by_cases hc34 : (0 : Int32) < p1
          · obtain ⟨_, T35, Lc35, X35, hQ35, st35⟩ := own_callV X28 hx hZ (y := (⟨"com/example/vendsettle/vendsettle/Processor$Status", "isSuccess", "()Z"⟩ : MethodName)) hown (hw _ (List.mem_of_getElem? (i := 51) rfl)) (hw _ (List.mem_of_getElem? (i := 52) rfl)) (hw _ (List.mem_of_getElem? (i := 54) rfl)) (hw _ (List.mem_of_getElem? (i := 53) rfl)) (hw _ (List.mem_of_getElem? (i := 35) rfl)) (hw _ (List.mem_of_getElem? (i := 55) rfl)) (by decide) (W := 0) Ec28_a1 (argsL := []) (rest := []) (rm8 l Z a0 hw [] b24 p1 T28.heap n0 zs29 Ec28_a1 Fc28_a1_errorCode) (by decide) (by decide) (c' := 4) (s' := 9) rfl rfl (by decide) (by decide) rfl (g := (mkF m 92 #[.val (.int p1), .val (.int p2), .val (.int p3), .val (.int p4), .val (.int p1), .val (.int ((p4 &&& (2147483647 : Int32)) % (3 : Int32))), .val (.int (1 : Int32)), .val (.ref b3), .val (.ref w2), .val (.ref b24), .val (.int (0 : Int32))] [(.ref b24)])) rfl (by rw [hml]; rfl) (lenOf pd_0_6 rfl) rfl (by show 2 * 0 + _ ≤ _; exact Nat.le_of_eq rfl) (hb hby at_92)
            obtain ⟨hv35, N35q, e35⟩ := hQ35
            have N35 := Fr.app N28 N35q
            rw [f8, if_neg (own_gtn hc34)] at hv35
            subst hv35
            have hSz : s.Since s.vm T28.heap.size := (State.WarmedH.refl s).since _
            obtain ⟨fs, hr, hrun, hended, hRW⟩ := X35.leaveW (s := s) hSz (by rw [e35]; exact (Nat.le_refl _)) (v := some (.int (1 : Int32))) (fun h => by rw [Bd.returns] at h; cases h)
            refine ⟨_, _, pre33 _ ?_, hrun, hended, _, _, rfl, ?_, ⟨_, rfl⟩, hRW.2.1, hRW.2.2.1, hRW.2.2.2.mono (by decide) (by decide)⟩
            · show Steps p.tables e below (T28.setTop (mkF m 78 #[.val (.int p1), .val (.int p2), .val (.int p3), .val (.int p4), .val (.int p1), .val (.int ((p4 &&& (2147483647 : Int32)) % (3 : Int32))), .val (.int (1 : Int32)), .val (.ref b3), .val (.ref w2), .val (.ref b24), .unset] [(.int p1)])) _
              refine XS.ifNo X28.here hx rfl (hb hby at_78) rfl ((if0 _ _).trans (tlt hc34).2.2.2) ?_
              show Steps p.tables e below (T28.setTop (mkF m 81 #[.val (.int p1), .val (.int p2), .val (.int p3), .val (.int p4), .val (.int p1), .val (.int ((p4 &&& (2147483647 : Int32)) % (3 : Int32))), .val (.int (1 : Int32)), .val (.ref b3), .val (.ref w2), .val (.ref b24), .unset] [])) _
              refine own_blk X28 hx bl0_81_2 (own_hb hby bd0_81_2) (pc' := 84) (Ls' := #[.val (.int p1), .val (.int p2), .val (.int p3), .val (.int p4), .val (.int p1), .val (.int ((p4 &&& (2147483647 : Int32)) % (3 : Int32))), .val (.int (1 : Int32)), .val (.ref b3), .val (.ref w2), .val (.ref b24), .val (.int (0 : Int32))]) (st' := []) rfl ?_
              refine own_blk X28 hx bl0_84_2 (own_hb hby bd0_84_2) (pc' := 92) (Ls' := #[.val (.int p1), .val (.int p2), .val (.int p3), .val (.int p4), .val (.int p1), .val (.int ((p4 &&& (2147483647 : Int32)) % (3 : Int32))), .val (.int (1 : Int32)), .val (.ref b3), .val (.ref w2), .val (.ref b24), .val (.int (0 : Int32))]) (st' := [(.ref b24)]) rfl ?_
              refine st35 _ ?_
              show Steps p.tables e below (T35.setTop (mkF m 95 #[.val (.int p1), .val (.int p2), .val (.int p3), .val (.int p4), .val (.int p1), .val (.int ((p4 &&& (2147483647 : Int32)) % (3 : Int32))), .val (.int (1 : Int32)), .val (.ref b3), .val (.ref w2), .val (.ref b24), .val (.int (0 : Int32))] [(.int (0 : Int32))])) _
              refine own_blk X35 hx bl0_95_1 (own_hb hby bd0_95_1) (pc' := 97) (Ls' := #[.val (.int p1), .val (.int p2), .val (.int p3), .val (.int p4), .val (.int p1), .val (.int ((p4 &&& (2147483647 : Int32)) % (3 : Int32))), .val (.int (1 : Int32)), .val (.ref b3), .val (.ref w2), .val (.ref b24), .val (.int (0 : Int32))]) (st' := [(.int (0 : Int32)), (.int (0 : Int32))]) rfl ?_
              refine XS.icmpNo X35.here hx rfl (hb hby at_97) rfl (teq (by decide : (0 : Int32) = (0 : Int32))).2 ?_
              show Steps p.tables e below (T35.setTop (mkF m 100 #[.val (.int p1), .val (.int p2), .val (.int p3), .val (.int p4), .val (.int p1), .val (.int ((p4 &&& (2147483647 : Int32)) % (3 : Int32))), .val (.int (1 : Int32)), .val (.ref b3), .val (.ref w2), .val (.ref b24), .val (.int (0 : Int32))] [])) _
              refine own_blk X35 hx bl0_100_2 (own_hb hby bd0_100_2) (pc' := 105) (Ls' := #[.val (.int p1), .val (.int p2), .val (.int p3), .val (.int p4), .val (.int p1), .val (.int ((p4 &&& (2147483647 : Int32)) % (3 : Int32))), .val (.int (1 : Int32)), .val (.ref b3), .val (.ref w2), .val (.ref b24), .val (.int (0 : Int32))]) (st' := [(.int (1 : Int32))]) rfl ?_
              exact retN X35 hx (t := .boolean) Bd.returns (by simp) (hb hby at_105) hr
            · show Q0_1 Z p1 p2 p3 p4 w1 w2 wz h0 n0 _ T35.heap _
              rw [e35]
              exact ⟨by rw [f0_1, if_pos hc2, if_neg hc9, if_pos hc23, if_neg hc31, if_pos hc34], N35⟩
          · obtain ⟨_, T36, Lc36, X36, hQ36, st36⟩ := own_callV X28 hx hZ (y := (⟨"com/example/vendsettle/vendsettle/Processor$Status", "isSuccess", "()Z"⟩ : MethodName)) hown (hw _ (List.mem_of_getElem? (i := 51) rfl)) (hw _ (List.mem_of_getElem? (i := 52) rfl)) (hw _ (List.mem_of_getElem? (i := 54) rfl)) (hw _ (List.mem_of_getElem? (i := 53) rfl)) (hw _ (List.mem_of_getElem? (i := 35) rfl)) (hw _ (List.mem_of_getElem? (i := 55) rfl)) (by decide) (W := 0) Ec28_a1 (argsL := []) (rest := []) (rm8 l Z a0 hw [] b24 p1 T28.heap n0 zs29 Ec28_a1 Fc28_a1_errorCode) (by decide) (by decide) (c' := 4) (s' := 9) rfl rfl (by decide) (by decide) rfl (g := (mkF m 92 #[.val (.int p1), .val (.int p2), .val (.int p3), .val (.int p4), .val (.int p1), .val (.int ((p4 &&& (2147483647 : Int32)) % (3 : Int32))), .val (.int (1 : Int32)), .val (.ref b3), .val (.ref w2), .val (.ref b24), .val (.int (1 : Int32))] [(.ref b24)])) rfl (by rw [hml]; rfl) (lenOf pd_0_6 rfl) rfl (by show 2 * 0 + _ ≤ _; exact Nat.le_of_eq rfl) (hb hby at_92)
            obtain ⟨hv36, N36q, e36⟩ := hQ36
            have N36 := Fr.app N28 N36q
            rw [f8, if_pos (own_z hc31 hc34)] at hv36
            subst hv36
            have hSz : s.Since s.vm T28.heap.size := (State.WarmedH.refl s).since _
            obtain ⟨fs, hr, hrun, hended, hRW⟩ := X36.leaveW (s := s) hSz (by rw [e36]; exact (Nat.le_refl _)) (v := some (.int (1 : Int32))) (fun h => by rw [Bd.returns] at h; cases h)
            refine ⟨_, _, pre33 _ ?_, hrun, hended, _, _, rfl, ?_, ⟨_, rfl⟩, hRW.2.1, hRW.2.2.1, hRW.2.2.2.mono (by decide) (by decide)⟩
            · show Steps p.tables e below (T28.setTop (mkF m 78 #[.val (.int p1), .val (.int p2), .val (.int p3), .val (.int p4), .val (.int p1), .val (.int ((p4 &&& (2147483647 : Int32)) % (3 : Int32))), .val (.int (1 : Int32)), .val (.ref b3), .val (.ref w2), .val (.ref b24), .unset] [(.int p1)])) _
              refine XS.ifYes X28.here hx rfl (pc0 := 78) (pc' := 87) rfl (hb hby at_78) rfl ((if0 _ _).trans (flt hc34).2.2.2) (by decide) (by decide) ?_
              show Steps p.tables e below (T28.setTop (mkF m 87 #[.val (.int p1), .val (.int p2), .val (.int p3), .val (.int p4), .val (.int p1), .val (.int ((p4 &&& (2147483647 : Int32)) % (3 : Int32))), .val (.int (1 : Int32)), .val (.ref b3), .val (.ref w2), .val (.ref b24), .unset] [])) _
              refine own_blk X28 hx bl0_87_2 (own_hb hby bd0_87_2) (pc' := 90) (Ls' := #[.val (.int p1), .val (.int p2), .val (.int p3), .val (.int p4), .val (.int p1), .val (.int ((p4 &&& (2147483647 : Int32)) % (3 : Int32))), .val (.int (1 : Int32)), .val (.ref b3), .val (.ref w2), .val (.ref b24), .val (.int (1 : Int32))]) (st' := []) rfl ?_
              refine own_blk X28 hx bl0_90_1 (own_hb hby bd0_90_1) (pc' := 92) (Ls' := #[.val (.int p1), .val (.int p2), .val (.int p3), .val (.int p4), .val (.int p1), .val (.int ((p4 &&& (2147483647 : Int32)) % (3 : Int32))), .val (.int (1 : Int32)), .val (.ref b3), .val (.ref w2), .val (.ref b24), .val (.int (1 : Int32))]) (st' := [(.ref b24)]) rfl ?_
              refine st36 _ ?_
              show Steps p.tables e below (T36.setTop (mkF m 95 #[.val (.int p1), .val (.int p2), .val (.int p3), .val (.int p4), .val (.int p1), .val (.int ((p4 &&& (2147483647 : Int32)) % (3 : Int32))), .val (.int (1 : Int32)), .val (.ref b3), .val (.ref w2), .val (.ref b24), .val (.int (1 : Int32))] [(.int (1 : Int32))])) _
              refine own_blk X36 hx bl0_95_1 (own_hb hby bd0_95_1) (pc' := 97) (Ls' := #[.val (.int p1), .val (.int p2), .val (.int p3), .val (.int p4), .val (.int p1), .val (.int ((p4 &&& (2147483647 : Int32)) % (3 : Int32))), .val (.int (1 : Int32)), .val (.ref b3), .val (.ref w2), .val (.ref b24), .val (.int (1 : Int32))]) (st' := [(.int (1 : Int32)), (.int (1 : Int32))]) rfl ?_
              refine XS.icmpNo X36.here hx rfl (hb hby at_97) rfl (teq (by decide : (1 : Int32) = (1 : Int32))).2 ?_
              show Steps p.tables e below (T36.setTop (mkF m 100 #[.val (.int p1), .val (.int p2), .val (.int p3), .val (.int p4), .val (.int p1), .val (.int ((p4 &&& (2147483647 : Int32)) % (3 : Int32))), .val (.int (1 : Int32)), .val (.ref b3), .val (.ref w2), .val (.ref b24), .val (.int (1 : Int32))] [])) _
              refine own_blk X36 hx bl0_100_2 (own_hb hby bd0_100_2) (pc' := 105) (Ls' := #[.val (.int p1), .val (.int p2), .val (.int p3), .val (.int p4), .val (.int p1), .val (.int ((p4 &&& (2147483647 : Int32)) % (3 : Int32))), .val (.int (1 : Int32)), .val (.ref b3), .val (.ref w2), .val (.ref b24), .val (.int (1 : Int32))]) (st' := [(.int (1 : Int32))]) rfl ?_
              exact retN X36 hx (t := .boolean) Bd.returns (by simp) (hb hby at_105) hr
            · show Q0_1 Z p1 p2 p3 p4 w1 w2 wz h0 n0 _ T36.heap _
              rw [e36]
              exact ⟨by rw [f0_1, if_pos hc2, if_neg hc9, if_pos hc23, if_neg hc31, if_neg hc34], N36⟩
      · rw [f5, if_neg hc9, if_neg hc23] at hv5
        subst hv5
        obtain ⟨T37, h37, X37, e37, E37, A37, D37, -, st37⟩ := newO X5 hx hZ hown (hw _ (List.mem_of_getElem? (i := 33) rfl)) (hw _ (List.mem_of_getElem? (i := 34) rfl)) (hw _ (List.mem_of_getElem? (i := 35) rfl)) e5 (g := (mkF m 50 #[.val (.int p1), .val (.int p2), .val (.int p3), .val (.int p4), .val (.int p1), .val (.int ((p4 &&& (2147483647 : Int32)) % (3 : Int32))), .val (.int (1 : Int32)), .val (.ref b3), .val .null, .unset, .unset] [])) rfl (hb hby at_50) (by decide) (by decide)
        obtain ⟨b37, g37⟩ : ∃ z, z = T3.heap.size := ⟨_, rfl⟩
        rw [← g37] at A37 D37 st37
        have fa38 : Exa Z T3.heap w1 "com/example/vendsettle/vendsettle/Processor$Reason" := (E_w1.keep K3)
        have ne_w1_b37 : w1 ≠ b37 := Nat.ne_of_lt (Nat.lt_of_lt_of_le fa38.lt (Nat.le_of_eq g37.symm))
        have fa39 : Exa Z T3.heap w2 "com/example/vendsettle/vendsettle/Processor$Reason" := (E_w2.keep K3)
        have ne_w2_b37 : w2 ≠ b37 := Nat.ne_of_lt (Nat.lt_of_lt_of_le fa39.lt (Nat.le_of_eq g37.symm))
        have g_b37 : n0 ≤ b37 := Nat.le_trans zs4 (Nat.le_of_eq g37.symm)
        have zs40 : n0 ≤ h37.size := Nat.le_trans zs4 E37.1
        have F_errorCode_b37 : Fld Z h37 b37 "com/example/vendsettle/vendsettle/Processor$Status" "errorCode" "I" (.int (0 : Int32)) := D37 (Or.inr (hw _ (List.mem_of_getElem? (i := 46) rfl))) (ty := .int) (by decide)
        have F_statusMessage_b37 : Fld Z h37 b37 "com/example/vendsettle/vendsettle/Processor$Status" "statusMessage" "Ljava/lang/String;" .null := D37 (Or.inr (hw _ (List.mem_of_getElem? (i := 48) rfl))) (ty := (.object "java/lang/String")) (by decide)
        have F_reason_b37 : Fld Z h37 b37 "com/example/vendsettle/vendsettle/Processor$Status" "reason" "Lcom/example/vendsettle/vendsettle/Processor$Reason;" .null := D37 (Or.inr (hw _ (List.mem_of_getElem? (i := 50) rfl))) (ty := (.object "com/example/vendsettle/vendsettle/Processor$Reason")) (by decide)
        obtain ⟨_, T41, Lc41, X41, hQ41, st41⟩ := own_callI X37 hx hZ (y := (⟨"com/example/vendsettle/vendsettle/Processor$Status", "<init>", "(ILjava/lang/String;Lcom/example/vendsettle/vendsettle/Processor$Reason;)V"⟩ : MethodName)) rfl hown (hw _ (List.mem_of_getElem? (i := 36) rfl)) (hw _ (List.mem_of_getElem? (i := 37) rfl)) (hw _ (List.mem_of_getElem? (i := 35) rfl)) (hw _ (List.mem_of_getElem? (i := 38) rfl)) (by decide) (W := 1) (a := b37) (argsL := [(.int p1), (.ref b3), .null]) (rest := [(.ref b37)]) (rm6z l Z a0 hw [] b37 p1 b3 h37 n0 zs40 A37 F_errorCode_b37 F_statusMessage_b37 F_reason_b37 g_b37) (by decide) (by decide) (c' := 4) (s' := 9) rfl rfl (by decide) (by decide) e37 (g := (mkF m 60 #[.val (.int p1), .val (.int p2), .val (.int p3), .val (.int p4), .val (.int p1), .val (.int ((p4 &&& (2147483647 : Int32)) % (3 : Int32))), .val (.int (1 : Int32)), .val (.ref b3), .val .null, .unset, .unset] [.null, (.ref b3), (.int p1), (.ref b37), (.ref b37)])) rfl (by rw [hml]; rfl) (lenOf pd_0_5 rfl) rfl (by show 2 * 0 + _ ≤ _; exact Nat.le_of_eq rfl) (hb hby at_60)
        obtain ⟨rfl, N41q, K41, Ec41_a1, Fc41_a1_errorCode, Fc41_a1_statusMessage, Fc41_a1_reason⟩ := hQ41
        have N41 := Fr.app N5 N41q
        have zs42 : n0 ≤ T41.heap.size := Nat.le_trans zs40 K41.1
        have pre43 : ∀ t, Steps p.tables e below (T41.setTop (mkF m 67 #[.val (.int p1), .val (.int p2), .val (.int p3), .val (.int p4), .val (.int p1), .val (.int ((p4 &&& (2147483647 : Int32)) % (3 : Int32))), .val (.int (1 : Int32)), .val (.ref b3), .val .null, .val (.ref b37), .unset] [(.int p1)])) t → Steps p.tables e below (s₁.setTop (entryFrame m #[(.int p1), (.int p2), (.int p3), (.int p4)] maxLocals)) t := fun t kt => by
          refine pre8 _ ?_
          refine st5 _ ?_
          show Steps p.tables e below (T5.setTop (mkF m 48 #[.val (.int p1), .val (.int p2), .val (.int p3), .val (.int p4), .val (.int p1), .val (.int ((p4 &&& (2147483647 : Int32)) % (3 : Int32))), .val (.int (1 : Int32)), .val (.ref b3), .unset, .unset, .unset] [.null])) _
          refine XS.astore X5.here hx rfl (hb hby at_48) rfl rfl (l' := #[.val (.int p1), .val (.int p2), .val (.int p3), .val (.int p4), .val (.int p1), .val (.int ((p4 &&& (2147483647 : Int32)) % (3 : Int32))), .val (.int (1 : Int32)), .val (.ref b3), .val .null, .unset, .unset]) rfl ?_
          show Steps p.tables e below (T5.setTop (mkF m 50 #[.val (.int p1), .val (.int p2), .val (.int p3), .val (.int p4), .val (.int p1), .val (.int ((p4 &&& (2147483647 : Int32)) % (3 : Int32))), .val (.int (1 : Int32)), .val (.ref b3), .val .null, .unset, .unset] [])) _
          refine st37 _ ?_
          show Steps p.tables e below (T37.setTop (mkF m 53 #[.val (.int p1), .val (.int p2), .val (.int p3), .val (.int p4), .val (.int p1), .val (.int ((p4 &&& (2147483647 : Int32)) % (3 : Int32))), .val (.int (1 : Int32)), .val (.ref b3), .val .null, .unset, .unset] [(.ref b37)])) _
          refine own_blk X37 hx bl0_53_4 (own_hb hby bd0_53_4) (pc' := 60) (Ls' := #[.val (.int p1), .val (.int p2), .val (.int p3), .val (.int p4), .val (.int p1), .val (.int ((p4 &&& (2147483647 : Int32)) % (3 : Int32))), .val (.int (1 : Int32)), .val (.ref b3), .val .null, .unset, .unset]) (st' := [.null, (.ref b3), (.int p1), (.ref b37), (.ref b37)]) rfl ?_
          refine st41 _ ?_
          show Steps p.tables e below (T41.setTop (mkF m 63 #[.val (.int p1), .val (.int p2), .val (.int p3), .val (.int p4), .val (.int p1), .val (.int ((p4 &&& (2147483647 : Int32)) % (3 : Int32))), .val (.int (1 : Int32)), .val (.ref b3), .val .null, .unset, .unset] [(.ref b37)])) _
          refine own_blk X41 hx bl0_63_1 (own_hb hby bd0_63_1) (pc' := 65) (Ls' := #[.val (.int p1), .val (.int p2), .val (.int p3), .val (.int p4), .val (.int p1), .val (.int ((p4 &&& (2147483647 : Int32)) % (3 : Int32))), .val (.int (1 : Int32)), .val (.ref b3), .val .null, .val (.ref b37), .unset]) (st' := []) rfl ?_
          refine own_blk X41 hx bl0_65_1 (own_hb hby bd0_65_1) (pc' := 67) (Ls' := #[.val (.int p1), .val (.int p2), .val (.int p3), .val (.int p4), .val (.int p1), .val (.int ((p4 &&& (2147483647 : Int32)) % (3 : Int32))), .val (.int (1 : Int32)), .val (.ref b3), .val .null, .val (.ref b37), .unset]) (st' := [(.int p1)]) rfl ?_
          exact kt
        by_cases hc44 : p1 < (0 : Int32)
        · obtain ⟨_, T45, Lc45, X45, hQ45, st45⟩ := own_callV X41 hx hZ (y := (⟨"com/example/vendsettle/vendsettle/Processor$Status", "isSuccess", "()Z"⟩ : MethodName)) hown (hw _ (List.mem_of_getElem? (i := 51) rfl)) (hw _ (List.mem_of_getElem? (i := 52) rfl)) (hw _ (List.mem_of_getElem? (i := 54) rfl)) (hw _ (List.mem_of_getElem? (i := 53) rfl)) (hw _ (List.mem_of_getElem? (i := 35) rfl)) (hw _ (List.mem_of_getElem? (i := 55) rfl)) (by decide) (W := 0) Ec41_a1 (argsL := []) (rest := []) (rm8 l Z a0 hw [] b37 p1 T41.heap n0 zs42 Ec41_a1 Fc41_a1_errorCode) (by decide) (by decide) (c' := 4) (s' := 9) rfl rfl (by decide) (by decide) rfl (g := (mkF m 92 #[.val (.int p1), .val (.int p2), .val (.int p3), .val (.int p4), .val (.int p1), .val (.int ((p4 &&& (2147483647 : Int32)) % (3 : Int32))), .val (.int (1 : Int32)), .val (.ref b3), .val .null, .val (.ref b37), .val (.int (0 : Int32))] [(.ref b37)])) rfl (by rw [hml]; rfl) (lenOf pd_0_6 rfl) rfl (by show 2 * 0 + _ ≤ _; exact Nat.le_of_eq rfl) (hb hby at_92)
          obtain ⟨hv45, N45q, e45⟩ := hQ45
          have N45 := Fr.app N41 N45q
          rw [f8, if_neg (own_ltn hc44)] at hv45
          subst hv45
          have hSz : s.Since s.vm T41.heap.size := (State.WarmedH.refl s).since _
          obtain ⟨fs, hr, hrun, hended, hRW⟩ := X45.leaveW (s := s) hSz (by rw [e45]; exact (Nat.le_refl _)) (v := some (.int (1 : Int32))) (fun h => by rw [Bd.returns] at h; cases h)
          refine ⟨_, _, pre43 _ ?_, hrun, hended, _, _, rfl, ?_, ⟨_, rfl⟩, hRW.2.1, hRW.2.2.1, hRW.2.2.2.mono (by decide) (by decide)⟩
          · show Steps p.tables e below (T41.setTop (mkF m 67 #[.val (.int p1), .val (.int p2), .val (.int p3), .val (.int p4), .val (.int p1), .val (.int ((p4 &&& (2147483647 : Int32)) % (3 : Int32))), .val (.int (1 : Int32)), .val (.ref b3), .val .null, .val (.ref b37), .unset] [(.int p1)])) _
            refine XS.ifNo X41.here hx rfl (hb hby at_67) rfl ((if0 _ _).trans (tlt hc44).2.1) ?_
            show Steps p.tables e below (T41.setTop (mkF m 70 #[.val (.int p1), .val (.int p2), .val (.int p3), .val (.int p4), .val (.int p1), .val (.int ((p4 &&& (2147483647 : Int32)) % (3 : Int32))), .val (.int (1 : Int32)), .val (.ref b3), .val .null, .val (.ref b37), .unset] [])) _
            refine own_blk X41 hx bl0_70_2 (own_hb hby bd0_70_2) (pc' := 73) (Ls' := #[.val (.int p1), .val (.int p2), .val (.int p3), .val (.int p4), .val (.int p1), .val (.int ((p4 &&& (2147483647 : Int32)) % (3 : Int32))), .val (.int (1 : Int32)), .val (.ref b3), .val .null, .val (.ref b37), .val (.int (0 : Int32))]) (st' := []) rfl ?_
            refine own_blk X41 hx bl0_73_2 (own_hb hby bd0_73_2) (pc' := 92) (Ls' := #[.val (.int p1), .val (.int p2), .val (.int p3), .val (.int p4), .val (.int p1), .val (.int ((p4 &&& (2147483647 : Int32)) % (3 : Int32))), .val (.int (1 : Int32)), .val (.ref b3), .val .null, .val (.ref b37), .val (.int (0 : Int32))]) (st' := [(.ref b37)]) rfl ?_
            refine st45 _ ?_
            show Steps p.tables e below (T45.setTop (mkF m 95 #[.val (.int p1), .val (.int p2), .val (.int p3), .val (.int p4), .val (.int p1), .val (.int ((p4 &&& (2147483647 : Int32)) % (3 : Int32))), .val (.int (1 : Int32)), .val (.ref b3), .val .null, .val (.ref b37), .val (.int (0 : Int32))] [(.int (0 : Int32))])) _
            refine own_blk X45 hx bl0_95_1 (own_hb hby bd0_95_1) (pc' := 97) (Ls' := #[.val (.int p1), .val (.int p2), .val (.int p3), .val (.int p4), .val (.int p1), .val (.int ((p4 &&& (2147483647 : Int32)) % (3 : Int32))), .val (.int (1 : Int32)), .val (.ref b3), .val .null, .val (.ref b37), .val (.int (0 : Int32))]) (st' := [(.int (0 : Int32)), (.int (0 : Int32))]) rfl ?_
            refine XS.icmpNo X45.here hx rfl (hb hby at_97) rfl (teq (by decide : (0 : Int32) = (0 : Int32))).2 ?_
            show Steps p.tables e below (T45.setTop (mkF m 100 #[.val (.int p1), .val (.int p2), .val (.int p3), .val (.int p4), .val (.int p1), .val (.int ((p4 &&& (2147483647 : Int32)) % (3 : Int32))), .val (.int (1 : Int32)), .val (.ref b3), .val .null, .val (.ref b37), .val (.int (0 : Int32))] [])) _
            refine own_blk X45 hx bl0_100_2 (own_hb hby bd0_100_2) (pc' := 105) (Ls' := #[.val (.int p1), .val (.int p2), .val (.int p3), .val (.int p4), .val (.int p1), .val (.int ((p4 &&& (2147483647 : Int32)) % (3 : Int32))), .val (.int (1 : Int32)), .val (.ref b3), .val .null, .val (.ref b37), .val (.int (0 : Int32))]) (st' := [(.int (1 : Int32))]) rfl ?_
            exact retN X45 hx (t := .boolean) Bd.returns (by simp) (hb hby at_105) hr
          · show Q0_1 Z p1 p2 p3 p4 w1 w2 wz h0 n0 _ T45.heap _
            rw [e45]
            exact ⟨by rw [f0_1, if_pos hc2, if_neg hc9, if_neg hc23, if_pos hc44], N45⟩
        · have pre46 : ∀ t, Steps p.tables e below (T41.setTop (mkF m 78 #[.val (.int p1), .val (.int p2), .val (.int p3), .val (.int p4), .val (.int p1), .val (.int ((p4 &&& (2147483647 : Int32)) % (3 : Int32))), .val (.int (1 : Int32)), .val (.ref b3), .val .null, .val (.ref b37), .unset] [(.int p1)])) t → Steps p.tables e below (s₁.setTop (entryFrame m #[(.int p1), (.int p2), (.int p3), (.int p4)] maxLocals)) t := fun t kt => by
            refine pre43 _ ?_
            show Steps p.tables e below (T41.setTop (mkF m 67 #[.val (.int p1), .val (.int p2), .val (.int p3), .val (.int p4), .val (.int p1), .val (.int ((p4 &&& (2147483647 : Int32)) % (3 : Int32))), .val (.int (1 : Int32)), .val (.ref b3), .val .null, .val (.ref b37), .unset] [(.int p1)])) _
            refine XS.ifYes X41.here hx rfl (pc0 := 67) (pc' := 76) rfl (hb hby at_67) rfl ((if0 _ _).trans (flt hc44).2.1) (by decide) (by decide) ?_
            show Steps p.tables e below (T41.setTop (mkF m 76 #[.val (.int p1), .val (.int p2), .val (.int p3), .val (.int p4), .val (.int p1), .val (.int ((p4 &&& (2147483647 : Int32)) % (3 : Int32))), .val (.int (1 : Int32)), .val (.ref b3), .val .null, .val (.ref b37), .unset] [])) _
            refine own_blk X41 hx bl0_76_1 (own_hb hby bd0_76_1) (pc' := 78) (Ls' := #[.val (.int p1), .val (.int p2), .val (.int p3), .val (.int p4), .val (.int p1), .val (.int ((p4 &&& (2147483647 : Int32)) % (3 : Int32))), .val (.int (1 : Int32)), .val (.ref b3), .val .null, .val (.ref b37), .unset]) (st' := [(.int p1)]) rfl ?_
            exact kt
          by_cases hc47 : (0 : Int32) < p1
          · obtain ⟨_, T48, Lc48, X48, hQ48, st48⟩ := own_callV X41 hx hZ (y := (⟨"com/example/vendsettle/vendsettle/Processor$Status", "isSuccess", "()Z"⟩ : MethodName)) hown (hw _ (List.mem_of_getElem? (i := 51) rfl)) (hw _ (List.mem_of_getElem? (i := 52) rfl)) (hw _ (List.mem_of_getElem? (i := 54) rfl)) (hw _ (List.mem_of_getElem? (i := 53) rfl)) (hw _ (List.mem_of_getElem? (i := 35) rfl)) (hw _ (List.mem_of_getElem? (i := 55) rfl)) (by decide) (W := 0) Ec41_a1 (argsL := []) (rest := []) (rm8 l Z a0 hw [] b37 p1 T41.heap n0 zs42 Ec41_a1 Fc41_a1_errorCode) (by decide) (by decide) (c' := 4) (s' := 9) rfl rfl (by decide) (by decide) rfl (g := (mkF m 92 #[.val (.int p1), .val (.int p2), .val (.int p3), .val (.int p4), .val (.int p1), .val (.int ((p4 &&& (2147483647 : Int32)) % (3 : Int32))), .val (.int (1 : Int32)), .val (.ref b3), .val .null, .val (.ref b37), .val (.int (0 : Int32))] [(.ref b37)])) rfl (by rw [hml]; rfl) (lenOf pd_0_6 rfl) rfl (by show 2 * 0 + _ ≤ _; exact Nat.le_of_eq rfl) (hb hby at_92)
            obtain ⟨hv48, N48q, e48⟩ := hQ48
            have N48 := Fr.app N41 N48q
            rw [f8, if_neg (own_gtn hc47)] at hv48
            subst hv48
            have hSz : s.Since s.vm T41.heap.size := (State.WarmedH.refl s).since _
            obtain ⟨fs, hr, hrun, hended, hRW⟩ := X48.leaveW (s := s) hSz (by rw [e48]; exact (Nat.le_refl _)) (v := some (.int (1 : Int32))) (fun h => by rw [Bd.returns] at h; cases h)
            refine ⟨_, _, pre46 _ ?_, hrun, hended, _, _, rfl, ?_, ⟨_, rfl⟩, hRW.2.1, hRW.2.2.1, hRW.2.2.2.mono (by decide) (by decide)⟩
            · show Steps p.tables e below (T41.setTop (mkF m 78 #[.val (.int p1), .val (.int p2), .val (.int p3), .val (.int p4), .val (.int p1), .val (.int ((p4 &&& (2147483647 : Int32)) % (3 : Int32))), .val (.int (1 : Int32)), .val (.ref b3), .val .null, .val (.ref b37), .unset] [(.int p1)])) _
              refine XS.ifNo X41.here hx rfl (hb hby at_78) rfl ((if0 _ _).trans (tlt hc47).2.2.2) ?_
              show Steps p.tables e below (T41.setTop (mkF m 81 #[.val (.int p1), .val (.int p2), .val (.int p3), .val (.int p4), .val (.int p1), .val (.int ((p4 &&& (2147483647 : Int32)) % (3 : Int32))), .val (.int (1 : Int32)), .val (.ref b3), .val .null, .val (.ref b37), .unset] [])) _
              refine own_blk X41 hx bl0_81_2 (own_hb hby bd0_81_2) (pc' := 84) (Ls' := #[.val (.int p1), .val (.int p2), .val (.int p3), .val (.int p4), .val (.int p1), .val (.int ((p4 &&& (2147483647 : Int32)) % (3 : Int32))), .val (.int (1 : Int32)), .val (.ref b3), .val .null, .val (.ref b37), .val (.int (0 : Int32))]) (st' := []) rfl ?_
              refine own_blk X41 hx bl0_84_2 (own_hb hby bd0_84_2) (pc' := 92) (Ls' := #[.val (.int p1), .val (.int p2), .val (.int p3), .val (.int p4), .val (.int p1), .val (.int ((p4 &&& (2147483647 : Int32)) % (3 : Int32))), .val (.int (1 : Int32)), .val (.ref b3), .val .null, .val (.ref b37), .val (.int (0 : Int32))]) (st' := [(.ref b37)]) rfl ?_
              refine st48 _ ?_
              show Steps p.tables e below (T48.setTop (mkF m 95 #[.val (.int p1), .val (.int p2), .val (.int p3), .val (.int p4), .val (.int p1), .val (.int ((p4 &&& (2147483647 : Int32)) % (3 : Int32))), .val (.int (1 : Int32)), .val (.ref b3), .val .null, .val (.ref b37), .val (.int (0 : Int32))] [(.int (0 : Int32))])) _
              refine own_blk X48 hx bl0_95_1 (own_hb hby bd0_95_1) (pc' := 97) (Ls' := #[.val (.int p1), .val (.int p2), .val (.int p3), .val (.int p4), .val (.int p1), .val (.int ((p4 &&& (2147483647 : Int32)) % (3 : Int32))), .val (.int (1 : Int32)), .val (.ref b3), .val .null, .val (.ref b37), .val (.int (0 : Int32))]) (st' := [(.int (0 : Int32)), (.int (0 : Int32))]) rfl ?_
              refine XS.icmpNo X48.here hx rfl (hb hby at_97) rfl (teq (by decide : (0 : Int32) = (0 : Int32))).2 ?_
              show Steps p.tables e below (T48.setTop (mkF m 100 #[.val (.int p1), .val (.int p2), .val (.int p3), .val (.int p4), .val (.int p1), .val (.int ((p4 &&& (2147483647 : Int32)) % (3 : Int32))), .val (.int (1 : Int32)), .val (.ref b3), .val .null, .val (.ref b37), .val (.int (0 : Int32))] [])) _
              refine own_blk X48 hx bl0_100_2 (own_hb hby bd0_100_2) (pc' := 105) (Ls' := #[.val (.int p1), .val (.int p2), .val (.int p3), .val (.int p4), .val (.int p1), .val (.int ((p4 &&& (2147483647 : Int32)) % (3 : Int32))), .val (.int (1 : Int32)), .val (.ref b3), .val .null, .val (.ref b37), .val (.int (0 : Int32))]) (st' := [(.int (1 : Int32))]) rfl ?_
              exact retN X48 hx (t := .boolean) Bd.returns (by simp) (hb hby at_105) hr
            · show Q0_1 Z p1 p2 p3 p4 w1 w2 wz h0 n0 _ T48.heap _
              rw [e48]
              exact ⟨by rw [f0_1, if_pos hc2, if_neg hc9, if_neg hc23, if_neg hc44, if_pos hc47], N48⟩
          · obtain ⟨_, T49, Lc49, X49, hQ49, st49⟩ := own_callV X41 hx hZ (y := (⟨"com/example/vendsettle/vendsettle/Processor$Status", "isSuccess", "()Z"⟩ : MethodName)) hown (hw _ (List.mem_of_getElem? (i := 51) rfl)) (hw _ (List.mem_of_getElem? (i := 52) rfl)) (hw _ (List.mem_of_getElem? (i := 54) rfl)) (hw _ (List.mem_of_getElem? (i := 53) rfl)) (hw _ (List.mem_of_getElem? (i := 35) rfl)) (hw _ (List.mem_of_getElem? (i := 55) rfl)) (by decide) (W := 0) Ec41_a1 (argsL := []) (rest := []) (rm8 l Z a0 hw [] b37 p1 T41.heap n0 zs42 Ec41_a1 Fc41_a1_errorCode) (by decide) (by decide) (c' := 4) (s' := 9) rfl rfl (by decide) (by decide) rfl (g := (mkF m 92 #[.val (.int p1), .val (.int p2), .val (.int p3), .val (.int p4), .val (.int p1), .val (.int ((p4 &&& (2147483647 : Int32)) % (3 : Int32))), .val (.int (1 : Int32)), .val (.ref b3), .val .null, .val (.ref b37), .val (.int (1 : Int32))] [(.ref b37)])) rfl (by rw [hml]; rfl) (lenOf pd_0_6 rfl) rfl (by show 2 * 0 + _ ≤ _; exact Nat.le_of_eq rfl) (hb hby at_92)
            obtain ⟨hv49, N49q, e49⟩ := hQ49
            have N49 := Fr.app N41 N49q
            rw [f8, if_pos (own_z hc44 hc47)] at hv49
            subst hv49
            have hSz : s.Since s.vm T41.heap.size := (State.WarmedH.refl s).since _
            obtain ⟨fs, hr, hrun, hended, hRW⟩ := X49.leaveW (s := s) hSz (by rw [e49]; exact (Nat.le_refl _)) (v := some (.int (1 : Int32))) (fun h => by rw [Bd.returns] at h; cases h)
            refine ⟨_, _, pre46 _ ?_, hrun, hended, _, _, rfl, ?_, ⟨_, rfl⟩, hRW.2.1, hRW.2.2.1, hRW.2.2.2.mono (by decide) (by decide)⟩
            · show Steps p.tables e below (T41.setTop (mkF m 78 #[.val (.int p1), .val (.int p2), .val (.int p3), .val (.int p4), .val (.int p1), .val (.int ((p4 &&& (2147483647 : Int32)) % (3 : Int32))), .val (.int (1 : Int32)), .val (.ref b3), .val .null, .val (.ref b37), .unset] [(.int p1)])) _
              refine XS.ifYes X41.here hx rfl (pc0 := 78) (pc' := 87) rfl (hb hby at_78) rfl ((if0 _ _).trans (flt hc47).2.2.2) (by decide) (by decide) ?_
              show Steps p.tables e below (T41.setTop (mkF m 87 #[.val (.int p1), .val (.int p2), .val (.int p3), .val (.int p4), .val (.int p1), .val (.int ((p4 &&& (2147483647 : Int32)) % (3 : Int32))), .val (.int (1 : Int32)), .val (.ref b3), .val .null, .val (.ref b37), .unset] [])) _
              refine own_blk X41 hx bl0_87_2 (own_hb hby bd0_87_2) (pc' := 90) (Ls' := #[.val (.int p1), .val (.int p2), .val (.int p3), .val (.int p4), .val (.int p1), .val (.int ((p4 &&& (2147483647 : Int32)) % (3 : Int32))), .val (.int (1 : Int32)), .val (.ref b3), .val .null, .val (.ref b37), .val (.int (1 : Int32))]) (st' := []) rfl ?_
              refine own_blk X41 hx bl0_90_1 (own_hb hby bd0_90_1) (pc' := 92) (Ls' := #[.val (.int p1), .val (.int p2), .val (.int p3), .val (.int p4), .val (.int p1), .val (.int ((p4 &&& (2147483647 : Int32)) % (3 : Int32))), .val (.int (1 : Int32)), .val (.ref b3), .val .null, .val (.ref b37), .val (.int (1 : Int32))]) (st' := [(.ref b37)]) rfl ?_
              refine st49 _ ?_
              show Steps p.tables e below (T49.setTop (mkF m 95 #[.val (.int p1), .val (.int p2), .val (.int p3), .val (.int p4), .val (.int p1), .val (.int ((p4 &&& (2147483647 : Int32)) % (3 : Int32))), .val (.int (1 : Int32)), .val (.ref b3), .val .null, .val (.ref b37), .val (.int (1 : Int32))] [(.int (1 : Int32))])) _
              refine own_blk X49 hx bl0_95_1 (own_hb hby bd0_95_1) (pc' := 97) (Ls' := #[.val (.int p1), .val (.int p2), .val (.int p3), .val (.int p4), .val (.int p1), .val (.int ((p4 &&& (2147483647 : Int32)) % (3 : Int32))), .val (.int (1 : Int32)), .val (.ref b3), .val .null, .val (.ref b37), .val (.int (1 : Int32))]) (st' := [(.int (1 : Int32)), (.int (1 : Int32))]) rfl ?_
              refine XS.icmpNo X49.here hx rfl (hb hby at_97) rfl (teq (by decide : (1 : Int32) = (1 : Int32))).2 ?_
              show Steps p.tables e below (T49.setTop (mkF m 100 #[.val (.int p1), .val (.int p2), .val (.int p3), .val (.int p4), .val (.int p1), .val (.int ((p4 &&& (2147483647 : Int32)) % (3 : Int32))), .val (.int (1 : Int32)), .val (.ref b3), .val .null, .val (.ref b37), .val (.int (1 : Int32))] [])) _
              refine own_blk X49 hx bl0_100_2 (own_hb hby bd0_100_2) (pc' := 105) (Ls' := #[.val (.int p1), .val (.int p2), .val (.int p3), .val (.int p4), .val (.int p1), .val (.int ((p4 &&& (2147483647 : Int32)) % (3 : Int32))), .val (.int (1 : Int32)), .val (.ref b3), .val .null, .val (.ref b37), .val (.int (1 : Int32))]) (st' := [(.int (1 : Int32))]) rfl ?_
              exact retN X49 hx (t := .boolean) Bd.returns (by simp) (hb hby at_105) hr
            · show Q0_1 Z p1 p2 p3 p4 w1 w2 wz h0 n0 _ T49.heap _
              rw [e49]
              exact ⟨by rw [f0_1, if_pos hc2, if_neg hc9, if_neg hc23, if_neg hc44, if_neg hc47], N49⟩
  · obtain ⟨_, T50, Lc50, X50, hQ50, st50⟩ := own_callS X0 hx hZ (y := (⟨"com/example/vendsettle/vendsettle/StatusIsSuccessPinLaw", "messageOf", "(III)Ljava/lang/String;"⟩ : MethodName)) hown (hw _ (List.mem_of_getElem? (i := 1) rfl)) (hw _ (List.mem_of_getElem? (i := 2) rfl)) (hw _ (List.mem_of_getElem? (i := 3) rfl)) (hw _ (List.mem_of_getElem? (i := 4) rfl)) (by decide) (W := 0) (argsL := [(.int (1 : Int32)), (.int p2), (.int p3)]) (rest := []) (rm1_1 l Z a0 hw [] p2 p3 wz h0 n0 Z0 S_COMPACT_STRINGS hwz) (by decide) (by decide) (c' := 3) (s' := 6) rfl rfl (by decide) (by decide) e0 (g := (mkF m 38 #[.val (.int p1), .val (.int p2), .val (.int p3), .val (.int p4), .val (.int (0 : Int32)), .val (.int ((p4 &&& (2147483647 : Int32)) % (3 : Int32))), .val (.int (1 : Int32)), .unset, .unset, .unset, .unset] [(.int p3), (.int p2), (.int (1 : Int32))])) rfl (by rw [hml]; rfl) (lenOf pd_0_0 rfl) rfl (by show 2 * 0 + _ ≤ _; exact Nat.le_of_eq rfl) (hb hby at_38)
    obtain ⟨b50, rfl, N50q, K50⟩ := hQ50
    have N50 := Fr.app N0 N50q
    have zs51 : n0 ≤ T50.heap.size := Nat.le_trans Z0 K50.1
    have fa53 : Sta Z T50.heap "com/example/vendsettle/vendsettle/Processor$Reason" "ALREADY_COMPLETED" "Lcom/example/vendsettle/vendsettle/Processor$Reason;" (.ref w1) := (own_sta_keep S_ALREADY_COMPLETED K50)
    have fa54 : Sta Z T50.heap "com/example/vendsettle/vendsettle/Processor$Reason" "NOT_FOUND" "Lcom/example/vendsettle/vendsettle/Processor$Reason;" (.ref w2) := (own_sta_keep S_NOT_FOUND K50)
    obtain ⟨_, T52, Lc52, X52, hQ52, st52⟩ := own_callS X50 hx hZ (y := (⟨"com/example/vendsettle/vendsettle/StatusIsSuccessPinLaw", "reasonOf", "(I)Lcom/example/vendsettle/vendsettle/Processor$Reason;"⟩ : MethodName)) hown (hw _ (List.mem_of_getElem? (i := 27) rfl)) (hw _ (List.mem_of_getElem? (i := 28) rfl)) (hw _ (List.mem_of_getElem? (i := 3) rfl)) (hw _ (List.mem_of_getElem? (i := 29) rfl)) (by decide) (W := 0) (argsL := [(.int ((p4 &&& (2147483647 : Int32)) % (3 : Int32)))]) (rest := []) (rm5 l Z a0 hw [] ((p4 &&& (2147483647 : Int32)) % (3 : Int32)) w1 w2 T50.heap n0 zs51 fa53 fa54) (by decide) (by decide) (c' := 3) (s' := 6) rfl rfl (by decide) (by decide) rfl (g := (mkF m 45 #[.val (.int p1), .val (.int p2), .val (.int p3), .val (.int p4), .val (.int (0 : Int32)), .val (.int ((p4 &&& (2147483647 : Int32)) % (3 : Int32))), .val (.int (1 : Int32)), .val (.ref b50), .unset, .unset, .unset] [(.int ((p4 &&& (2147483647 : Int32)) % (3 : Int32)))])) rfl (by rw [hml]; rfl) (lenOf pd_0_4 rfl) rfl (by show 2 * 0 + _ ≤ _; exact Nat.le_of_eq rfl) (hb hby at_45)
    obtain ⟨hv52, N52q, e52⟩ := hQ52
    have N52 := Fr.app N50 N52q
    have pre55 : ∀ t, Steps p.tables e below (T50.setTop (mkF m 45 #[.val (.int p1), .val (.int p2), .val (.int p3), .val (.int p4), .val (.int (0 : Int32)), .val (.int ((p4 &&& (2147483647 : Int32)) % (3 : Int32))), .val (.int (1 : Int32)), .val (.ref b50), .unset, .unset, .unset] [(.int ((p4 &&& (2147483647 : Int32)) % (3 : Int32)))])) t → Steps p.tables e below (s₁.setTop (entryFrame m #[(.int p1), (.int p2), (.int p3), (.int p4)] maxLocals)) t := fun t kt => by
      refine pre1 _ ?_
      show Steps p.tables e below (s₁.setTop (mkF m 5 #[.val (.int p1), .val (.int p2), .val (.int p3), .val (.int p4), .unset, .unset, .unset, .unset, .unset, .unset, .unset] [(.int ((p4 >>> ((4 : Int32) &&& 31)) &&& (1 : Int32)))])) _
      refine XS.ifNo X0.here hx rfl (hb hby at_5) rfl ((if0 _ _).trans (feq hc2).1) ?_
      show Steps p.tables e below (s₁.setTop (mkF m 8 #[.val (.int p1), .val (.int p2), .val (.int p3), .val (.int p4), .unset, .unset, .unset, .unset, .unset, .unset, .unset] [])) _
      refine own_blk X0 hx bl0_8_3 (own_hb hby bd0_8_3) (pc' := 15) (Ls' := #[.val (.int p1), .val (.int p2), .val (.int p3), .val (.int p4), .val (.int (0 : Int32)), .unset, .unset, .unset, .unset, .unset, .unset]) (st' := []) rfl ?_
      refine own_blk X0 hx bl0_15_1 (own_hb hby bd0_15_1) (pc' := 16) (Ls' := #[.val (.int p1), .val (.int p2), .val (.int p3), .val (.int p4), .val (.int (0 : Int32)), .unset, .unset, .unset, .unset, .unset, .unset]) (st' := [(.int p4)]) rfl ?_
      refine X0.ldcInt hx hown (mvT hZ (hw _ (List.mem_of_getElem? (i := 0) rfl))) (g := (mkF m 16 #[.val (.int p1), .val (.int p2), .val (.int p3), .val (.int p4), .val (.int (0 : Int32)), .unset, .unset, .unset, .unset, .unset, .unset] [(.int p4)])) rfl (hb hby at_16) _ ?_
      show Steps p.tables e below (s₁.setTop (mkF m 18 #[.val (.int p1), .val (.int p2), .val (.int p3), .val (.int p4), .val (.int (0 : Int32)), .unset, .unset, .unset, .unset, .unset, .unset] [(.int (2147483647 : Int32)), (.int p4)])) _
      refine own_blk X0 hx bl0_18_2 (own_hb hby bd0_18_2) (pc' := 20) (Ls' := #[.val (.int p1), .val (.int p2), .val (.int p3), .val (.int p4), .val (.int (0 : Int32)), .unset, .unset, .unset, .unset, .unset, .unset]) (st' := [(.int (3 : Int32)), (.int (p4 &&& (2147483647 : Int32)))]) rfl ?_
      refine iremM X0 hx rfl (hb hby at_20) rfl (by decide : ¬ ((3 : Int32) = (0 : Int32))) ?_
      show Steps p.tables e below (s₁.setTop (mkF m 21 #[.val (.int p1), .val (.int p2), .val (.int p3), .val (.int p4), .val (.int (0 : Int32)), .unset, .unset, .unset, .unset, .unset, .unset] [(.int ((p4 &&& (2147483647 : Int32)) % (3 : Int32)))])) _
      refine own_blk X0 hx bl0_21_1 (own_hb hby bd0_21_1) (pc' := 23) (Ls' := #[.val (.int p1), .val (.int p2), .val (.int p3), .val (.int p4), .val (.int (0 : Int32)), .val (.int ((p4 &&& (2147483647 : Int32)) % (3 : Int32))), .unset, .unset, .unset, .unset, .unset]) (st' := []) rfl ?_
      refine own_blk X0 hx bl0_23_3 (own_hb hby bd0_23_3) (pc' := 27) (Ls' := #[.val (.int p1), .val (.int p2), .val (.int p3), .val (.int p4), .val (.int (0 : Int32)), .val (.int ((p4 &&& (2147483647 : Int32)) % (3 : Int32))), .unset, .unset, .unset, .unset, .unset]) (st' := [(.int (p4 >>> ((8 : Int32) &&& 31)))]) rfl ?_
      refine X0.ldcInt hx hown (mvT hZ (hw _ (List.mem_of_getElem? (i := 0) rfl))) (g := (mkF m 27 #[.val (.int p1), .val (.int p2), .val (.int p3), .val (.int p4), .val (.int (0 : Int32)), .val (.int ((p4 &&& (2147483647 : Int32)) % (3 : Int32))), .unset, .unset, .unset, .unset, .unset] [(.int (p4 >>> ((8 : Int32) &&& 31)))])) rfl (hb hby at_27) _ ?_
      show Steps p.tables e below (s₁.setTop (mkF m 29 #[.val (.int p1), .val (.int p2), .val (.int p3), .val (.int p4), .val (.int (0 : Int32)), .val (.int ((p4 &&& (2147483647 : Int32)) % (3 : Int32))), .unset, .unset, .unset, .unset, .unset] [(.int (2147483647 : Int32)), (.int (p4 >>> ((8 : Int32) &&& 31)))])) _
      refine own_blk X0 hx bl0_29_2 (own_hb hby bd0_29_2) (pc' := 31) (Ls' := #[.val (.int p1), .val (.int p2), .val (.int p3), .val (.int p4), .val (.int (0 : Int32)), .val (.int ((p4 &&& (2147483647 : Int32)) % (3 : Int32))), .unset, .unset, .unset, .unset, .unset]) (st' := [(.int (3 : Int32)), (.int ((p4 >>> ((8 : Int32) &&& 31)) &&& (2147483647 : Int32)))]) rfl ?_
      refine iremM X0 hx rfl (hb hby at_31) rfl (by decide : ¬ ((3 : Int32) = (0 : Int32))) ?_
      show Steps p.tables e below (s₁.setTop (mkF m 32 #[.val (.int p1), .val (.int p2), .val (.int p3), .val (.int p4), .val (.int (0 : Int32)), .val (.int ((p4 &&& (2147483647 : Int32)) % (3 : Int32))), .unset, .unset, .unset, .unset, .unset] [(.int (((p4 >>> ((8 : Int32) &&& 31)) &&& (2147483647 : Int32)) % (3 : Int32)))])) _
      rw [hn]
      show Steps p.tables e below (s₁.setTop (mkF m 32 #[.val (.int p1), .val (.int p2), .val (.int p3), .val (.int p4), .val (.int (0 : Int32)), .val (.int ((p4 &&& (2147483647 : Int32)) % (3 : Int32))), .unset, .unset, .unset, .unset, .unset] [(.int (1 : Int32))])) _
      refine own_blk X0 hx bl0_32_1 (own_hb hby bd0_32_1) (pc' := 34) (Ls' := #[.val (.int p1), .val (.int p2), .val (.int p3), .val (.int p4), .val (.int (0 : Int32)), .val (.int ((p4 &&& (2147483647 : Int32)) % (3 : Int32))), .val (.int (1 : Int32)), .unset, .unset, .unset, .unset]) (st' := []) rfl ?_
      refine own_blk X0 hx bl0_34_3 (own_hb hby bd0_34_3) (pc' := 38) (Ls' := #[.val (.int p1), .val (.int p2), .val (.int p3), .val (.int p4), .val (.int (0 : Int32)), .val (.int ((p4 &&& (2147483647 : Int32)) % (3 : Int32))), .val (.int (1 : Int32)), .unset, .unset, .unset, .unset]) (st' := [(.int p3), (.int p2), (.int (1 : Int32))]) rfl ?_
      refine st50 _ ?_
      show Steps p.tables e below (T50.setTop (mkF m 41 #[.val (.int p1), .val (.int p2), .val (.int p3), .val (.int p4), .val (.int (0 : Int32)), .val (.int ((p4 &&& (2147483647 : Int32)) % (3 : Int32))), .val (.int (1 : Int32)), .unset, .unset, .unset, .unset] [(.ref b50)])) _
      refine own_blk X50 hx bl0_41_1 (own_hb hby bd0_41_1) (pc' := 43) (Ls' := #[.val (.int p1), .val (.int p2), .val (.int p3), .val (.int p4), .val (.int (0 : Int32)), .val (.int ((p4 &&& (2147483647 : Int32)) % (3 : Int32))), .val (.int (1 : Int32)), .val (.ref b50), .unset, .unset, .unset]) (st' := []) rfl ?_
      refine own_blk X50 hx bl0_43_1 (own_hb hby bd0_43_1) (pc' := 45) (Ls' := #[.val (.int p1), .val (.int p2), .val (.int p3), .val (.int p4), .val (.int (0 : Int32)), .val (.int ((p4 &&& (2147483647 : Int32)) % (3 : Int32))), .val (.int (1 : Int32)), .val (.ref b50), .unset, .unset, .unset]) (st' := [(.int ((p4 &&& (2147483647 : Int32)) % (3 : Int32)))]) rfl ?_
      exact kt
    by_cases hc56 : ((p4 &&& (2147483647 : Int32)) % (3 : Int32)) = (1 : Int32)
    · rw [f5, if_pos hc56] at hv52
      subst hv52
      obtain ⟨T57, h57, X57, e57, E57, A57, D57, -, st57⟩ := newO X52 hx hZ hown (hw _ (List.mem_of_getElem? (i := 33) rfl)) (hw _ (List.mem_of_getElem? (i := 34) rfl)) (hw _ (List.mem_of_getElem? (i := 35) rfl)) e52 (g := (mkF m 50 #[.val (.int p1), .val (.int p2), .val (.int p3), .val (.int p4), .val (.int (0 : Int32)), .val (.int ((p4 &&& (2147483647 : Int32)) % (3 : Int32))), .val (.int (1 : Int32)), .val (.ref b50), .val (.ref w1), .unset, .unset] [])) rfl (hb hby at_50) (by decide) (by decide)
      obtain ⟨b57, g57⟩ : ∃ z, z = T50.heap.size := ⟨_, rfl⟩
      rw [← g57] at A57 D57 st57
      have fa58 : Exa Z T50.heap w1 "com/example/vendsettle/vendsettle/Processor$Reason" := (E_w1.keep K50)
      have ne_w1_b57 : w1 ≠ b57 := Nat.ne_of_lt (Nat.lt_of_lt_of_le fa58.lt (Nat.le_of_eq g57.symm))
      have fa59 : Exa Z T50.heap w2 "com/example/vendsettle/vendsettle/Processor$Reason" := (E_w2.keep K50)
      have ne_w2_b57 : w2 ≠ b57 := Nat.ne_of_lt (Nat.lt_of_lt_of_le fa59.lt (Nat.le_of_eq g57.symm))
      have g_b57 : n0 ≤ b57 := Nat.le_trans zs51 (Nat.le_of_eq g57.symm)
      have zs60 : n0 ≤ h57.size := Nat.le_trans zs51 E57.1
      have F_errorCode_b57 : Fld Z h57 b57 "com/example/vendsettle/vendsettle/Processor$Status" "errorCode" "I" (.int (0 : Int32)) := D57 (Or.inr (hw _ (List.mem_of_getElem? (i := 46) rfl))) (ty := .int) (by decide)
      have F_statusMessage_b57 : Fld Z h57 b57 "com/example/vendsettle/vendsettle/Processor$Status" "statusMessage" "Ljava/lang/String;" .null := D57 (Or.inr (hw _ (List.mem_of_getElem? (i := 48) rfl))) (ty := (.object "java/lang/String")) (by decide)
      have F_reason_b57 : Fld Z h57 b57 "com/example/vendsettle/vendsettle/Processor$Status" "reason" "Lcom/example/vendsettle/vendsettle/Processor$Reason;" .null := D57 (Or.inr (hw _ (List.mem_of_getElem? (i := 50) rfl))) (ty := (.object "com/example/vendsettle/vendsettle/Processor$Reason")) (by decide)
      obtain ⟨_, T61, Lc61, X61, hQ61, st61⟩ := own_callI X57 hx hZ (y := (⟨"com/example/vendsettle/vendsettle/Processor$Status", "<init>", "(ILjava/lang/String;Lcom/example/vendsettle/vendsettle/Processor$Reason;)V"⟩ : MethodName)) rfl hown (hw _ (List.mem_of_getElem? (i := 36) rfl)) (hw _ (List.mem_of_getElem? (i := 37) rfl)) (hw _ (List.mem_of_getElem? (i := 35) rfl)) (hw _ (List.mem_of_getElem? (i := 38) rfl)) (by decide) (W := 1) (a := b57) (argsL := [(.int (0 : Int32)), (.ref b50), (.ref w1)]) (rest := [(.ref b57)]) (rm6r l Z a0 hw [] b57 (0 : Int32) b50 w1 h57 n0 zs60 A57 F_errorCode_b57 F_statusMessage_b57 F_reason_b57 g_b57) (by decide) (by decide) (c' := 4) (s' := 9) rfl rfl (by decide) (by decide) e57 (g := (mkF m 60 #[.val (.int p1), .val (.int p2), .val (.int p3), .val (.int p4), .val (.int (0 : Int32)), .val (.int ((p4 &&& (2147483647 : Int32)) % (3 : Int32))), .val (.int (1 : Int32)), .val (.ref b50), .val (.ref w1), .unset, .unset] [(.ref w1), (.ref b50), (.int (0 : Int32)), (.ref b57), (.ref b57)])) rfl (by rw [hml]; rfl) (lenOf pd_0_5 rfl) rfl (by show 2 * 0 + _ ≤ _; exact Nat.le_of_eq rfl) (hb hby at_60)
      obtain ⟨rfl, N61q, K61, Ec61_a1, Fc61_a1_errorCode, Fc61_a1_statusMessage, Fc61_a1_reason⟩ := hQ61
      have N61 := Fr.app N52 N61q
      have zs62 : n0 ≤ T61.heap.size := Nat.le_trans zs60 K61.1
      obtain ⟨_, T63, Lc63, X63, hQ63, st63⟩ := own_callV X61 hx hZ (y := (⟨"com/example/vendsettle/vendsettle/Processor$Status", "isSuccess", "()Z"⟩ : MethodName)) hown (hw _ (List.mem_of_getElem? (i := 51) rfl)) (hw _ (List.mem_of_getElem? (i := 52) rfl)) (hw _ (List.mem_of_getElem? (i := 54) rfl)) (hw _ (List.mem_of_getElem? (i := 53) rfl)) (hw _ (List.mem_of_getElem? (i := 35) rfl)) (hw _ (List.mem_of_getElem? (i := 55) rfl)) (by decide) (W := 0) Ec61_a1 (argsL := []) (rest := []) (rm8 l Z a0 hw [] b57 (0 : Int32) T61.heap n0 zs62 Ec61_a1 Fc61_a1_errorCode) (by decide) (by decide) (c' := 4) (s' := 9) rfl rfl (by decide) (by decide) rfl (g := (mkF m 92 #[.val (.int p1), .val (.int p2), .val (.int p3), .val (.int p4), .val (.int (0 : Int32)), .val (.int ((p4 &&& (2147483647 : Int32)) % (3 : Int32))), .val (.int (1 : Int32)), .val (.ref b50), .val (.ref w1), .val (.ref b57), .val (.int (1 : Int32))] [(.ref b57)])) rfl (by rw [hml]; rfl) (lenOf pd_0_6 rfl) rfl (by show 2 * 0 + _ ≤ _; exact Nat.le_of_eq rfl) (hb hby at_92)
      obtain ⟨hv63, N63q, e63⟩ := hQ63
      have N63 := Fr.app N61 N63q
      rw [f8, if_pos (by decide : (0 : Int32) = (0 : Int32))] at hv63
      subst hv63
      have hSz : s.Since s.vm T61.heap.size := (State.WarmedH.refl s).since _
      obtain ⟨fs, hr, hrun, hended, hRW⟩ := X63.leaveW (s := s) hSz (by rw [e63]; exact (Nat.le_refl _)) (v := some (.int (1 : Int32))) (fun h => by rw [Bd.returns] at h; cases h)
      refine ⟨_, _, pre55 _ ?_, hrun, hended, _, _, rfl, ?_, ⟨_, rfl⟩, hRW.2.1, hRW.2.2.1, hRW.2.2.2.mono (by decide) (by decide)⟩
      · refine st52 _ ?_
        show Steps p.tables e below (T52.setTop (mkF m 48 #[.val (.int p1), .val (.int p2), .val (.int p3), .val (.int p4), .val (.int (0 : Int32)), .val (.int ((p4 &&& (2147483647 : Int32)) % (3 : Int32))), .val (.int (1 : Int32)), .val (.ref b50), .unset, .unset, .unset] [(.ref w1)])) _
        refine own_blk X52 hx bl0_48_1 (own_hb hby bd0_48_1) (pc' := 50) (Ls' := #[.val (.int p1), .val (.int p2), .val (.int p3), .val (.int p4), .val (.int (0 : Int32)), .val (.int ((p4 &&& (2147483647 : Int32)) % (3 : Int32))), .val (.int (1 : Int32)), .val (.ref b50), .val (.ref w1), .unset, .unset]) (st' := []) rfl ?_
        refine st57 _ ?_
        show Steps p.tables e below (T57.setTop (mkF m 53 #[.val (.int p1), .val (.int p2), .val (.int p3), .val (.int p4), .val (.int (0 : Int32)), .val (.int ((p4 &&& (2147483647 : Int32)) % (3 : Int32))), .val (.int (1 : Int32)), .val (.ref b50), .val (.ref w1), .unset, .unset] [(.ref b57)])) _
        refine own_blk X57 hx bl0_53_4 (own_hb hby bd0_53_4) (pc' := 60) (Ls' := #[.val (.int p1), .val (.int p2), .val (.int p3), .val (.int p4), .val (.int (0 : Int32)), .val (.int ((p4 &&& (2147483647 : Int32)) % (3 : Int32))), .val (.int (1 : Int32)), .val (.ref b50), .val (.ref w1), .unset, .unset]) (st' := [(.ref w1), (.ref b50), (.int (0 : Int32)), (.ref b57), (.ref b57)]) rfl ?_
        refine st61 _ ?_
        show Steps p.tables e below (T61.setTop (mkF m 63 #[.val (.int p1), .val (.int p2), .val (.int p3), .val (.int p4), .val (.int (0 : Int32)), .val (.int ((p4 &&& (2147483647 : Int32)) % (3 : Int32))), .val (.int (1 : Int32)), .val (.ref b50), .val (.ref w1), .unset, .unset] [(.ref b57)])) _
        refine own_blk X61 hx bl0_63_1 (own_hb hby bd0_63_1) (pc' := 65) (Ls' := #[.val (.int p1), .val (.int p2), .val (.int p3), .val (.int p4), .val (.int (0 : Int32)), .val (.int ((p4 &&& (2147483647 : Int32)) % (3 : Int32))), .val (.int (1 : Int32)), .val (.ref b50), .val (.ref w1), .val (.ref b57), .unset]) (st' := []) rfl ?_
        refine own_blk X61 hx bl0_65_1 (own_hb hby bd0_65_1) (pc' := 67) (Ls' := #[.val (.int p1), .val (.int p2), .val (.int p3), .val (.int p4), .val (.int (0 : Int32)), .val (.int ((p4 &&& (2147483647 : Int32)) % (3 : Int32))), .val (.int (1 : Int32)), .val (.ref b50), .val (.ref w1), .val (.ref b57), .unset]) (st' := [(.int (0 : Int32))]) rfl ?_
        refine XS.ifYes X61.here hx rfl (pc0 := 67) (pc' := 76) rfl (hb hby at_67) rfl ((if0 _ _).trans (flt (by decide : ¬ ((0 : Int32) < (0 : Int32)))).2.1) (by decide) (by decide) ?_
        show Steps p.tables e below (T61.setTop (mkF m 76 #[.val (.int p1), .val (.int p2), .val (.int p3), .val (.int p4), .val (.int (0 : Int32)), .val (.int ((p4 &&& (2147483647 : Int32)) % (3 : Int32))), .val (.int (1 : Int32)), .val (.ref b50), .val (.ref w1), .val (.ref b57), .unset] [])) _
        refine own_blk X61 hx bl0_76_1 (own_hb hby bd0_76_1) (pc' := 78) (Ls' := #[.val (.int p1), .val (.int p2), .val (.int p3), .val (.int p4), .val (.int (0 : Int32)), .val (.int ((p4 &&& (2147483647 : Int32)) % (3 : Int32))), .val (.int (1 : Int32)), .val (.ref b50), .val (.ref w1), .val (.ref b57), .unset]) (st' := [(.int (0 : Int32))]) rfl ?_
        refine XS.ifYes X61.here hx rfl (pc0 := 78) (pc' := 87) rfl (hb hby at_78) rfl ((if0 _ _).trans (flt (by decide : ¬ ((0 : Int32) < (0 : Int32)))).2.2.2) (by decide) (by decide) ?_
        show Steps p.tables e below (T61.setTop (mkF m 87 #[.val (.int p1), .val (.int p2), .val (.int p3), .val (.int p4), .val (.int (0 : Int32)), .val (.int ((p4 &&& (2147483647 : Int32)) % (3 : Int32))), .val (.int (1 : Int32)), .val (.ref b50), .val (.ref w1), .val (.ref b57), .unset] [])) _
        refine own_blk X61 hx bl0_87_2 (own_hb hby bd0_87_2) (pc' := 90) (Ls' := #[.val (.int p1), .val (.int p2), .val (.int p3), .val (.int p4), .val (.int (0 : Int32)), .val (.int ((p4 &&& (2147483647 : Int32)) % (3 : Int32))), .val (.int (1 : Int32)), .val (.ref b50), .val (.ref w1), .val (.ref b57), .val (.int (1 : Int32))]) (st' := []) rfl ?_
        refine own_blk X61 hx bl0_90_1 (own_hb hby bd0_90_1) (pc' := 92) (Ls' := #[.val (.int p1), .val (.int p2), .val (.int p3), .val (.int p4), .val (.int (0 : Int32)), .val (.int ((p4 &&& (2147483647 : Int32)) % (3 : Int32))), .val (.int (1 : Int32)), .val (.ref b50), .val (.ref w1), .val (.ref b57), .val (.int (1 : Int32))]) (st' := [(.ref b57)]) rfl ?_
        refine st63 _ ?_
        show Steps p.tables e below (T63.setTop (mkF m 95 #[.val (.int p1), .val (.int p2), .val (.int p3), .val (.int p4), .val (.int (0 : Int32)), .val (.int ((p4 &&& (2147483647 : Int32)) % (3 : Int32))), .val (.int (1 : Int32)), .val (.ref b50), .val (.ref w1), .val (.ref b57), .val (.int (1 : Int32))] [(.int (1 : Int32))])) _
        refine own_blk X63 hx bl0_95_1 (own_hb hby bd0_95_1) (pc' := 97) (Ls' := #[.val (.int p1), .val (.int p2), .val (.int p3), .val (.int p4), .val (.int (0 : Int32)), .val (.int ((p4 &&& (2147483647 : Int32)) % (3 : Int32))), .val (.int (1 : Int32)), .val (.ref b50), .val (.ref w1), .val (.ref b57), .val (.int (1 : Int32))]) (st' := [(.int (1 : Int32)), (.int (1 : Int32))]) rfl ?_
        refine XS.icmpNo X63.here hx rfl (hb hby at_97) rfl (teq (by decide : (1 : Int32) = (1 : Int32))).2 ?_
        show Steps p.tables e below (T63.setTop (mkF m 100 #[.val (.int p1), .val (.int p2), .val (.int p3), .val (.int p4), .val (.int (0 : Int32)), .val (.int ((p4 &&& (2147483647 : Int32)) % (3 : Int32))), .val (.int (1 : Int32)), .val (.ref b50), .val (.ref w1), .val (.ref b57), .val (.int (1 : Int32))] [])) _
        refine own_blk X63 hx bl0_100_2 (own_hb hby bd0_100_2) (pc' := 105) (Ls' := #[.val (.int p1), .val (.int p2), .val (.int p3), .val (.int p4), .val (.int (0 : Int32)), .val (.int ((p4 &&& (2147483647 : Int32)) % (3 : Int32))), .val (.int (1 : Int32)), .val (.ref b50), .val (.ref w1), .val (.ref b57), .val (.int (1 : Int32))]) (st' := [(.int (1 : Int32))]) rfl ?_
        exact retN X63 hx (t := .boolean) Bd.returns (by simp) (hb hby at_105) hr
      · show Q0_1 Z p1 p2 p3 p4 w1 w2 wz h0 n0 _ T63.heap _
        rw [e63]
        exact ⟨by rw [f0_1, if_neg hc2, if_pos hc56], N63⟩
    · by_cases hc64 : ((p4 &&& (2147483647 : Int32)) % (3 : Int32)) = (2 : Int32)
      · rw [f5, if_neg hc56, if_pos hc64] at hv52
        subst hv52
        obtain ⟨T65, h65, X65, e65, E65, A65, D65, -, st65⟩ := newO X52 hx hZ hown (hw _ (List.mem_of_getElem? (i := 33) rfl)) (hw _ (List.mem_of_getElem? (i := 34) rfl)) (hw _ (List.mem_of_getElem? (i := 35) rfl)) e52 (g := (mkF m 50 #[.val (.int p1), .val (.int p2), .val (.int p3), .val (.int p4), .val (.int (0 : Int32)), .val (.int ((p4 &&& (2147483647 : Int32)) % (3 : Int32))), .val (.int (1 : Int32)), .val (.ref b50), .val (.ref w2), .unset, .unset] [])) rfl (hb hby at_50) (by decide) (by decide)
        obtain ⟨b65, g65⟩ : ∃ z, z = T50.heap.size := ⟨_, rfl⟩
        rw [← g65] at A65 D65 st65
        have fa66 : Exa Z T50.heap w1 "com/example/vendsettle/vendsettle/Processor$Reason" := (E_w1.keep K50)
        have ne_w1_b65 : w1 ≠ b65 := Nat.ne_of_lt (Nat.lt_of_lt_of_le fa66.lt (Nat.le_of_eq g65.symm))
        have fa67 : Exa Z T50.heap w2 "com/example/vendsettle/vendsettle/Processor$Reason" := (E_w2.keep K50)
        have ne_w2_b65 : w2 ≠ b65 := Nat.ne_of_lt (Nat.lt_of_lt_of_le fa67.lt (Nat.le_of_eq g65.symm))
        have g_b65 : n0 ≤ b65 := Nat.le_trans zs51 (Nat.le_of_eq g65.symm)
        have zs68 : n0 ≤ h65.size := Nat.le_trans zs51 E65.1
        have F_errorCode_b65 : Fld Z h65 b65 "com/example/vendsettle/vendsettle/Processor$Status" "errorCode" "I" (.int (0 : Int32)) := D65 (Or.inr (hw _ (List.mem_of_getElem? (i := 46) rfl))) (ty := .int) (by decide)
        have F_statusMessage_b65 : Fld Z h65 b65 "com/example/vendsettle/vendsettle/Processor$Status" "statusMessage" "Ljava/lang/String;" .null := D65 (Or.inr (hw _ (List.mem_of_getElem? (i := 48) rfl))) (ty := (.object "java/lang/String")) (by decide)
        have F_reason_b65 : Fld Z h65 b65 "com/example/vendsettle/vendsettle/Processor$Status" "reason" "Lcom/example/vendsettle/vendsettle/Processor$Reason;" .null := D65 (Or.inr (hw _ (List.mem_of_getElem? (i := 50) rfl))) (ty := (.object "com/example/vendsettle/vendsettle/Processor$Reason")) (by decide)
        obtain ⟨_, T69, Lc69, X69, hQ69, st69⟩ := own_callI X65 hx hZ (y := (⟨"com/example/vendsettle/vendsettle/Processor$Status", "<init>", "(ILjava/lang/String;Lcom/example/vendsettle/vendsettle/Processor$Reason;)V"⟩ : MethodName)) rfl hown (hw _ (List.mem_of_getElem? (i := 36) rfl)) (hw _ (List.mem_of_getElem? (i := 37) rfl)) (hw _ (List.mem_of_getElem? (i := 35) rfl)) (hw _ (List.mem_of_getElem? (i := 38) rfl)) (by decide) (W := 1) (a := b65) (argsL := [(.int (0 : Int32)), (.ref b50), (.ref w2)]) (rest := [(.ref b65)]) (rm6r l Z a0 hw [] b65 (0 : Int32) b50 w2 h65 n0 zs68 A65 F_errorCode_b65 F_statusMessage_b65 F_reason_b65 g_b65) (by decide) (by decide) (c' := 4) (s' := 9) rfl rfl (by decide) (by decide) e65 (g := (mkF m 60 #[.val (.int p1), .val (.int p2), .val (.int p3), .val (.int p4), .val (.int (0 : Int32)), .val (.int ((p4 &&& (2147483647 : Int32)) % (3 : Int32))), .val (.int (1 : Int32)), .val (.ref b50), .val (.ref w2), .unset, .unset] [(.ref w2), (.ref b50), (.int (0 : Int32)), (.ref b65), (.ref b65)])) rfl (by rw [hml]; rfl) (lenOf pd_0_5 rfl) rfl (by show 2 * 0 + _ ≤ _; exact Nat.le_of_eq rfl) (hb hby at_60)
        obtain ⟨rfl, N69q, K69, Ec69_a1, Fc69_a1_errorCode, Fc69_a1_statusMessage, Fc69_a1_reason⟩ := hQ69
        have N69 := Fr.app N52 N69q
        have zs70 : n0 ≤ T69.heap.size := Nat.le_trans zs68 K69.1
        obtain ⟨_, T71, Lc71, X71, hQ71, st71⟩ := own_callV X69 hx hZ (y := (⟨"com/example/vendsettle/vendsettle/Processor$Status", "isSuccess", "()Z"⟩ : MethodName)) hown (hw _ (List.mem_of_getElem? (i := 51) rfl)) (hw _ (List.mem_of_getElem? (i := 52) rfl)) (hw _ (List.mem_of_getElem? (i := 54) rfl)) (hw _ (List.mem_of_getElem? (i := 53) rfl)) (hw _ (List.mem_of_getElem? (i := 35) rfl)) (hw _ (List.mem_of_getElem? (i := 55) rfl)) (by decide) (W := 0) Ec69_a1 (argsL := []) (rest := []) (rm8 l Z a0 hw [] b65 (0 : Int32) T69.heap n0 zs70 Ec69_a1 Fc69_a1_errorCode) (by decide) (by decide) (c' := 4) (s' := 9) rfl rfl (by decide) (by decide) rfl (g := (mkF m 92 #[.val (.int p1), .val (.int p2), .val (.int p3), .val (.int p4), .val (.int (0 : Int32)), .val (.int ((p4 &&& (2147483647 : Int32)) % (3 : Int32))), .val (.int (1 : Int32)), .val (.ref b50), .val (.ref w2), .val (.ref b65), .val (.int (1 : Int32))] [(.ref b65)])) rfl (by rw [hml]; rfl) (lenOf pd_0_6 rfl) rfl (by show 2 * 0 + _ ≤ _; exact Nat.le_of_eq rfl) (hb hby at_92)
        obtain ⟨hv71, N71q, e71⟩ := hQ71
        have N71 := Fr.app N69 N71q
        rw [f8, if_pos (by decide : (0 : Int32) = (0 : Int32))] at hv71
        subst hv71
        have hSz : s.Since s.vm T69.heap.size := (State.WarmedH.refl s).since _
        obtain ⟨fs, hr, hrun, hended, hRW⟩ := X71.leaveW (s := s) hSz (by rw [e71]; exact (Nat.le_refl _)) (v := some (.int (1 : Int32))) (fun h => by rw [Bd.returns] at h; cases h)
        refine ⟨_, _, pre55 _ ?_, hrun, hended, _, _, rfl, ?_, ⟨_, rfl⟩, hRW.2.1, hRW.2.2.1, hRW.2.2.2.mono (by decide) (by decide)⟩
        · refine st52 _ ?_
          show Steps p.tables e below (T52.setTop (mkF m 48 #[.val (.int p1), .val (.int p2), .val (.int p3), .val (.int p4), .val (.int (0 : Int32)), .val (.int ((p4 &&& (2147483647 : Int32)) % (3 : Int32))), .val (.int (1 : Int32)), .val (.ref b50), .unset, .unset, .unset] [(.ref w2)])) _
          refine own_blk X52 hx bl0_48_1 (own_hb hby bd0_48_1) (pc' := 50) (Ls' := #[.val (.int p1), .val (.int p2), .val (.int p3), .val (.int p4), .val (.int (0 : Int32)), .val (.int ((p4 &&& (2147483647 : Int32)) % (3 : Int32))), .val (.int (1 : Int32)), .val (.ref b50), .val (.ref w2), .unset, .unset]) (st' := []) rfl ?_
          refine st65 _ ?_
          show Steps p.tables e below (T65.setTop (mkF m 53 #[.val (.int p1), .val (.int p2), .val (.int p3), .val (.int p4), .val (.int (0 : Int32)), .val (.int ((p4 &&& (2147483647 : Int32)) % (3 : Int32))), .val (.int (1 : Int32)), .val (.ref b50), .val (.ref w2), .unset, .unset] [(.ref b65)])) _
          refine own_blk X65 hx bl0_53_4 (own_hb hby bd0_53_4) (pc' := 60) (Ls' := #[.val (.int p1), .val (.int p2), .val (.int p3), .val (.int p4), .val (.int (0 : Int32)), .val (.int ((p4 &&& (2147483647 : Int32)) % (3 : Int32))), .val (.int (1 : Int32)), .val (.ref b50), .val (.ref w2), .unset, .unset]) (st' := [(.ref w2), (.ref b50), (.int (0 : Int32)), (.ref b65), (.ref b65)]) rfl ?_
          refine st69 _ ?_
          show Steps p.tables e below (T69.setTop (mkF m 63 #[.val (.int p1), .val (.int p2), .val (.int p3), .val (.int p4), .val (.int (0 : Int32)), .val (.int ((p4 &&& (2147483647 : Int32)) % (3 : Int32))), .val (.int (1 : Int32)), .val (.ref b50), .val (.ref w2), .unset, .unset] [(.ref b65)])) _
          refine own_blk X69 hx bl0_63_1 (own_hb hby bd0_63_1) (pc' := 65) (Ls' := #[.val (.int p1), .val (.int p2), .val (.int p3), .val (.int p4), .val (.int (0 : Int32)), .val (.int ((p4 &&& (2147483647 : Int32)) % (3 : Int32))), .val (.int (1 : Int32)), .val (.ref b50), .val (.ref w2), .val (.ref b65), .unset]) (st' := []) rfl ?_
          refine own_blk X69 hx bl0_65_1 (own_hb hby bd0_65_1) (pc' := 67) (Ls' := #[.val (.int p1), .val (.int p2), .val (.int p3), .val (.int p4), .val (.int (0 : Int32)), .val (.int ((p4 &&& (2147483647 : Int32)) % (3 : Int32))), .val (.int (1 : Int32)), .val (.ref b50), .val (.ref w2), .val (.ref b65), .unset]) (st' := [(.int (0 : Int32))]) rfl ?_
          refine XS.ifYes X69.here hx rfl (pc0 := 67) (pc' := 76) rfl (hb hby at_67) rfl ((if0 _ _).trans (flt (by decide : ¬ ((0 : Int32) < (0 : Int32)))).2.1) (by decide) (by decide) ?_
          show Steps p.tables e below (T69.setTop (mkF m 76 #[.val (.int p1), .val (.int p2), .val (.int p3), .val (.int p4), .val (.int (0 : Int32)), .val (.int ((p4 &&& (2147483647 : Int32)) % (3 : Int32))), .val (.int (1 : Int32)), .val (.ref b50), .val (.ref w2), .val (.ref b65), .unset] [])) _
          refine own_blk X69 hx bl0_76_1 (own_hb hby bd0_76_1) (pc' := 78) (Ls' := #[.val (.int p1), .val (.int p2), .val (.int p3), .val (.int p4), .val (.int (0 : Int32)), .val (.int ((p4 &&& (2147483647 : Int32)) % (3 : Int32))), .val (.int (1 : Int32)), .val (.ref b50), .val (.ref w2), .val (.ref b65), .unset]) (st' := [(.int (0 : Int32))]) rfl ?_
          refine XS.ifYes X69.here hx rfl (pc0 := 78) (pc' := 87) rfl (hb hby at_78) rfl ((if0 _ _).trans (flt (by decide : ¬ ((0 : Int32) < (0 : Int32)))).2.2.2) (by decide) (by decide) ?_
          show Steps p.tables e below (T69.setTop (mkF m 87 #[.val (.int p1), .val (.int p2), .val (.int p3), .val (.int p4), .val (.int (0 : Int32)), .val (.int ((p4 &&& (2147483647 : Int32)) % (3 : Int32))), .val (.int (1 : Int32)), .val (.ref b50), .val (.ref w2), .val (.ref b65), .unset] [])) _
          refine own_blk X69 hx bl0_87_2 (own_hb hby bd0_87_2) (pc' := 90) (Ls' := #[.val (.int p1), .val (.int p2), .val (.int p3), .val (.int p4), .val (.int (0 : Int32)), .val (.int ((p4 &&& (2147483647 : Int32)) % (3 : Int32))), .val (.int (1 : Int32)), .val (.ref b50), .val (.ref w2), .val (.ref b65), .val (.int (1 : Int32))]) (st' := []) rfl ?_
          refine own_blk X69 hx bl0_90_1 (own_hb hby bd0_90_1) (pc' := 92) (Ls' := #[.val (.int p1), .val (.int p2), .val (.int p3), .val (.int p4), .val (.int (0 : Int32)), .val (.int ((p4 &&& (2147483647 : Int32)) % (3 : Int32))), .val (.int (1 : Int32)), .val (.ref b50), .val (.ref w2), .val (.ref b65), .val (.int (1 : Int32))]) (st' := [(.ref b65)]) rfl ?_
          refine st71 _ ?_
          show Steps p.tables e below (T71.setTop (mkF m 95 #[.val (.int p1), .val (.int p2), .val (.int p3), .val (.int p4), .val (.int (0 : Int32)), .val (.int ((p4 &&& (2147483647 : Int32)) % (3 : Int32))), .val (.int (1 : Int32)), .val (.ref b50), .val (.ref w2), .val (.ref b65), .val (.int (1 : Int32))] [(.int (1 : Int32))])) _
          refine own_blk X71 hx bl0_95_1 (own_hb hby bd0_95_1) (pc' := 97) (Ls' := #[.val (.int p1), .val (.int p2), .val (.int p3), .val (.int p4), .val (.int (0 : Int32)), .val (.int ((p4 &&& (2147483647 : Int32)) % (3 : Int32))), .val (.int (1 : Int32)), .val (.ref b50), .val (.ref w2), .val (.ref b65), .val (.int (1 : Int32))]) (st' := [(.int (1 : Int32)), (.int (1 : Int32))]) rfl ?_
          refine XS.icmpNo X71.here hx rfl (hb hby at_97) rfl (teq (by decide : (1 : Int32) = (1 : Int32))).2 ?_
          show Steps p.tables e below (T71.setTop (mkF m 100 #[.val (.int p1), .val (.int p2), .val (.int p3), .val (.int p4), .val (.int (0 : Int32)), .val (.int ((p4 &&& (2147483647 : Int32)) % (3 : Int32))), .val (.int (1 : Int32)), .val (.ref b50), .val (.ref w2), .val (.ref b65), .val (.int (1 : Int32))] [])) _
          refine own_blk X71 hx bl0_100_2 (own_hb hby bd0_100_2) (pc' := 105) (Ls' := #[.val (.int p1), .val (.int p2), .val (.int p3), .val (.int p4), .val (.int (0 : Int32)), .val (.int ((p4 &&& (2147483647 : Int32)) % (3 : Int32))), .val (.int (1 : Int32)), .val (.ref b50), .val (.ref w2), .val (.ref b65), .val (.int (1 : Int32))]) (st' := [(.int (1 : Int32))]) rfl ?_
          exact retN X71 hx (t := .boolean) Bd.returns (by simp) (hb hby at_105) hr
        · show Q0_1 Z p1 p2 p3 p4 w1 w2 wz h0 n0 _ T71.heap _
          rw [e71]
          exact ⟨by rw [f0_1, if_neg hc2, if_neg hc56, if_pos hc64], N71⟩
      · rw [f5, if_neg hc56, if_neg hc64] at hv52
        subst hv52
        obtain ⟨T72, h72, X72, e72, E72, A72, D72, -, st72⟩ := newO X52 hx hZ hown (hw _ (List.mem_of_getElem? (i := 33) rfl)) (hw _ (List.mem_of_getElem? (i := 34) rfl)) (hw _ (List.mem_of_getElem? (i := 35) rfl)) e52 (g := (mkF m 50 #[.val (.int p1), .val (.int p2), .val (.int p3), .val (.int p4), .val (.int (0 : Int32)), .val (.int ((p4 &&& (2147483647 : Int32)) % (3 : Int32))), .val (.int (1 : Int32)), .val (.ref b50), .val .null, .unset, .unset] [])) rfl (hb hby at_50) (by decide) (by decide)
        obtain ⟨b72, g72⟩ : ∃ z, z = T50.heap.size := ⟨_, rfl⟩
        rw [← g72] at A72 D72 st72
        have fa73 : Exa Z T50.heap w1 "com/example/vendsettle/vendsettle/Processor$Reason" := (E_w1.keep K50)
        have ne_w1_b72 : w1 ≠ b72 := Nat.ne_of_lt (Nat.lt_of_lt_of_le fa73.lt (Nat.le_of_eq g72.symm))
        have fa74 : Exa Z T50.heap w2 "com/example/vendsettle/vendsettle/Processor$Reason" := (E_w2.keep K50)
        have ne_w2_b72 : w2 ≠ b72 := Nat.ne_of_lt (Nat.lt_of_lt_of_le fa74.lt (Nat.le_of_eq g72.symm))
        have g_b72 : n0 ≤ b72 := Nat.le_trans zs51 (Nat.le_of_eq g72.symm)
        have zs75 : n0 ≤ h72.size := Nat.le_trans zs51 E72.1
        have F_errorCode_b72 : Fld Z h72 b72 "com/example/vendsettle/vendsettle/Processor$Status" "errorCode" "I" (.int (0 : Int32)) := D72 (Or.inr (hw _ (List.mem_of_getElem? (i := 46) rfl))) (ty := .int) (by decide)
        have F_statusMessage_b72 : Fld Z h72 b72 "com/example/vendsettle/vendsettle/Processor$Status" "statusMessage" "Ljava/lang/String;" .null := D72 (Or.inr (hw _ (List.mem_of_getElem? (i := 48) rfl))) (ty := (.object "java/lang/String")) (by decide)
        have F_reason_b72 : Fld Z h72 b72 "com/example/vendsettle/vendsettle/Processor$Status" "reason" "Lcom/example/vendsettle/vendsettle/Processor$Reason;" .null := D72 (Or.inr (hw _ (List.mem_of_getElem? (i := 50) rfl))) (ty := (.object "com/example/vendsettle/vendsettle/Processor$Reason")) (by decide)
        obtain ⟨_, T76, Lc76, X76, hQ76, st76⟩ := own_callI X72 hx hZ (y := (⟨"com/example/vendsettle/vendsettle/Processor$Status", "<init>", "(ILjava/lang/String;Lcom/example/vendsettle/vendsettle/Processor$Reason;)V"⟩ : MethodName)) rfl hown (hw _ (List.mem_of_getElem? (i := 36) rfl)) (hw _ (List.mem_of_getElem? (i := 37) rfl)) (hw _ (List.mem_of_getElem? (i := 35) rfl)) (hw _ (List.mem_of_getElem? (i := 38) rfl)) (by decide) (W := 1) (a := b72) (argsL := [(.int (0 : Int32)), (.ref b50), .null]) (rest := [(.ref b72)]) (rm6z l Z a0 hw [] b72 (0 : Int32) b50 h72 n0 zs75 A72 F_errorCode_b72 F_statusMessage_b72 F_reason_b72 g_b72) (by decide) (by decide) (c' := 4) (s' := 9) rfl rfl (by decide) (by decide) e72 (g := (mkF m 60 #[.val (.int p1), .val (.int p2), .val (.int p3), .val (.int p4), .val (.int (0 : Int32)), .val (.int ((p4 &&& (2147483647 : Int32)) % (3 : Int32))), .val (.int (1 : Int32)), .val (.ref b50), .val .null, .unset, .unset] [.null, (.ref b50), (.int (0 : Int32)), (.ref b72), (.ref b72)])) rfl (by rw [hml]; rfl) (lenOf pd_0_5 rfl) rfl (by show 2 * 0 + _ ≤ _; exact Nat.le_of_eq rfl) (hb hby at_60)
        obtain ⟨rfl, N76q, K76, Ec76_a1, Fc76_a1_errorCode, Fc76_a1_statusMessage, Fc76_a1_reason⟩ := hQ76
        have N76 := Fr.app N52 N76q
        have zs77 : n0 ≤ T76.heap.size := Nat.le_trans zs75 K76.1
        obtain ⟨_, T78, Lc78, X78, hQ78, st78⟩ := own_callV X76 hx hZ (y := (⟨"com/example/vendsettle/vendsettle/Processor$Status", "isSuccess", "()Z"⟩ : MethodName)) hown (hw _ (List.mem_of_getElem? (i := 51) rfl)) (hw _ (List.mem_of_getElem? (i := 52) rfl)) (hw _ (List.mem_of_getElem? (i := 54) rfl)) (hw _ (List.mem_of_getElem? (i := 53) rfl)) (hw _ (List.mem_of_getElem? (i := 35) rfl)) (hw _ (List.mem_of_getElem? (i := 55) rfl)) (by decide) (W := 0) Ec76_a1 (argsL := []) (rest := []) (rm8 l Z a0 hw [] b72 (0 : Int32) T76.heap n0 zs77 Ec76_a1 Fc76_a1_errorCode) (by decide) (by decide) (c' := 4) (s' := 9) rfl rfl (by decide) (by decide) rfl (g := (mkF m 92 #[.val (.int p1), .val (.int p2), .val (.int p3), .val (.int p4), .val (.int (0 : Int32)), .val (.int ((p4 &&& (2147483647 : Int32)) % (3 : Int32))), .val (.int (1 : Int32)), .val (.ref b50), .val .null, .val (.ref b72), .val (.int (1 : Int32))] [(.ref b72)])) rfl (by rw [hml]; rfl) (lenOf pd_0_6 rfl) rfl (by show 2 * 0 + _ ≤ _; exact Nat.le_of_eq rfl) (hb hby at_92)
        obtain ⟨hv78, N78q, e78⟩ := hQ78
        have N78 := Fr.app N76 N78q
        rw [f8, if_pos (by decide : (0 : Int32) = (0 : Int32))] at hv78
        subst hv78
        have hSz : s.Since s.vm T76.heap.size := (State.WarmedH.refl s).since _
        obtain ⟨fs, hr, hrun, hended, hRW⟩ := X78.leaveW (s := s) hSz (by rw [e78]; exact (Nat.le_refl _)) (v := some (.int (1 : Int32))) (fun h => by rw [Bd.returns] at h; cases h)
        refine ⟨_, _, pre55 _ ?_, hrun, hended, _, _, rfl, ?_, ⟨_, rfl⟩, hRW.2.1, hRW.2.2.1, hRW.2.2.2.mono (by decide) (by decide)⟩
        · refine st52 _ ?_
          show Steps p.tables e below (T52.setTop (mkF m 48 #[.val (.int p1), .val (.int p2), .val (.int p3), .val (.int p4), .val (.int (0 : Int32)), .val (.int ((p4 &&& (2147483647 : Int32)) % (3 : Int32))), .val (.int (1 : Int32)), .val (.ref b50), .unset, .unset, .unset] [.null])) _
          refine XS.astore X52.here hx rfl (hb hby at_48) rfl rfl (l' := #[.val (.int p1), .val (.int p2), .val (.int p3), .val (.int p4), .val (.int (0 : Int32)), .val (.int ((p4 &&& (2147483647 : Int32)) % (3 : Int32))), .val (.int (1 : Int32)), .val (.ref b50), .val .null, .unset, .unset]) rfl ?_
          show Steps p.tables e below (T52.setTop (mkF m 50 #[.val (.int p1), .val (.int p2), .val (.int p3), .val (.int p4), .val (.int (0 : Int32)), .val (.int ((p4 &&& (2147483647 : Int32)) % (3 : Int32))), .val (.int (1 : Int32)), .val (.ref b50), .val .null, .unset, .unset] [])) _
          refine st72 _ ?_
          show Steps p.tables e below (T72.setTop (mkF m 53 #[.val (.int p1), .val (.int p2), .val (.int p3), .val (.int p4), .val (.int (0 : Int32)), .val (.int ((p4 &&& (2147483647 : Int32)) % (3 : Int32))), .val (.int (1 : Int32)), .val (.ref b50), .val .null, .unset, .unset] [(.ref b72)])) _
          refine own_blk X72 hx bl0_53_4 (own_hb hby bd0_53_4) (pc' := 60) (Ls' := #[.val (.int p1), .val (.int p2), .val (.int p3), .val (.int p4), .val (.int (0 : Int32)), .val (.int ((p4 &&& (2147483647 : Int32)) % (3 : Int32))), .val (.int (1 : Int32)), .val (.ref b50), .val .null, .unset, .unset]) (st' := [.null, (.ref b50), (.int (0 : Int32)), (.ref b72), (.ref b72)]) rfl ?_
          refine st76 _ ?_
          show Steps p.tables e below (T76.setTop (mkF m 63 #[.val (.int p1), .val (.int p2), .val (.int p3), .val (.int p4), .val (.int (0 : Int32)), .val (.int ((p4 &&& (2147483647 : Int32)) % (3 : Int32))), .val (.int (1 : Int32)), .val (.ref b50), .val .null, .unset, .unset] [(.ref b72)])) _
          refine own_blk X76 hx bl0_63_1 (own_hb hby bd0_63_1) (pc' := 65) (Ls' := #[.val (.int p1), .val (.int p2), .val (.int p3), .val (.int p4), .val (.int (0 : Int32)), .val (.int ((p4 &&& (2147483647 : Int32)) % (3 : Int32))), .val (.int (1 : Int32)), .val (.ref b50), .val .null, .val (.ref b72), .unset]) (st' := []) rfl ?_
          refine own_blk X76 hx bl0_65_1 (own_hb hby bd0_65_1) (pc' := 67) (Ls' := #[.val (.int p1), .val (.int p2), .val (.int p3), .val (.int p4), .val (.int (0 : Int32)), .val (.int ((p4 &&& (2147483647 : Int32)) % (3 : Int32))), .val (.int (1 : Int32)), .val (.ref b50), .val .null, .val (.ref b72), .unset]) (st' := [(.int (0 : Int32))]) rfl ?_
          refine XS.ifYes X76.here hx rfl (pc0 := 67) (pc' := 76) rfl (hb hby at_67) rfl ((if0 _ _).trans (flt (by decide : ¬ ((0 : Int32) < (0 : Int32)))).2.1) (by decide) (by decide) ?_
          show Steps p.tables e below (T76.setTop (mkF m 76 #[.val (.int p1), .val (.int p2), .val (.int p3), .val (.int p4), .val (.int (0 : Int32)), .val (.int ((p4 &&& (2147483647 : Int32)) % (3 : Int32))), .val (.int (1 : Int32)), .val (.ref b50), .val .null, .val (.ref b72), .unset] [])) _
          refine own_blk X76 hx bl0_76_1 (own_hb hby bd0_76_1) (pc' := 78) (Ls' := #[.val (.int p1), .val (.int p2), .val (.int p3), .val (.int p4), .val (.int (0 : Int32)), .val (.int ((p4 &&& (2147483647 : Int32)) % (3 : Int32))), .val (.int (1 : Int32)), .val (.ref b50), .val .null, .val (.ref b72), .unset]) (st' := [(.int (0 : Int32))]) rfl ?_
          refine XS.ifYes X76.here hx rfl (pc0 := 78) (pc' := 87) rfl (hb hby at_78) rfl ((if0 _ _).trans (flt (by decide : ¬ ((0 : Int32) < (0 : Int32)))).2.2.2) (by decide) (by decide) ?_
          show Steps p.tables e below (T76.setTop (mkF m 87 #[.val (.int p1), .val (.int p2), .val (.int p3), .val (.int p4), .val (.int (0 : Int32)), .val (.int ((p4 &&& (2147483647 : Int32)) % (3 : Int32))), .val (.int (1 : Int32)), .val (.ref b50), .val .null, .val (.ref b72), .unset] [])) _
          refine own_blk X76 hx bl0_87_2 (own_hb hby bd0_87_2) (pc' := 90) (Ls' := #[.val (.int p1), .val (.int p2), .val (.int p3), .val (.int p4), .val (.int (0 : Int32)), .val (.int ((p4 &&& (2147483647 : Int32)) % (3 : Int32))), .val (.int (1 : Int32)), .val (.ref b50), .val .null, .val (.ref b72), .val (.int (1 : Int32))]) (st' := []) rfl ?_
          refine own_blk X76 hx bl0_90_1 (own_hb hby bd0_90_1) (pc' := 92) (Ls' := #[.val (.int p1), .val (.int p2), .val (.int p3), .val (.int p4), .val (.int (0 : Int32)), .val (.int ((p4 &&& (2147483647 : Int32)) % (3 : Int32))), .val (.int (1 : Int32)), .val (.ref b50), .val .null, .val (.ref b72), .val (.int (1 : Int32))]) (st' := [(.ref b72)]) rfl ?_
          refine st78 _ ?_
          show Steps p.tables e below (T78.setTop (mkF m 95 #[.val (.int p1), .val (.int p2), .val (.int p3), .val (.int p4), .val (.int (0 : Int32)), .val (.int ((p4 &&& (2147483647 : Int32)) % (3 : Int32))), .val (.int (1 : Int32)), .val (.ref b50), .val .null, .val (.ref b72), .val (.int (1 : Int32))] [(.int (1 : Int32))])) _
          refine own_blk X78 hx bl0_95_1 (own_hb hby bd0_95_1) (pc' := 97) (Ls' := #[.val (.int p1), .val (.int p2), .val (.int p3), .val (.int p4), .val (.int (0 : Int32)), .val (.int ((p4 &&& (2147483647 : Int32)) % (3 : Int32))), .val (.int (1 : Int32)), .val (.ref b50), .val .null, .val (.ref b72), .val (.int (1 : Int32))]) (st' := [(.int (1 : Int32)), (.int (1 : Int32))]) rfl ?_
          refine XS.icmpNo X78.here hx rfl (hb hby at_97) rfl (teq (by decide : (1 : Int32) = (1 : Int32))).2 ?_
          show Steps p.tables e below (T78.setTop (mkF m 100 #[.val (.int p1), .val (.int p2), .val (.int p3), .val (.int p4), .val (.int (0 : Int32)), .val (.int ((p4 &&& (2147483647 : Int32)) % (3 : Int32))), .val (.int (1 : Int32)), .val (.ref b50), .val .null, .val (.ref b72), .val (.int (1 : Int32))] [])) _
          refine own_blk X78 hx bl0_100_2 (own_hb hby bd0_100_2) (pc' := 105) (Ls' := #[.val (.int p1), .val (.int p2), .val (.int p3), .val (.int p4), .val (.int (0 : Int32)), .val (.int ((p4 &&& (2147483647 : Int32)) % (3 : Int32))), .val (.int (1 : Int32)), .val (.ref b50), .val .null, .val (.ref b72), .val (.int (1 : Int32))]) (st' := [(.int (1 : Int32))]) rfl ?_
          exact retN X78 hx (t := .boolean) Bd.returns (by simp) (hb hby at_105) hr
        · show Q0_1 Z p1 p2 p3 p4 w1 w2 wz h0 n0 _ T78.heap _
          rw [e78]
          exact ⟨by rw [f0_1, if_neg hc2, if_neg hc56, if_neg hc64], N78⟩

def f0_2 (p1 : Int32) (p2 : Int32) (p3 : Int32) (p4 : Int32) (wz : Int32) : Int32 := (if ((p4 >>> ((4 : Int32) &&& 31)) &&& (1 : Int32)) = (0 : Int32) then (if ((p4 &&& (2147483647 : Int32)) % (3 : Int32)) = (1 : Int32) then (if p1 < (0 : Int32) then (1 : Int32) else (if (0 : Int32) < p1 then (1 : Int32) else (1 : Int32))) else (if ((p4 &&& (2147483647 : Int32)) % (3 : Int32)) = (2 : Int32) then (if p1 < (0 : Int32) then (1 : Int32) else (if (0 : Int32) < p1 then (1 : Int32) else (1 : Int32))) else (if p1 < (0 : Int32) then (1 : Int32) else (if (0 : Int32) < p1 then (1 : Int32) else (1 : Int32))))) else (if ((p4 &&& (2147483647 : Int32)) % (3 : Int32)) = (1 : Int32) then (1 : Int32) else (if ((p4 &&& (2147483647 : Int32)) % (3 : Int32)) = (2 : Int32) then (1 : Int32) else (1 : Int32))))
def Q0_2 (Z : State) (p1 : Int32) (p2 : Int32) (p3 : Int32) (p4 : Int32) (w1 : Addr) (w2 : Addr) (wz : Int32) (h0 : Heap) (n0 : Nat) (v : Option Value) (h : Heap) (L : List Loc) : Prop := v = some (.int (f0_2 p1 p2 p3 p4 wz)) ∧ Fr n0 L
set_option maxRecDepth 65536 in
set_option maxHeartbeats 40000000 in
theorem rm0_2 (l : Launch) (Z : State) (a0 : Array Value) (hw : ∀ d ∈ tables_1, d.before a0 Z = true) (ws : List Jvm.Cond) (p1 : Int32) (p2 : Int32) (p3 : Int32) (p4 : Int32) (w1 : Addr) (w2 : Addr) (wz : Int32) (h0 : Heap) (n0 : Nat) (Z0 : n0 ≤ h0.size) (E_w1 : Exa Z h0 w1 "com/example/vendsettle/vendsettle/Processor$Reason") (E_w2 : Exa Z h0 w2 "com/example/vendsettle/vendsettle/Processor$Reason") (S_ALREADY_COMPLETED : Sta Z h0 "com/example/vendsettle/vendsettle/Processor$Reason" "ALREADY_COMPLETED" "Lcom/example/vendsettle/vendsettle/Processor$Reason;" (.ref w1)) (S_NOT_FOUND : Sta Z h0 "com/example/vendsettle/vendsettle/Processor$Reason" "NOT_FOUND" "Lcom/example/vendsettle/vendsettle/Processor$Reason;" (.ref w2)) (S_COMPACT_STRINGS : Sta Z h0 "java/lang/String" "COMPACT_STRINGS" "Z" (.int wz)) (hn : (((p4 >>> ((8 : Int32) &&& 31)) &&& (2147483647 : Int32)) % (3 : Int32)) = (2 : Int32)) (hwz : ¬ wz = 0) :
    MetFree l x (head1 (Jvm.Cond.code x code maxLocals ret :: ws) room_1) (fun a U => a = #[(.int p1), (.int p2), (.int p3), (.int p4)] ∧ Z.Warmed39 U.vm ∧ U.heap = h0) (fun _ _ _ _ _ => True) (fun _ U o U' => ∃ v L, o = .returned v ∧ Q0_2 Z p1 p2 p3 p4 w1 w2 wz h0 n0 v U'.heap L ∧ ReturnedEndW U o U' L room_1.cells room_1.slots) := by
  refine MetFree.of_bodySF (plainFor_of_name pn_0) hisR ?_
  intro p e s m args below meth c s₁ Bd hml0 hP hK
  obtain ⟨rfl, hZ, hh⟩ := hP
  have hx := Bd.exec
  have hby := Bd.bytes
  have hml : c.maxLocals = 11 := hml0
  have hown : s.vm.findClass "com/example/vendsettle/vendsettle/StatusIsSuccessPinLaw" = some m.cls := findClass_of_methodNamed Bd.named
  have hnm := (name_of_methodNamed Bd.named Bd.method).1
  have X0 : Stand p l e room_1 s m #[(.int p1), (.int p2), (.int p3), (.int p4)] below meth c s₁ [] 0 0 := Stand.of_body Bd
  have e0 : s₁.heap = h0 := by rw [← hh, Bd.state]; rfl
  have N0 := Fr.nil n0
  have pre0 : ∀ t, Steps p.tables e below (s₁.setTop (mkF m 0 #[.val (.int p1), .val (.int p2), .val (.int p3), .val (.int p4), .unset, .unset, .unset, .unset, .unset, .unset, .unset] [])) t → Steps p.tables e below (s₁.setTop (entryFrame m #[(.int p1), (.int p2), (.int p3), (.int p4)] maxLocals)) t := fun t k => castTop (ef_0 m p1 p2 p3 p4) k
  have pre1 : ∀ t, Steps p.tables e below (s₁.setTop (mkF m 5 #[.val (.int p1), .val (.int p2), .val (.int p3), .val (.int p4), .unset, .unset, .unset, .unset, .unset, .unset, .unset] [(.int ((p4 >>> ((4 : Int32) &&& 31)) &&& (1 : Int32)))])) t → Steps p.tables e below (s₁.setTop (entryFrame m #[(.int p1), (.int p2), (.int p3), (.int p4)] maxLocals)) t := fun t kt => by
    refine pre0 _ ?_
    show Steps p.tables e below (s₁.setTop (mkF m 0 #[.val (.int p1), .val (.int p2), .val (.int p3), .val (.int p4), .unset, .unset, .unset, .unset, .unset, .unset, .unset] [])) _
    refine own_blk X0 hx bl0_0_5 (own_hb hby bd0_0_5) (pc' := 5) (Ls' := #[.val (.int p1), .val (.int p2), .val (.int p3), .val (.int p4), .unset, .unset, .unset, .unset, .unset, .unset, .unset]) (st' := [(.int ((p4 >>> ((4 : Int32) &&& 31)) &&& (1 : Int32)))]) rfl ?_
    exact kt
  by_cases hc2 : ((p4 >>> ((4 : Int32) &&& 31)) &&& (1 : Int32)) = (0 : Int32)
  · obtain ⟨_, T3, Lc3, X3, hQ3, st3⟩ := own_callS X0 hx hZ (y := (⟨"com/example/vendsettle/vendsettle/StatusIsSuccessPinLaw", "messageOf", "(III)Ljava/lang/String;"⟩ : MethodName)) hown (hw _ (List.mem_of_getElem? (i := 1) rfl)) (hw _ (List.mem_of_getElem? (i := 2) rfl)) (hw _ (List.mem_of_getElem? (i := 3) rfl)) (hw _ (List.mem_of_getElem? (i := 4) rfl)) (by decide) (W := 0) (argsL := [(.int (2 : Int32)), (.int p2), (.int p3)]) (rest := []) (rm1_2 l Z a0 hw [] p2 p3 wz h0 n0 Z0 S_COMPACT_STRINGS hwz) (by decide) (by decide) (c' := 3) (s' := 8) rfl rfl (by decide) (by decide) e0 (g := (mkF m 38 #[.val (.int p1), .val (.int p2), .val (.int p3), .val (.int p4), .val (.int p1), .val (.int ((p4 &&& (2147483647 : Int32)) % (3 : Int32))), .val (.int (2 : Int32)), .unset, .unset, .unset, .unset] [(.int p3), (.int p2), (.int (2 : Int32))])) rfl (by rw [hml]; rfl) (lenOf pd_0_0 rfl) rfl (by show 2 * 0 + _ ≤ _; exact Nat.le_of_eq rfl) (hb hby at_38)
    obtain ⟨b3, rfl, N3q, K3⟩ := hQ3
    have N3 := Fr.app N0 N3q
    have zs4 : n0 ≤ T3.heap.size := Nat.le_trans Z0 K3.1
    have fa6 : Sta Z T3.heap "com/example/vendsettle/vendsettle/Processor$Reason" "ALREADY_COMPLETED" "Lcom/example/vendsettle/vendsettle/Processor$Reason;" (.ref w1) := (own_sta_keep S_ALREADY_COMPLETED K3)
    have fa7 : Sta Z T3.heap "com/example/vendsettle/vendsettle/Processor$Reason" "NOT_FOUND" "Lcom/example/vendsettle/vendsettle/Processor$Reason;" (.ref w2) := (own_sta_keep S_NOT_FOUND K3)
    obtain ⟨_, T5, Lc5, X5, hQ5, st5⟩ := own_callS X3 hx hZ (y := (⟨"com/example/vendsettle/vendsettle/StatusIsSuccessPinLaw", "reasonOf", "(I)Lcom/example/vendsettle/vendsettle/Processor$Reason;"⟩ : MethodName)) hown (hw _ (List.mem_of_getElem? (i := 27) rfl)) (hw _ (List.mem_of_getElem? (i := 28) rfl)) (hw _ (List.mem_of_getElem? (i := 3) rfl)) (hw _ (List.mem_of_getElem? (i := 29) rfl)) (by decide) (W := 0) (argsL := [(.int ((p4 &&& (2147483647 : Int32)) % (3 : Int32)))]) (rest := []) (rm5 l Z a0 hw [] ((p4 &&& (2147483647 : Int32)) % (3 : Int32)) w1 w2 T3.heap n0 zs4 fa6 fa7) (by decide) (by decide) (c' := 3) (s' := 8) rfl rfl (by decide) (by decide) rfl (g := (mkF m 45 #[.val (.int p1), .val (.int p2), .val (.int p3), .val (.int p4), .val (.int p1), .val (.int ((p4 &&& (2147483647 : Int32)) % (3 : Int32))), .val (.int (2 : Int32)), .val (.ref b3), .unset, .unset, .unset] [(.int ((p4 &&& (2147483647 : Int32)) % (3 : Int32)))])) rfl (by rw [hml]; rfl) (lenOf pd_0_4 rfl) rfl (by show 2 * 0 + _ ≤ _; exact Nat.le_of_eq rfl) (hb hby at_45)
    obtain ⟨hv5, N5q, e5⟩ := hQ5
    have N5 := Fr.app N3 N5q
    have pre8 : ∀ t, Steps p.tables e below (T3.setTop (mkF m 45 #[.val (.int p1), .val (.int p2), .val (.int p3), .val (.int p4), .val (.int p1), .val (.int ((p4 &&& (2147483647 : Int32)) % (3 : Int32))), .val (.int (2 : Int32)), .val (.ref b3), .unset, .unset, .unset] [(.int ((p4 &&& (2147483647 : Int32)) % (3 : Int32)))])) t → Steps p.tables e below (s₁.setTop (entryFrame m #[(.int p1), (.int p2), (.int p3), (.int p4)] maxLocals)) t := fun t kt => by
      refine pre1 _ ?_
      show Steps p.tables e below (s₁.setTop (mkF m 5 #[.val (.int p1), .val (.int p2), .val (.int p3), .val (.int p4), .unset, .unset, .unset, .unset, .unset, .unset, .unset] [(.int ((p4 >>> ((4 : Int32) &&& 31)) &&& (1 : Int32)))])) _
      refine XS.ifYes X0.here hx rfl (pc0 := 5) (pc' := 12) rfl (hb hby at_5) rfl ((if0 _ _).trans (teq hc2).1) (by decide) (by decide) ?_
      show Steps p.tables e below (s₁.setTop (mkF m 12 #[.val (.int p1), .val (.int p2), .val (.int p3), .val (.int p4), .unset, .unset, .unset, .unset, .unset, .unset, .unset] [])) _
      refine own_blk X0 hx bl0_12_2 (own_hb hby bd0_12_2) (pc' := 15) (Ls' := #[.val (.int p1), .val (.int p2), .val (.int p3), .val (.int p4), .val (.int p1), .unset, .unset, .unset, .unset, .unset, .unset]) (st' := []) rfl ?_
      refine own_blk X0 hx bl0_15_1 (own_hb hby bd0_15_1) (pc' := 16) (Ls' := #[.val (.int p1), .val (.int p2), .val (.int p3), .val (.int p4), .val (.int p1), .unset, .unset, .unset, .unset, .unset, .unset]) (st' := [(.int p4)]) rfl ?_
      refine X0.ldcInt hx hown (mvT hZ (hw _ (List.mem_of_getElem? (i := 0) rfl))) (g := (mkF m 16 #[.val (.int p1), .val (.int p2), .val (.int p3), .val (.int p4), .val (.int p1), .unset, .unset, .unset, .unset, .unset, .unset] [(.int p4)])) rfl (hb hby at_16) _ ?_
      show Steps p.tables e below (s₁.setTop (mkF m 18 #[.val (.int p1), .val (.int p2), .val (.int p3), .val (.int p4), .val (.int p1), .unset, .unset, .unset, .unset, .unset, .unset] [(.int (2147483647 : Int32)), (.int p4)])) _
      refine own_blk X0 hx bl0_18_2 (own_hb hby bd0_18_2) (pc' := 20) (Ls' := #[.val (.int p1), .val (.int p2), .val (.int p3), .val (.int p4), .val (.int p1), .unset, .unset, .unset, .unset, .unset, .unset]) (st' := [(.int (3 : Int32)), (.int (p4 &&& (2147483647 : Int32)))]) rfl ?_
      refine iremM X0 hx rfl (hb hby at_20) rfl (by decide : ¬ ((3 : Int32) = (0 : Int32))) ?_
      show Steps p.tables e below (s₁.setTop (mkF m 21 #[.val (.int p1), .val (.int p2), .val (.int p3), .val (.int p4), .val (.int p1), .unset, .unset, .unset, .unset, .unset, .unset] [(.int ((p4 &&& (2147483647 : Int32)) % (3 : Int32)))])) _
      refine own_blk X0 hx bl0_21_1 (own_hb hby bd0_21_1) (pc' := 23) (Ls' := #[.val (.int p1), .val (.int p2), .val (.int p3), .val (.int p4), .val (.int p1), .val (.int ((p4 &&& (2147483647 : Int32)) % (3 : Int32))), .unset, .unset, .unset, .unset, .unset]) (st' := []) rfl ?_
      refine own_blk X0 hx bl0_23_3 (own_hb hby bd0_23_3) (pc' := 27) (Ls' := #[.val (.int p1), .val (.int p2), .val (.int p3), .val (.int p4), .val (.int p1), .val (.int ((p4 &&& (2147483647 : Int32)) % (3 : Int32))), .unset, .unset, .unset, .unset, .unset]) (st' := [(.int (p4 >>> ((8 : Int32) &&& 31)))]) rfl ?_
      refine X0.ldcInt hx hown (mvT hZ (hw _ (List.mem_of_getElem? (i := 0) rfl))) (g := (mkF m 27 #[.val (.int p1), .val (.int p2), .val (.int p3), .val (.int p4), .val (.int p1), .val (.int ((p4 &&& (2147483647 : Int32)) % (3 : Int32))), .unset, .unset, .unset, .unset, .unset] [(.int (p4 >>> ((8 : Int32) &&& 31)))])) rfl (hb hby at_27) _ ?_
      show Steps p.tables e below (s₁.setTop (mkF m 29 #[.val (.int p1), .val (.int p2), .val (.int p3), .val (.int p4), .val (.int p1), .val (.int ((p4 &&& (2147483647 : Int32)) % (3 : Int32))), .unset, .unset, .unset, .unset, .unset] [(.int (2147483647 : Int32)), (.int (p4 >>> ((8 : Int32) &&& 31)))])) _
      refine own_blk X0 hx bl0_29_2 (own_hb hby bd0_29_2) (pc' := 31) (Ls' := #[.val (.int p1), .val (.int p2), .val (.int p3), .val (.int p4), .val (.int p1), .val (.int ((p4 &&& (2147483647 : Int32)) % (3 : Int32))), .unset, .unset, .unset, .unset, .unset]) (st' := [(.int (3 : Int32)), (.int ((p4 >>> ((8 : Int32) &&& 31)) &&& (2147483647 : Int32)))]) rfl ?_
      refine iremM X0 hx rfl (hb hby at_31) rfl (by decide : ¬ ((3 : Int32) = (0 : Int32))) ?_
      show Steps p.tables e below (s₁.setTop (mkF m 32 #[.val (.int p1), .val (.int p2), .val (.int p3), .val (.int p4), .val (.int p1), .val (.int ((p4 &&& (2147483647 : Int32)) % (3 : Int32))), .unset, .unset, .unset, .unset, .unset] [(.int (((p4 >>> ((8 : Int32) &&& 31)) &&& (2147483647 : Int32)) % (3 : Int32)))])) _
      rw [hn]
      show Steps p.tables e below (s₁.setTop (mkF m 32 #[.val (.int p1), .val (.int p2), .val (.int p3), .val (.int p4), .val (.int p1), .val (.int ((p4 &&& (2147483647 : Int32)) % (3 : Int32))), .unset, .unset, .unset, .unset, .unset] [(.int (2 : Int32))])) _
      refine own_blk X0 hx bl0_32_1 (own_hb hby bd0_32_1) (pc' := 34) (Ls' := #[.val (.int p1), .val (.int p2), .val (.int p3), .val (.int p4), .val (.int p1), .val (.int ((p4 &&& (2147483647 : Int32)) % (3 : Int32))), .val (.int (2 : Int32)), .unset, .unset, .unset, .unset]) (st' := []) rfl ?_
      refine own_blk X0 hx bl0_34_3 (own_hb hby bd0_34_3) (pc' := 38) (Ls' := #[.val (.int p1), .val (.int p2), .val (.int p3), .val (.int p4), .val (.int p1), .val (.int ((p4 &&& (2147483647 : Int32)) % (3 : Int32))), .val (.int (2 : Int32)), .unset, .unset, .unset, .unset]) (st' := [(.int p3), (.int p2), (.int (2 : Int32))]) rfl ?_
      refine st3 _ ?_
      show Steps p.tables e below (T3.setTop (mkF m 41 #[.val (.int p1), .val (.int p2), .val (.int p3), .val (.int p4), .val (.int p1), .val (.int ((p4 &&& (2147483647 : Int32)) % (3 : Int32))), .val (.int (2 : Int32)), .unset, .unset, .unset, .unset] [(.ref b3)])) _
      refine own_blk X3 hx bl0_41_1 (own_hb hby bd0_41_1) (pc' := 43) (Ls' := #[.val (.int p1), .val (.int p2), .val (.int p3), .val (.int p4), .val (.int p1), .val (.int ((p4 &&& (2147483647 : Int32)) % (3 : Int32))), .val (.int (2 : Int32)), .val (.ref b3), .unset, .unset, .unset]) (st' := []) rfl ?_
      refine own_blk X3 hx bl0_43_1 (own_hb hby bd0_43_1) (pc' := 45) (Ls' := #[.val (.int p1), .val (.int p2), .val (.int p3), .val (.int p4), .val (.int p1), .val (.int ((p4 &&& (2147483647 : Int32)) % (3 : Int32))), .val (.int (2 : Int32)), .val (.ref b3), .unset, .unset, .unset]) (st' := [(.int ((p4 &&& (2147483647 : Int32)) % (3 : Int32)))]) rfl ?_
      exact kt
    by_cases hc9 : ((p4 &&& (2147483647 : Int32)) % (3 : Int32)) = (1 : Int32)
    · rw [f5, if_pos hc9] at hv5
      subst hv5
      obtain ⟨T10, h10, X10, e10, E10, A10, D10, -, st10⟩ := newO X5 hx hZ hown (hw _ (List.mem_of_getElem? (i := 33) rfl)) (hw _ (List.mem_of_getElem? (i := 34) rfl)) (hw _ (List.mem_of_getElem? (i := 35) rfl)) e5 (g := (mkF m 50 #[.val (.int p1), .val (.int p2), .val (.int p3), .val (.int p4), .val (.int p1), .val (.int ((p4 &&& (2147483647 : Int32)) % (3 : Int32))), .val (.int (2 : Int32)), .val (.ref b3), .val (.ref w1), .unset, .unset] [])) rfl (hb hby at_50) (by decide) (by decide)
      obtain ⟨b10, g10⟩ : ∃ z, z = T3.heap.size := ⟨_, rfl⟩
      rw [← g10] at A10 D10 st10
      have fa11 : Exa Z T3.heap w1 "com/example/vendsettle/vendsettle/Processor$Reason" := (E_w1.keep K3)
      have ne_w1_b10 : w1 ≠ b10 := Nat.ne_of_lt (Nat.lt_of_lt_of_le fa11.lt (Nat.le_of_eq g10.symm))
      have fa12 : Exa Z T3.heap w2 "com/example/vendsettle/vendsettle/Processor$Reason" := (E_w2.keep K3)
      have ne_w2_b10 : w2 ≠ b10 := Nat.ne_of_lt (Nat.lt_of_lt_of_le fa12.lt (Nat.le_of_eq g10.symm))
      have g_b10 : n0 ≤ b10 := Nat.le_trans zs4 (Nat.le_of_eq g10.symm)
      have zs13 : n0 ≤ h10.size := Nat.le_trans zs4 E10.1
      have F_errorCode_b10 : Fld Z h10 b10 "com/example/vendsettle/vendsettle/Processor$Status" "errorCode" "I" (.int (0 : Int32)) := D10 (Or.inr (hw _ (List.mem_of_getElem? (i := 46) rfl))) (ty := .int) (by decide)
      have F_statusMessage_b10 : Fld Z h10 b10 "com/example/vendsettle/vendsettle/Processor$Status" "statusMessage" "Ljava/lang/String;" .null := D10 (Or.inr (hw _ (List.mem_of_getElem? (i := 48) rfl))) (ty := (.object "java/lang/String")) (by decide)
      have F_reason_b10 : Fld Z h10 b10 "com/example/vendsettle/vendsettle/Processor$Status" "reason" "Lcom/example/vendsettle/vendsettle/Processor$Reason;" .null := D10 (Or.inr (hw _ (List.mem_of_getElem? (i := 50) rfl))) (ty := (.object "com/example/vendsettle/vendsettle/Processor$Reason")) (by decide)
      obtain ⟨_, T14, Lc14, X14, hQ14, st14⟩ := own_callI X10 hx hZ (y := (⟨"com/example/vendsettle/vendsettle/Processor$Status", "<init>", "(ILjava/lang/String;Lcom/example/vendsettle/vendsettle/Processor$Reason;)V"⟩ : MethodName)) rfl hown (hw _ (List.mem_of_getElem? (i := 36) rfl)) (hw _ (List.mem_of_getElem? (i := 37) rfl)) (hw _ (List.mem_of_getElem? (i := 35) rfl)) (hw _ (List.mem_of_getElem? (i := 38) rfl)) (by decide) (W := 1) (a := b10) (argsL := [(.int p1), (.ref b3), (.ref w1)]) (rest := [(.ref b10)]) (rm6r l Z a0 hw [] b10 p1 b3 w1 h10 n0 zs13 A10 F_errorCode_b10 F_statusMessage_b10 F_reason_b10 g_b10) (by decide) (by decide) (c' := 4) (s' := 11) rfl rfl (by decide) (by decide) e10 (g := (mkF m 60 #[.val (.int p1), .val (.int p2), .val (.int p3), .val (.int p4), .val (.int p1), .val (.int ((p4 &&& (2147483647 : Int32)) % (3 : Int32))), .val (.int (2 : Int32)), .val (.ref b3), .val (.ref w1), .unset, .unset] [(.ref w1), (.ref b3), (.int p1), (.ref b10), (.ref b10)])) rfl (by rw [hml]; rfl) (lenOf pd_0_5 rfl) rfl (by show 2 * 0 + _ ≤ _; exact Nat.le_of_eq rfl) (hb hby at_60)
      obtain ⟨rfl, N14q, K14, Ec14_a1, Fc14_a1_errorCode, Fc14_a1_statusMessage, Fc14_a1_reason⟩ := hQ14
      have N14 := Fr.app N5 N14q
      have zs15 : n0 ≤ T14.heap.size := Nat.le_trans zs13 K14.1
      have pre16 : ∀ t, Steps p.tables e below (T14.setTop (mkF m 67 #[.val (.int p1), .val (.int p2), .val (.int p3), .val (.int p4), .val (.int p1), .val (.int ((p4 &&& (2147483647 : Int32)) % (3 : Int32))), .val (.int (2 : Int32)), .val (.ref b3), .val (.ref w1), .val (.ref b10), .unset] [(.int p1)])) t → Steps p.tables e below (s₁.setTop (entryFrame m #[(.int p1), (.int p2), (.int p3), (.int p4)] maxLocals)) t := fun t kt => by
        refine pre8 _ ?_
        refine st5 _ ?_
        show Steps p.tables e below (T5.setTop (mkF m 48 #[.val (.int p1), .val (.int p2), .val (.int p3), .val (.int p4), .val (.int p1), .val (.int ((p4 &&& (2147483647 : Int32)) % (3 : Int32))), .val (.int (2 : Int32)), .val (.ref b3), .unset, .unset, .unset] [(.ref w1)])) _
        refine own_blk X5 hx bl0_48_1 (own_hb hby bd0_48_1) (pc' := 50) (Ls' := #[.val (.int p1), .val (.int p2), .val (.int p3), .val (.int p4), .val (.int p1), .val (.int ((p4 &&& (2147483647 : Int32)) % (3 : Int32))), .val (.int (2 : Int32)), .val (.ref b3), .val (.ref w1), .unset, .unset]) (st' := []) rfl ?_
        refine st10 _ ?_
        show Steps p.tables e below (T10.setTop (mkF m 53 #[.val (.int p1), .val (.int p2), .val (.int p3), .val (.int p4), .val (.int p1), .val (.int ((p4 &&& (2147483647 : Int32)) % (3 : Int32))), .val (.int (2 : Int32)), .val (.ref b3), .val (.ref w1), .unset, .unset] [(.ref b10)])) _
        refine own_blk X10 hx bl0_53_4 (own_hb hby bd0_53_4) (pc' := 60) (Ls' := #[.val (.int p1), .val (.int p2), .val (.int p3), .val (.int p4), .val (.int p1), .val (.int ((p4 &&& (2147483647 : Int32)) % (3 : Int32))), .val (.int (2 : Int32)), .val (.ref b3), .val (.ref w1), .unset, .unset]) (st' := [(.ref w1), (.ref b3), (.int p1), (.ref b10), (.ref b10)]) rfl ?_
        refine st14 _ ?_
        show Steps p.tables e below (T14.setTop (mkF m 63 #[.val (.int p1), .val (.int p2), .val (.int p3), .val (.int p4), .val (.int p1), .val (.int ((p4 &&& (2147483647 : Int32)) % (3 : Int32))), .val (.int (2 : Int32)), .val (.ref b3), .val (.ref w1), .unset, .unset] [(.ref b10)])) _
        refine own_blk X14 hx bl0_63_1 (own_hb hby bd0_63_1) (pc' := 65) (Ls' := #[.val (.int p1), .val (.int p2), .val (.int p3), .val (.int p4), .val (.int p1), .val (.int ((p4 &&& (2147483647 : Int32)) % (3 : Int32))), .val (.int (2 : Int32)), .val (.ref b3), .val (.ref w1), .val (.ref b10), .unset]) (st' := []) rfl ?_
        refine own_blk X14 hx bl0_65_1 (own_hb hby bd0_65_1) (pc' := 67) (Ls' := #[.val (.int p1), .val (.int p2), .val (.int p3), .val (.int p4), .val (.int p1), .val (.int ((p4 &&& (2147483647 : Int32)) % (3 : Int32))), .val (.int (2 : Int32)), .val (.ref b3), .val (.ref w1), .val (.ref b10), .unset]) (st' := [(.int p1)]) rfl ?_
        exact kt
      by_cases hc17 : p1 < (0 : Int32)
      · obtain ⟨_, T18, Lc18, X18, hQ18, st18⟩ := own_callV X14 hx hZ (y := (⟨"com/example/vendsettle/vendsettle/Processor$Status", "isSuccess", "()Z"⟩ : MethodName)) hown (hw _ (List.mem_of_getElem? (i := 51) rfl)) (hw _ (List.mem_of_getElem? (i := 52) rfl)) (hw _ (List.mem_of_getElem? (i := 54) rfl)) (hw _ (List.mem_of_getElem? (i := 53) rfl)) (hw _ (List.mem_of_getElem? (i := 35) rfl)) (hw _ (List.mem_of_getElem? (i := 55) rfl)) (by decide) (W := 0) Ec14_a1 (argsL := []) (rest := []) (rm8 l Z a0 hw [] b10 p1 T14.heap n0 zs15 Ec14_a1 Fc14_a1_errorCode) (by decide) (by decide) (c' := 4) (s' := 11) rfl rfl (by decide) (by decide) rfl (g := (mkF m 92 #[.val (.int p1), .val (.int p2), .val (.int p3), .val (.int p4), .val (.int p1), .val (.int ((p4 &&& (2147483647 : Int32)) % (3 : Int32))), .val (.int (2 : Int32)), .val (.ref b3), .val (.ref w1), .val (.ref b10), .val (.int (0 : Int32))] [(.ref b10)])) rfl (by rw [hml]; rfl) (lenOf pd_0_6 rfl) rfl (by show 2 * 0 + _ ≤ _; exact Nat.le_of_eq rfl) (hb hby at_92)
        obtain ⟨hv18, N18q, e18⟩ := hQ18
        have N18 := Fr.app N14 N18q
        rw [f8, if_neg (own_ltn hc17)] at hv18
        subst hv18
        have hSz : s.Since s.vm T14.heap.size := (State.WarmedH.refl s).since _
        obtain ⟨fs, hr, hrun, hended, hRW⟩ := X18.leaveW (s := s) hSz (by rw [e18]; exact (Nat.le_refl _)) (v := some (.int (1 : Int32))) (fun h => by rw [Bd.returns] at h; cases h)
        refine ⟨_, _, pre16 _ ?_, hrun, hended, _, _, rfl, ?_, ⟨_, rfl⟩, hRW.2.1, hRW.2.2.1, hRW.2.2.2.mono (by decide) (by decide)⟩
        · show Steps p.tables e below (T14.setTop (mkF m 67 #[.val (.int p1), .val (.int p2), .val (.int p3), .val (.int p4), .val (.int p1), .val (.int ((p4 &&& (2147483647 : Int32)) % (3 : Int32))), .val (.int (2 : Int32)), .val (.ref b3), .val (.ref w1), .val (.ref b10), .unset] [(.int p1)])) _
          refine XS.ifNo X14.here hx rfl (hb hby at_67) rfl ((if0 _ _).trans (tlt hc17).2.1) ?_
          show Steps p.tables e below (T14.setTop (mkF m 70 #[.val (.int p1), .val (.int p2), .val (.int p3), .val (.int p4), .val (.int p1), .val (.int ((p4 &&& (2147483647 : Int32)) % (3 : Int32))), .val (.int (2 : Int32)), .val (.ref b3), .val (.ref w1), .val (.ref b10), .unset] [])) _
          refine own_blk X14 hx bl0_70_2 (own_hb hby bd0_70_2) (pc' := 73) (Ls' := #[.val (.int p1), .val (.int p2), .val (.int p3), .val (.int p4), .val (.int p1), .val (.int ((p4 &&& (2147483647 : Int32)) % (3 : Int32))), .val (.int (2 : Int32)), .val (.ref b3), .val (.ref w1), .val (.ref b10), .val (.int (0 : Int32))]) (st' := []) rfl ?_
          refine own_blk X14 hx bl0_73_2 (own_hb hby bd0_73_2) (pc' := 92) (Ls' := #[.val (.int p1), .val (.int p2), .val (.int p3), .val (.int p4), .val (.int p1), .val (.int ((p4 &&& (2147483647 : Int32)) % (3 : Int32))), .val (.int (2 : Int32)), .val (.ref b3), .val (.ref w1), .val (.ref b10), .val (.int (0 : Int32))]) (st' := [(.ref b10)]) rfl ?_
          refine st18 _ ?_
          show Steps p.tables e below (T18.setTop (mkF m 95 #[.val (.int p1), .val (.int p2), .val (.int p3), .val (.int p4), .val (.int p1), .val (.int ((p4 &&& (2147483647 : Int32)) % (3 : Int32))), .val (.int (2 : Int32)), .val (.ref b3), .val (.ref w1), .val (.ref b10), .val (.int (0 : Int32))] [(.int (0 : Int32))])) _
          refine own_blk X18 hx bl0_95_1 (own_hb hby bd0_95_1) (pc' := 97) (Ls' := #[.val (.int p1), .val (.int p2), .val (.int p3), .val (.int p4), .val (.int p1), .val (.int ((p4 &&& (2147483647 : Int32)) % (3 : Int32))), .val (.int (2 : Int32)), .val (.ref b3), .val (.ref w1), .val (.ref b10), .val (.int (0 : Int32))]) (st' := [(.int (0 : Int32)), (.int (0 : Int32))]) rfl ?_
          refine XS.icmpNo X18.here hx rfl (hb hby at_97) rfl (teq (by decide : (0 : Int32) = (0 : Int32))).2 ?_
          show Steps p.tables e below (T18.setTop (mkF m 100 #[.val (.int p1), .val (.int p2), .val (.int p3), .val (.int p4), .val (.int p1), .val (.int ((p4 &&& (2147483647 : Int32)) % (3 : Int32))), .val (.int (2 : Int32)), .val (.ref b3), .val (.ref w1), .val (.ref b10), .val (.int (0 : Int32))] [])) _
          refine own_blk X18 hx bl0_100_2 (own_hb hby bd0_100_2) (pc' := 105) (Ls' := #[.val (.int p1), .val (.int p2), .val (.int p3), .val (.int p4), .val (.int p1), .val (.int ((p4 &&& (2147483647 : Int32)) % (3 : Int32))), .val (.int (2 : Int32)), .val (.ref b3), .val (.ref w1), .val (.ref b10), .val (.int (0 : Int32))]) (st' := [(.int (1 : Int32))]) rfl ?_
          exact retN X18 hx (t := .boolean) Bd.returns (by simp) (hb hby at_105) hr
        · show Q0_2 Z p1 p2 p3 p4 w1 w2 wz h0 n0 _ T18.heap _
          rw [e18]
          exact ⟨by rw [f0_2, if_pos hc2, if_pos hc9, if_pos hc17], N18⟩
      · have pre19 : ∀ t, Steps p.tables e below (T14.setTop (mkF m 78 #[.val (.int p1), .val (.int p2), .val (.int p3), .val (.int p4), .val (.int p1), .val (.int ((p4 &&& (2147483647 : Int32)) % (3 : Int32))), .val (.int (2 : Int32)), .val (.ref b3), .val (.ref w1), .val (.ref b10), .unset] [(.int p1)])) t → Steps p.tables e below (s₁.setTop (entryFrame m #[(.int p1), (.int p2), (.int p3), (.int p4)] maxLocals)) t := fun t kt => by
          refine pre16 _ ?_
          show Steps p.tables e below (T14.setTop (mkF m 67 #[.val (.int p1), .val (.int p2), .val (.int p3), .val (.int p4), .val (.int p1), .val (.int ((p4 &&& (2147483647 : Int32)) % (3 : Int32))), .val (.int (2 : Int32)), .val (.ref b3), .val (.ref w1), .val (.ref b10), .unset] [(.int p1)])) _
          refine XS.ifYes X14.here hx rfl (pc0 := 67) (pc' := 76) rfl (hb hby at_67) rfl ((if0 _ _).trans (flt hc17).2.1) (by decide) (by decide) ?_
          show Steps p.tables e below (T14.setTop (mkF m 76 #[.val (.int p1), .val (.int p2), .val (.int p3), .val (.int p4), .val (.int p1), .val (.int ((p4 &&& (2147483647 : Int32)) % (3 : Int32))), .val (.int (2 : Int32)), .val (.ref b3), .val (.ref w1), .val (.ref b10), .unset] [])) _
          refine own_blk X14 hx bl0_76_1 (own_hb hby bd0_76_1) (pc' := 78) (Ls' := #[.val (.int p1), .val (.int p2), .val (.int p3), .val (.int p4), .val (.int p1), .val (.int ((p4 &&& (2147483647 : Int32)) % (3 : Int32))), .val (.int (2 : Int32)), .val (.ref b3), .val (.ref w1), .val (.ref b10), .unset]) (st' := [(.int p1)]) rfl ?_
          exact kt
        by_cases hc20 : (0 : Int32) < p1
        · obtain ⟨_, T21, Lc21, X21, hQ21, st21⟩ := own_callV X14 hx hZ (y := (⟨"com/example/vendsettle/vendsettle/Processor$Status", "isSuccess", "()Z"⟩ : MethodName)) hown (hw _ (List.mem_of_getElem? (i := 51) rfl)) (hw _ (List.mem_of_getElem? (i := 52) rfl)) (hw _ (List.mem_of_getElem? (i := 54) rfl)) (hw _ (List.mem_of_getElem? (i := 53) rfl)) (hw _ (List.mem_of_getElem? (i := 35) rfl)) (hw _ (List.mem_of_getElem? (i := 55) rfl)) (by decide) (W := 0) Ec14_a1 (argsL := []) (rest := []) (rm8 l Z a0 hw [] b10 p1 T14.heap n0 zs15 Ec14_a1 Fc14_a1_errorCode) (by decide) (by decide) (c' := 4) (s' := 11) rfl rfl (by decide) (by decide) rfl (g := (mkF m 92 #[.val (.int p1), .val (.int p2), .val (.int p3), .val (.int p4), .val (.int p1), .val (.int ((p4 &&& (2147483647 : Int32)) % (3 : Int32))), .val (.int (2 : Int32)), .val (.ref b3), .val (.ref w1), .val (.ref b10), .val (.int (0 : Int32))] [(.ref b10)])) rfl (by rw [hml]; rfl) (lenOf pd_0_6 rfl) rfl (by show 2 * 0 + _ ≤ _; exact Nat.le_of_eq rfl) (hb hby at_92)
          obtain ⟨hv21, N21q, e21⟩ := hQ21
          have N21 := Fr.app N14 N21q
          rw [f8, if_neg (own_gtn hc20)] at hv21
          subst hv21
          have hSz : s.Since s.vm T14.heap.size := (State.WarmedH.refl s).since _
          obtain ⟨fs, hr, hrun, hended, hRW⟩ := X21.leaveW (s := s) hSz (by rw [e21]; exact (Nat.le_refl _)) (v := some (.int (1 : Int32))) (fun h => by rw [Bd.returns] at h; cases h)
          refine ⟨_, _, pre19 _ ?_, hrun, hended, _, _, rfl, ?_, ⟨_, rfl⟩, hRW.2.1, hRW.2.2.1, hRW.2.2.2.mono (by decide) (by decide)⟩
          · show Steps p.tables e below (T14.setTop (mkF m 78 #[.val (.int p1), .val (.int p2), .val (.int p3), .val (.int p4), .val (.int p1), .val (.int ((p4 &&& (2147483647 : Int32)) % (3 : Int32))), .val (.int (2 : Int32)), .val (.ref b3), .val (.ref w1), .val (.ref b10), .unset] [(.int p1)])) _
            refine XS.ifNo X14.here hx rfl (hb hby at_78) rfl ((if0 _ _).trans (tlt hc20).2.2.2) ?_
            show Steps p.tables e below (T14.setTop (mkF m 81 #[.val (.int p1), .val (.int p2), .val (.int p3), .val (.int p4), .val (.int p1), .val (.int ((p4 &&& (2147483647 : Int32)) % (3 : Int32))), .val (.int (2 : Int32)), .val (.ref b3), .val (.ref w1), .val (.ref b10), .unset] [])) _
            refine own_blk X14 hx bl0_81_2 (own_hb hby bd0_81_2) (pc' := 84) (Ls' := #[.val (.int p1), .val (.int p2), .val (.int p3), .val (.int p4), .val (.int p1), .val (.int ((p4 &&& (2147483647 : Int32)) % (3 : Int32))), .val (.int (2 : Int32)), .val (.ref b3), .val (.ref w1), .val (.ref b10), .val (.int (0 : Int32))]) (st' := []) rfl ?_
            refine own_blk X14 hx bl0_84_2 (own_hb hby bd0_84_2) (pc' := 92) (Ls' := #[.val (.int p1), .val (.int p2), .val (.int p3), .val (.int p4), .val (.int p1), .val (.int ((p4 &&& (2147483647 : Int32)) % (3 : Int32))), .val (.int (2 : Int32)), .val (.ref b3), .val (.ref w1), .val (.ref b10), .val (.int (0 : Int32))]) (st' := [(.ref b10)]) rfl ?_
            refine st21 _ ?_
            show Steps p.tables e below (T21.setTop (mkF m 95 #[.val (.int p1), .val (.int p2), .val (.int p3), .val (.int p4), .val (.int p1), .val (.int ((p4 &&& (2147483647 : Int32)) % (3 : Int32))), .val (.int (2 : Int32)), .val (.ref b3), .val (.ref w1), .val (.ref b10), .val (.int (0 : Int32))] [(.int (0 : Int32))])) _
            refine own_blk X21 hx bl0_95_1 (own_hb hby bd0_95_1) (pc' := 97) (Ls' := #[.val (.int p1), .val (.int p2), .val (.int p3), .val (.int p4), .val (.int p1), .val (.int ((p4 &&& (2147483647 : Int32)) % (3 : Int32))), .val (.int (2 : Int32)), .val (.ref b3), .val (.ref w1), .val (.ref b10), .val (.int (0 : Int32))]) (st' := [(.int (0 : Int32)), (.int (0 : Int32))]) rfl ?_
            refine XS.icmpNo X21.here hx rfl (hb hby at_97) rfl (teq (by decide : (0 : Int32) = (0 : Int32))).2 ?_
            show Steps p.tables e below (T21.setTop (mkF m 100 #[.val (.int p1), .val (.int p2), .val (.int p3), .val (.int p4), .val (.int p1), .val (.int ((p4 &&& (2147483647 : Int32)) % (3 : Int32))), .val (.int (2 : Int32)), .val (.ref b3), .val (.ref w1), .val (.ref b10), .val (.int (0 : Int32))] [])) _
            refine own_blk X21 hx bl0_100_2 (own_hb hby bd0_100_2) (pc' := 105) (Ls' := #[.val (.int p1), .val (.int p2), .val (.int p3), .val (.int p4), .val (.int p1), .val (.int ((p4 &&& (2147483647 : Int32)) % (3 : Int32))), .val (.int (2 : Int32)), .val (.ref b3), .val (.ref w1), .val (.ref b10), .val (.int (0 : Int32))]) (st' := [(.int (1 : Int32))]) rfl ?_
            exact retN X21 hx (t := .boolean) Bd.returns (by simp) (hb hby at_105) hr
          · show Q0_2 Z p1 p2 p3 p4 w1 w2 wz h0 n0 _ T21.heap _
            rw [e21]
            exact ⟨by rw [f0_2, if_pos hc2, if_pos hc9, if_neg hc17, if_pos hc20], N21⟩
        · obtain ⟨_, T22, Lc22, X22, hQ22, st22⟩ := own_callV X14 hx hZ (y := (⟨"com/example/vendsettle/vendsettle/Processor$Status", "isSuccess", "()Z"⟩ : MethodName)) hown (hw _ (List.mem_of_getElem? (i := 51) rfl)) (hw _ (List.mem_of_getElem? (i := 52) rfl)) (hw _ (List.mem_of_getElem? (i := 54) rfl)) (hw _ (List.mem_of_getElem? (i := 53) rfl)) (hw _ (List.mem_of_getElem? (i := 35) rfl)) (hw _ (List.mem_of_getElem? (i := 55) rfl)) (by decide) (W := 0) Ec14_a1 (argsL := []) (rest := []) (rm8 l Z a0 hw [] b10 p1 T14.heap n0 zs15 Ec14_a1 Fc14_a1_errorCode) (by decide) (by decide) (c' := 4) (s' := 11) rfl rfl (by decide) (by decide) rfl (g := (mkF m 92 #[.val (.int p1), .val (.int p2), .val (.int p3), .val (.int p4), .val (.int p1), .val (.int ((p4 &&& (2147483647 : Int32)) % (3 : Int32))), .val (.int (2 : Int32)), .val (.ref b3), .val (.ref w1), .val (.ref b10), .val (.int (1 : Int32))] [(.ref b10)])) rfl (by rw [hml]; rfl) (lenOf pd_0_6 rfl) rfl (by show 2 * 0 + _ ≤ _; exact Nat.le_of_eq rfl) (hb hby at_92)
          obtain ⟨hv22, N22q, e22⟩ := hQ22
          have N22 := Fr.app N14 N22q
          rw [f8, if_pos (own_z hc17 hc20)] at hv22
          subst hv22
          have hSz : s.Since s.vm T14.heap.size := (State.WarmedH.refl s).since _
          obtain ⟨fs, hr, hrun, hended, hRW⟩ := X22.leaveW (s := s) hSz (by rw [e22]; exact (Nat.le_refl _)) (v := some (.int (1 : Int32))) (fun h => by rw [Bd.returns] at h; cases h)
          refine ⟨_, _, pre19 _ ?_, hrun, hended, _, _, rfl, ?_, ⟨_, rfl⟩, hRW.2.1, hRW.2.2.1, hRW.2.2.2.mono (by decide) (by decide)⟩
          · show Steps p.tables e below (T14.setTop (mkF m 78 #[.val (.int p1), .val (.int p2), .val (.int p3), .val (.int p4), .val (.int p1), .val (.int ((p4 &&& (2147483647 : Int32)) % (3 : Int32))), .val (.int (2 : Int32)), .val (.ref b3), .val (.ref w1), .val (.ref b10), .unset] [(.int p1)])) _
            refine XS.ifYes X14.here hx rfl (pc0 := 78) (pc' := 87) rfl (hb hby at_78) rfl ((if0 _ _).trans (flt hc20).2.2.2) (by decide) (by decide) ?_
            show Steps p.tables e below (T14.setTop (mkF m 87 #[.val (.int p1), .val (.int p2), .val (.int p3), .val (.int p4), .val (.int p1), .val (.int ((p4 &&& (2147483647 : Int32)) % (3 : Int32))), .val (.int (2 : Int32)), .val (.ref b3), .val (.ref w1), .val (.ref b10), .unset] [])) _
            refine own_blk X14 hx bl0_87_2 (own_hb hby bd0_87_2) (pc' := 90) (Ls' := #[.val (.int p1), .val (.int p2), .val (.int p3), .val (.int p4), .val (.int p1), .val (.int ((p4 &&& (2147483647 : Int32)) % (3 : Int32))), .val (.int (2 : Int32)), .val (.ref b3), .val (.ref w1), .val (.ref b10), .val (.int (1 : Int32))]) (st' := []) rfl ?_
            refine own_blk X14 hx bl0_90_1 (own_hb hby bd0_90_1) (pc' := 92) (Ls' := #[.val (.int p1), .val (.int p2), .val (.int p3), .val (.int p4), .val (.int p1), .val (.int ((p4 &&& (2147483647 : Int32)) % (3 : Int32))), .val (.int (2 : Int32)), .val (.ref b3), .val (.ref w1), .val (.ref b10), .val (.int (1 : Int32))]) (st' := [(.ref b10)]) rfl ?_
            refine st22 _ ?_
            show Steps p.tables e below (T22.setTop (mkF m 95 #[.val (.int p1), .val (.int p2), .val (.int p3), .val (.int p4), .val (.int p1), .val (.int ((p4 &&& (2147483647 : Int32)) % (3 : Int32))), .val (.int (2 : Int32)), .val (.ref b3), .val (.ref w1), .val (.ref b10), .val (.int (1 : Int32))] [(.int (1 : Int32))])) _
            refine own_blk X22 hx bl0_95_1 (own_hb hby bd0_95_1) (pc' := 97) (Ls' := #[.val (.int p1), .val (.int p2), .val (.int p3), .val (.int p4), .val (.int p1), .val (.int ((p4 &&& (2147483647 : Int32)) % (3 : Int32))), .val (.int (2 : Int32)), .val (.ref b3), .val (.ref w1), .val (.ref b10), .val (.int (1 : Int32))]) (st' := [(.int (1 : Int32)), (.int (1 : Int32))]) rfl ?_
            refine XS.icmpNo X22.here hx rfl (hb hby at_97) rfl (teq (by decide : (1 : Int32) = (1 : Int32))).2 ?_
            show Steps p.tables e below (T22.setTop (mkF m 100 #[.val (.int p1), .val (.int p2), .val (.int p3), .val (.int p4), .val (.int p1), .val (.int ((p4 &&& (2147483647 : Int32)) % (3 : Int32))), .val (.int (2 : Int32)), .val (.ref b3), .val (.ref w1), .val (.ref b10), .val (.int (1 : Int32))] [])) _
            refine own_blk X22 hx bl0_100_2 (own_hb hby bd0_100_2) (pc' := 105) (Ls' := #[.val (.int p1), .val (.int p2), .val (.int p3), .val (.int p4), .val (.int p1), .val (.int ((p4 &&& (2147483647 : Int32)) % (3 : Int32))), .val (.int (2 : Int32)), .val (.ref b3), .val (.ref w1), .val (.ref b10), .val (.int (1 : Int32))]) (st' := [(.int (1 : Int32))]) rfl ?_
            exact retN X22 hx (t := .boolean) Bd.returns (by simp) (hb hby at_105) hr
          · show Q0_2 Z p1 p2 p3 p4 w1 w2 wz h0 n0 _ T22.heap _
            rw [e22]
            exact ⟨by rw [f0_2, if_pos hc2, if_pos hc9, if_neg hc17, if_neg hc20], N22⟩
    · by_cases hc23 : ((p4 &&& (2147483647 : Int32)) % (3 : Int32)) = (2 : Int32)
      · rw [f5, if_neg hc9, if_pos hc23] at hv5
        subst hv5
        obtain ⟨T24, h24, X24, e24, E24, A24, D24, -, st24⟩ := newO X5 hx hZ hown (hw _ (List.mem_of_getElem? (i := 33) rfl)) (hw _ (List.mem_of_getElem? (i := 34) rfl)) (hw _ (List.mem_of_getElem? (i := 35) rfl)) e5 (g := (mkF m 50 #[.val (.int p1), .val (.int p2), .val (.int p3), .val (.int p4), .val (.int p1), .val (.int ((p4 &&& (2147483647 : Int32)) % (3 : Int32))), .val (.int (2 : Int32)), .val (.ref b3), .val (.ref w2), .unset, .unset] [])) rfl (hb hby at_50) (by decide) (by decide)
        obtain ⟨b24, g24⟩ : ∃ z, z = T3.heap.size := ⟨_, rfl⟩
        rw [← g24] at A24 D24 st24
        have fa25 : Exa Z T3.heap w1 "com/example/vendsettle/vendsettle/Processor$Reason" := (E_w1.keep K3)
        have ne_w1_b24 : w1 ≠ b24 := Nat.ne_of_lt (Nat.lt_of_lt_of_le fa25.lt (Nat.le_of_eq g24.symm))
        have fa26 : Exa Z T3.heap w2 "com/example/vendsettle/vendsettle/Processor$Reason" := (E_w2.keep K3)
        have ne_w2_b24 : w2 ≠ b24 := Nat.ne_of_lt (Nat.lt_of_lt_of_le fa26.lt (Nat.le_of_eq g24.symm))
        have g_b24 : n0 ≤ b24 := Nat.le_trans zs4 (Nat.le_of_eq g24.symm)
        have zs27 : n0 ≤ h24.size := Nat.le_trans zs4 E24.1
        have F_errorCode_b24 : Fld Z h24 b24 "com/example/vendsettle/vendsettle/Processor$Status" "errorCode" "I" (.int (0 : Int32)) := D24 (Or.inr (hw _ (List.mem_of_getElem? (i := 46) rfl))) (ty := .int) (by decide)
        have F_statusMessage_b24 : Fld Z h24 b24 "com/example/vendsettle/vendsettle/Processor$Status" "statusMessage" "Ljava/lang/String;" .null := D24 (Or.inr (hw _ (List.mem_of_getElem? (i := 48) rfl))) (ty := (.object "java/lang/String")) (by decide)
        have F_reason_b24 : Fld Z h24 b24 "com/example/vendsettle/vendsettle/Processor$Status" "reason" "Lcom/example/vendsettle/vendsettle/Processor$Reason;" .null := D24 (Or.inr (hw _ (List.mem_of_getElem? (i := 50) rfl))) (ty := (.object "com/example/vendsettle/vendsettle/Processor$Reason")) (by decide)
        obtain ⟨_, T28, Lc28, X28, hQ28, st28⟩ := own_callI X24 hx hZ (y := (⟨"com/example/vendsettle/vendsettle/Processor$Status", "<init>", "(ILjava/lang/String;Lcom/example/vendsettle/vendsettle/Processor$Reason;)V"⟩ : MethodName)) rfl hown (hw _ (List.mem_of_getElem? (i := 36) rfl)) (hw _ (List.mem_of_getElem? (i := 37) rfl)) (hw _ (List.mem_of_getElem? (i := 35) rfl)) (hw _ (List.mem_of_getElem? (i := 38) rfl)) (by decide) (W := 1) (a := b24) (argsL := [(.int p1), (.ref b3), (.ref w2)]) (rest := [(.ref b24)]) (rm6r l Z a0 hw [] b24 p1 b3 w2 h24 n0 zs27 A24 F_errorCode_b24 F_statusMessage_b24 F_reason_b24 g_b24) (by decide) (by decide) (c' := 4) (s' := 11) rfl rfl (by decide) (by decide) e24 (g := (mkF m 60 #[.val (.int p1), .val (.int p2), .val (.int p3), .val (.int p4), .val (.int p1), .val (.int ((p4 &&& (2147483647 : Int32)) % (3 : Int32))), .val (.int (2 : Int32)), .val (.ref b3), .val (.ref w2), .unset, .unset] [(.ref w2), (.ref b3), (.int p1), (.ref b24), (.ref b24)])) rfl (by rw [hml]; rfl) (lenOf pd_0_5 rfl) rfl (by show 2 * 0 + _ ≤ _; exact Nat.le_of_eq rfl) (hb hby at_60)
        obtain ⟨rfl, N28q, K28, Ec28_a1, Fc28_a1_errorCode, Fc28_a1_statusMessage, Fc28_a1_reason⟩ := hQ28
        have N28 := Fr.app N5 N28q
        have zs29 : n0 ≤ T28.heap.size := Nat.le_trans zs27 K28.1
        have pre30 : ∀ t, Steps p.tables e below (T28.setTop (mkF m 67 #[.val (.int p1), .val (.int p2), .val (.int p3), .val (.int p4), .val (.int p1), .val (.int ((p4 &&& (2147483647 : Int32)) % (3 : Int32))), .val (.int (2 : Int32)), .val (.ref b3), .val (.ref w2), .val (.ref b24), .unset] [(.int p1)])) t → Steps p.tables e below (s₁.setTop (entryFrame m #[(.int p1), (.int p2), (.int p3), (.int p4)] maxLocals)) t := fun t kt => by
          refine pre8 _ ?_
          refine st5 _ ?_
          show Steps p.tables e below (T5.setTop (mkF m 48 #[.val (.int p1), .val (.int p2), .val (.int p3), .val (.int p4), .val (.int p1), .val (.int ((p4 &&& (2147483647 : Int32)) % (3 : Int32))), .val (.int (2 : Int32)), .val (.ref b3), .unset, .unset, .unset] [(.ref w2)])) _
          refine own_blk X5 hx bl0_48_1 (own_hb hby bd0_48_1) (pc' := 50) (Ls' := #[.val (.int p1), .val (.int p2), .val (.int p3), .val (.int p4), .val (.int p1), .val (.int ((p4 &&& (2147483647 : Int32)) % (3 : Int32))), .val (.int (2 : Int32)), .val (.ref b3), .val (.ref w2), .unset, .unset]) (st' := []) rfl ?_
          refine st24 _ ?_
          show Steps p.tables e below (T24.setTop (mkF m 53 #[.val (.int p1), .val (.int p2), .val (.int p3), .val (.int p4), .val (.int p1), .val (.int ((p4 &&& (2147483647 : Int32)) % (3 : Int32))), .val (.int (2 : Int32)), .val (.ref b3), .val (.ref w2), .unset, .unset] [(.ref b24)])) _
          refine own_blk X24 hx bl0_53_4 (own_hb hby bd0_53_4) (pc' := 60) (Ls' := #[.val (.int p1), .val (.int p2), .val (.int p3), .val (.int p4), .val (.int p1), .val (.int ((p4 &&& (2147483647 : Int32)) % (3 : Int32))), .val (.int (2 : Int32)), .val (.ref b3), .val (.ref w2), .unset, .unset]) (st' := [(.ref w2), (.ref b3), (.int p1), (.ref b24), (.ref b24)]) rfl ?_
          refine st28 _ ?_
          show Steps p.tables e below (T28.setTop (mkF m 63 #[.val (.int p1), .val (.int p2), .val (.int p3), .val (.int p4), .val (.int p1), .val (.int ((p4 &&& (2147483647 : Int32)) % (3 : Int32))), .val (.int (2 : Int32)), .val (.ref b3), .val (.ref w2), .unset, .unset] [(.ref b24)])) _
          refine own_blk X28 hx bl0_63_1 (own_hb hby bd0_63_1) (pc' := 65) (Ls' := #[.val (.int p1), .val (.int p2), .val (.int p3), .val (.int p4), .val (.int p1), .val (.int ((p4 &&& (2147483647 : Int32)) % (3 : Int32))), .val (.int (2 : Int32)), .val (.ref b3), .val (.ref w2), .val (.ref b24), .unset]) (st' := []) rfl ?_
          refine own_blk X28 hx bl0_65_1 (own_hb hby bd0_65_1) (pc' := 67) (Ls' := #[.val (.int p1), .val (.int p2), .val (.int p3), .val (.int p4), .val (.int p1), .val (.int ((p4 &&& (2147483647 : Int32)) % (3 : Int32))), .val (.int (2 : Int32)), .val (.ref b3), .val (.ref w2), .val (.ref b24), .unset]) (st' := [(.int p1)]) rfl ?_
          exact kt
        by_cases hc31 : p1 < (0 : Int32)
        · obtain ⟨_, T32, Lc32, X32, hQ32, st32⟩ := own_callV X28 hx hZ (y := (⟨"com/example/vendsettle/vendsettle/Processor$Status", "isSuccess", "()Z"⟩ : MethodName)) hown (hw _ (List.mem_of_getElem? (i := 51) rfl)) (hw _ (List.mem_of_getElem? (i := 52) rfl)) (hw _ (List.mem_of_getElem? (i := 54) rfl)) (hw _ (List.mem_of_getElem? (i := 53) rfl)) (hw _ (List.mem_of_getElem? (i := 35) rfl)) (hw _ (List.mem_of_getElem? (i := 55) rfl)) (by decide) (W := 0) Ec28_a1 (argsL := []) (rest := []) (rm8 l Z a0 hw [] b24 p1 T28.heap n0 zs29 Ec28_a1 Fc28_a1_errorCode) (by decide) (by decide) (c' := 4) (s' := 11) rfl rfl (by decide) (by decide) rfl (g := (mkF m 92 #[.val (.int p1), .val (.int p2), .val (.int p3), .val (.int p4), .val (.int p1), .val (.int ((p4 &&& (2147483647 : Int32)) % (3 : Int32))), .val (.int (2 : Int32)), .val (.ref b3), .val (.ref w2), .val (.ref b24), .val (.int (0 : Int32))] [(.ref b24)])) rfl (by rw [hml]; rfl) (lenOf pd_0_6 rfl) rfl (by show 2 * 0 + _ ≤ _; exact Nat.le_of_eq rfl) (hb hby at_92)
          obtain ⟨hv32, N32q, e32⟩ := hQ32
          have N32 := Fr.app N28 N32q
          rw [f8, if_neg (own_ltn hc31)] at hv32
          subst hv32
          have hSz : s.Since s.vm T28.heap.size := (State.WarmedH.refl s).since _
          obtain ⟨fs, hr, hrun, hended, hRW⟩ := X32.leaveW (s := s) hSz (by rw [e32]; exact (Nat.le_refl _)) (v := some (.int (1 : Int32))) (fun h => by rw [Bd.returns] at h; cases h)
          refine ⟨_, _, pre30 _ ?_, hrun, hended, _, _, rfl, ?_, ⟨_, rfl⟩, hRW.2.1, hRW.2.2.1, hRW.2.2.2.mono (by decide) (by decide)⟩
          · show Steps p.tables e below (T28.setTop (mkF m 67 #[.val (.int p1), .val (.int p2), .val (.int p3), .val (.int p4), .val (.int p1), .val (.int ((p4 &&& (2147483647 : Int32)) % (3 : Int32))), .val (.int (2 : Int32)), .val (.ref b3), .val (.ref w2), .val (.ref b24), .unset] [(.int p1)])) _
            refine XS.ifNo X28.here hx rfl (hb hby at_67) rfl ((if0 _ _).trans (tlt hc31).2.1) ?_
            show Steps p.tables e below (T28.setTop (mkF m 70 #[.val (.int p1), .val (.int p2), .val (.int p3), .val (.int p4), .val (.int p1), .val (.int ((p4 &&& (2147483647 : Int32)) % (3 : Int32))), .val (.int (2 : Int32)), .val (.ref b3), .val (.ref w2), .val (.ref b24), .unset] [])) _
            refine own_blk X28 hx bl0_70_2 (own_hb hby bd0_70_2) (pc' := 73) (Ls' := #[.val (.int p1), .val (.int p2), .val (.int p3), .val (.int p4), .val (.int p1), .val (.int ((p4 &&& (2147483647 : Int32)) % (3 : Int32))), .val (.int (2 : Int32)), .val (.ref b3), .val (.ref w2), .val (.ref b24), .val (.int (0 : Int32))]) (st' := []) rfl ?_
            refine own_blk X28 hx bl0_73_2 (own_hb hby bd0_73_2) (pc' := 92) (Ls' := #[.val (.int p1), .val (.int p2), .val (.int p3), .val (.int p4), .val (.int p1), .val (.int ((p4 &&& (2147483647 : Int32)) % (3 : Int32))), .val (.int (2 : Int32)), .val (.ref b3), .val (.ref w2), .val (.ref b24), .val (.int (0 : Int32))]) (st' := [(.ref b24)]) rfl ?_
            refine st32 _ ?_
            show Steps p.tables e below (T32.setTop (mkF m 95 #[.val (.int p1), .val (.int p2), .val (.int p3), .val (.int p4), .val (.int p1), .val (.int ((p4 &&& (2147483647 : Int32)) % (3 : Int32))), .val (.int (2 : Int32)), .val (.ref b3), .val (.ref w2), .val (.ref b24), .val (.int (0 : Int32))] [(.int (0 : Int32))])) _
            refine own_blk X32 hx bl0_95_1 (own_hb hby bd0_95_1) (pc' := 97) (Ls' := #[.val (.int p1), .val (.int p2), .val (.int p3), .val (.int p4), .val (.int p1), .val (.int ((p4 &&& (2147483647 : Int32)) % (3 : Int32))), .val (.int (2 : Int32)), .val (.ref b3), .val (.ref w2), .val (.ref b24), .val (.int (0 : Int32))]) (st' := [(.int (0 : Int32)), (.int (0 : Int32))]) rfl ?_
            refine XS.icmpNo X32.here hx rfl (hb hby at_97) rfl (teq (by decide : (0 : Int32) = (0 : Int32))).2 ?_
            show Steps p.tables e below (T32.setTop (mkF m 100 #[.val (.int p1), .val (.int p2), .val (.int p3), .val (.int p4), .val (.int p1), .val (.int ((p4 &&& (2147483647 : Int32)) % (3 : Int32))), .val (.int (2 : Int32)), .val (.ref b3), .val (.ref w2), .val (.ref b24), .val (.int (0 : Int32))] [])) _
            refine own_blk X32 hx bl0_100_2 (own_hb hby bd0_100_2) (pc' := 105) (Ls' := #[.val (.int p1), .val (.int p2), .val (.int p3), .val (.int p4), .val (.int p1), .val (.int ((p4 &&& (2147483647 : Int32)) % (3 : Int32))), .val (.int (2 : Int32)), .val (.ref b3), .val (.ref w2), .val (.ref b24), .val (.int (0 : Int32))]) (st' := [(.int (1 : Int32))]) rfl ?_
            exact retN X32 hx (t := .boolean) Bd.returns (by simp) (hb hby at_105) hr
          · show Q0_2 Z p1 p2 p3 p4 w1 w2 wz h0 n0 _ T32.heap _
            rw [e32]
            exact ⟨by rw [f0_2, if_pos hc2, if_neg hc9, if_pos hc23, if_pos hc31], N32⟩
        · have pre33 : ∀ t, Steps p.tables e below (T28.setTop (mkF m 78 #[.val (.int p1), .val (.int p2), .val (.int p3), .val (.int p4), .val (.int p1), .val (.int ((p4 &&& (2147483647 : Int32)) % (3 : Int32))), .val (.int (2 : Int32)), .val (.ref b3), .val (.ref w2), .val (.ref b24), .unset] [(.int p1)])) t → Steps p.tables e below (s₁.setTop (entryFrame m #[(.int p1), (.int p2), (.int p3), (.int p4)] maxLocals)) t := fun t kt => by
            refine pre30 _ ?_
            show Steps p.tables e below (T28.setTop (mkF m 67 #[.val (.int p1), .val (.int p2), .val (.int p3), .val (.int p4), .val (.int p1), .val (.int ((p4 &&& (2147483647 : Int32)) % (3 : Int32))), .val (.int (2 : Int32)), .val (.ref b3), .val (.ref w2), .val (.ref b24), .unset] [(.int p1)])) _
            refine XS.ifYes X28.here hx rfl (pc0 := 67) (pc' := 76) rfl (hb hby at_67) rfl ((if0 _ _).trans (flt hc31).2.1) (by decide) (by decide) ?_
            show Steps p.tables e below (T28.setTop (mkF m 76 #[.val (.int p1), .val (.int p2), .val (.int p3), .val (.int p4), .val (.int p1), .val (.int ((p4 &&& (2147483647 : Int32)) % (3 : Int32))), .val (.int (2 : Int32)), .val (.ref b3), .val (.ref w2), .val (.ref b24), .unset] [])) _
            refine own_blk X28 hx bl0_76_1 (own_hb hby bd0_76_1) (pc' := 78) (Ls' := #[.val (.int p1), .val (.int p2), .val (.int p3), .val (.int p4), .val (.int p1), .val (.int ((p4 &&& (2147483647 : Int32)) % (3 : Int32))), .val (.int (2 : Int32)), .val (.ref b3), .val (.ref w2), .val (.ref b24), .unset]) (st' := [(.int p1)]) rfl ?_
            exact kt
          by_cases hc34 : (0 : Int32) < p1
          · obtain ⟨_, T35, Lc35, X35, hQ35, st35⟩ := own_callV X28 hx hZ (y := (⟨"com/example/vendsettle/vendsettle/Processor$Status", "isSuccess", "()Z"⟩ : MethodName)) hown (hw _ (List.mem_of_getElem? (i := 51) rfl)) (hw _ (List.mem_of_getElem? (i := 52) rfl)) (hw _ (List.mem_of_getElem? (i := 54) rfl)) (hw _ (List.mem_of_getElem? (i := 53) rfl)) (hw _ (List.mem_of_getElem? (i := 35) rfl)) (hw _ (List.mem_of_getElem? (i := 55) rfl)) (by decide) (W := 0) Ec28_a1 (argsL := []) (rest := []) (rm8 l Z a0 hw [] b24 p1 T28.heap n0 zs29 Ec28_a1 Fc28_a1_errorCode) (by decide) (by decide) (c' := 4) (s' := 11) rfl rfl (by decide) (by decide) rfl (g := (mkF m 92 #[.val (.int p1), .val (.int p2), .val (.int p3), .val (.int p4), .val (.int p1), .val (.int ((p4 &&& (2147483647 : Int32)) % (3 : Int32))), .val (.int (2 : Int32)), .val (.ref b3), .val (.ref w2), .val (.ref b24), .val (.int (0 : Int32))] [(.ref b24)])) rfl (by rw [hml]; rfl) (lenOf pd_0_6 rfl) rfl (by show 2 * 0 + _ ≤ _; exact Nat.le_of_eq rfl) (hb hby at_92)
            obtain ⟨hv35, N35q, e35⟩ := hQ35
            have N35 := Fr.app N28 N35q
            rw [f8, if_neg (own_gtn hc34)] at hv35
            subst hv35
            have hSz : s.Since s.vm T28.heap.size := (State.WarmedH.refl s).since _
            obtain ⟨fs, hr, hrun, hended, hRW⟩ := X35.leaveW (s := s) hSz (by rw [e35]; exact (Nat.le_refl _)) (v := some (.int (1 : Int32))) (fun h => by rw [Bd.returns] at h; cases h)
            refine ⟨_, _, pre33 _ ?_, hrun, hended, _, _, rfl, ?_, ⟨_, rfl⟩, hRW.2.1, hRW.2.2.1, hRW.2.2.2.mono (by decide) (by decide)⟩
            · show Steps p.tables e below (T28.setTop (mkF m 78 #[.val (.int p1), .val (.int p2), .val (.int p3), .val (.int p4), .val (.int p1), .val (.int ((p4 &&& (2147483647 : Int32)) % (3 : Int32))), .val (.int (2 : Int32)), .val (.ref b3), .val (.ref w2), .val (.ref b24), .unset] [(.int p1)])) _
              refine XS.ifNo X28.here hx rfl (hb hby at_78) rfl ((if0 _ _).trans (tlt hc34).2.2.2) ?_
              show Steps p.tables e below (T28.setTop (mkF m 81 #[.val (.int p1), .val (.int p2), .val (.int p3), .val (.int p4), .val (.int p1), .val (.int ((p4 &&& (2147483647 : Int32)) % (3 : Int32))), .val (.int (2 : Int32)), .val (.ref b3), .val (.ref w2), .val (.ref b24), .unset] [])) _
              refine own_blk X28 hx bl0_81_2 (own_hb hby bd0_81_2) (pc' := 84) (Ls' := #[.val (.int p1), .val (.int p2), .val (.int p3), .val (.int p4), .val (.int p1), .val (.int ((p4 &&& (2147483647 : Int32)) % (3 : Int32))), .val (.int (2 : Int32)), .val (.ref b3), .val (.ref w2), .val (.ref b24), .val (.int (0 : Int32))]) (st' := []) rfl ?_
              refine own_blk X28 hx bl0_84_2 (own_hb hby bd0_84_2) (pc' := 92) (Ls' := #[.val (.int p1), .val (.int p2), .val (.int p3), .val (.int p4), .val (.int p1), .val (.int ((p4 &&& (2147483647 : Int32)) % (3 : Int32))), .val (.int (2 : Int32)), .val (.ref b3), .val (.ref w2), .val (.ref b24), .val (.int (0 : Int32))]) (st' := [(.ref b24)]) rfl ?_
              refine st35 _ ?_
              show Steps p.tables e below (T35.setTop (mkF m 95 #[.val (.int p1), .val (.int p2), .val (.int p3), .val (.int p4), .val (.int p1), .val (.int ((p4 &&& (2147483647 : Int32)) % (3 : Int32))), .val (.int (2 : Int32)), .val (.ref b3), .val (.ref w2), .val (.ref b24), .val (.int (0 : Int32))] [(.int (0 : Int32))])) _
              refine own_blk X35 hx bl0_95_1 (own_hb hby bd0_95_1) (pc' := 97) (Ls' := #[.val (.int p1), .val (.int p2), .val (.int p3), .val (.int p4), .val (.int p1), .val (.int ((p4 &&& (2147483647 : Int32)) % (3 : Int32))), .val (.int (2 : Int32)), .val (.ref b3), .val (.ref w2), .val (.ref b24), .val (.int (0 : Int32))]) (st' := [(.int (0 : Int32)), (.int (0 : Int32))]) rfl ?_
              refine XS.icmpNo X35.here hx rfl (hb hby at_97) rfl (teq (by decide : (0 : Int32) = (0 : Int32))).2 ?_
              show Steps p.tables e below (T35.setTop (mkF m 100 #[.val (.int p1), .val (.int p2), .val (.int p3), .val (.int p4), .val (.int p1), .val (.int ((p4 &&& (2147483647 : Int32)) % (3 : Int32))), .val (.int (2 : Int32)), .val (.ref b3), .val (.ref w2), .val (.ref b24), .val (.int (0 : Int32))] [])) _
              refine own_blk X35 hx bl0_100_2 (own_hb hby bd0_100_2) (pc' := 105) (Ls' := #[.val (.int p1), .val (.int p2), .val (.int p3), .val (.int p4), .val (.int p1), .val (.int ((p4 &&& (2147483647 : Int32)) % (3 : Int32))), .val (.int (2 : Int32)), .val (.ref b3), .val (.ref w2), .val (.ref b24), .val (.int (0 : Int32))]) (st' := [(.int (1 : Int32))]) rfl ?_
              exact retN X35 hx (t := .boolean) Bd.returns (by simp) (hb hby at_105) hr
            · show Q0_2 Z p1 p2 p3 p4 w1 w2 wz h0 n0 _ T35.heap _
              rw [e35]
              exact ⟨by rw [f0_2, if_pos hc2, if_neg hc9, if_pos hc23, if_neg hc31, if_pos hc34], N35⟩
          · obtain ⟨_, T36, Lc36, X36, hQ36, st36⟩ := own_callV X28 hx hZ (y := (⟨"com/example/vendsettle/vendsettle/Processor$Status", "isSuccess", "()Z"⟩ : MethodName)) hown (hw _ (List.mem_of_getElem? (i := 51) rfl)) (hw _ (List.mem_of_getElem? (i := 52) rfl)) (hw _ (List.mem_of_getElem? (i := 54) rfl)) (hw _ (List.mem_of_getElem? (i := 53) rfl)) (hw _ (List.mem_of_getElem? (i := 35) rfl)) (hw _ (List.mem_of_getElem? (i := 55) rfl)) (by decide) (W := 0) Ec28_a1 (argsL := []) (rest := []) (rm8 l Z a0 hw [] b24 p1 T28.heap n0 zs29 Ec28_a1 Fc28_a1_errorCode) (by decide) (by decide) (c' := 4) (s' := 11) rfl rfl (by decide) (by decide) rfl (g := (mkF m 92 #[.val (.int p1), .val (.int p2), .val (.int p3), .val (.int p4), .val (.int p1), .val (.int ((p4 &&& (2147483647 : Int32)) % (3 : Int32))), .val (.int (2 : Int32)), .val (.ref b3), .val (.ref w2), .val (.ref b24), .val (.int (1 : Int32))] [(.ref b24)])) rfl (by rw [hml]; rfl) (lenOf pd_0_6 rfl) rfl (by show 2 * 0 + _ ≤ _; exact Nat.le_of_eq rfl) (hb hby at_92)
            obtain ⟨hv36, N36q, e36⟩ := hQ36
            have N36 := Fr.app N28 N36q
            rw [f8, if_pos (own_z hc31 hc34)] at hv36
            subst hv36
            have hSz : s.Since s.vm T28.heap.size := (State.WarmedH.refl s).since _
            obtain ⟨fs, hr, hrun, hended, hRW⟩ := X36.leaveW (s := s) hSz (by rw [e36]; exact (Nat.le_refl _)) (v := some (.int (1 : Int32))) (fun h => by rw [Bd.returns] at h; cases h)
            refine ⟨_, _, pre33 _ ?_, hrun, hended, _, _, rfl, ?_, ⟨_, rfl⟩, hRW.2.1, hRW.2.2.1, hRW.2.2.2.mono (by decide) (by decide)⟩
            · show Steps p.tables e below (T28.setTop (mkF m 78 #[.val (.int p1), .val (.int p2), .val (.int p3), .val (.int p4), .val (.int p1), .val (.int ((p4 &&& (2147483647 : Int32)) % (3 : Int32))), .val (.int (2 : Int32)), .val (.ref b3), .val (.ref w2), .val (.ref b24), .unset] [(.int p1)])) _
              refine XS.ifYes X28.here hx rfl (pc0 := 78) (pc' := 87) rfl (hb hby at_78) rfl ((if0 _ _).trans (flt hc34).2.2.2) (by decide) (by decide) ?_
              show Steps p.tables e below (T28.setTop (mkF m 87 #[.val (.int p1), .val (.int p2), .val (.int p3), .val (.int p4), .val (.int p1), .val (.int ((p4 &&& (2147483647 : Int32)) % (3 : Int32))), .val (.int (2 : Int32)), .val (.ref b3), .val (.ref w2), .val (.ref b24), .unset] [])) _
              refine own_blk X28 hx bl0_87_2 (own_hb hby bd0_87_2) (pc' := 90) (Ls' := #[.val (.int p1), .val (.int p2), .val (.int p3), .val (.int p4), .val (.int p1), .val (.int ((p4 &&& (2147483647 : Int32)) % (3 : Int32))), .val (.int (2 : Int32)), .val (.ref b3), .val (.ref w2), .val (.ref b24), .val (.int (1 : Int32))]) (st' := []) rfl ?_
              refine own_blk X28 hx bl0_90_1 (own_hb hby bd0_90_1) (pc' := 92) (Ls' := #[.val (.int p1), .val (.int p2), .val (.int p3), .val (.int p4), .val (.int p1), .val (.int ((p4 &&& (2147483647 : Int32)) % (3 : Int32))), .val (.int (2 : Int32)), .val (.ref b3), .val (.ref w2), .val (.ref b24), .val (.int (1 : Int32))]) (st' := [(.ref b24)]) rfl ?_
              refine st36 _ ?_
              show Steps p.tables e below (T36.setTop (mkF m 95 #[.val (.int p1), .val (.int p2), .val (.int p3), .val (.int p4), .val (.int p1), .val (.int ((p4 &&& (2147483647 : Int32)) % (3 : Int32))), .val (.int (2 : Int32)), .val (.ref b3), .val (.ref w2), .val (.ref b24), .val (.int (1 : Int32))] [(.int (1 : Int32))])) _
              refine own_blk X36 hx bl0_95_1 (own_hb hby bd0_95_1) (pc' := 97) (Ls' := #[.val (.int p1), .val (.int p2), .val (.int p3), .val (.int p4), .val (.int p1), .val (.int ((p4 &&& (2147483647 : Int32)) % (3 : Int32))), .val (.int (2 : Int32)), .val (.ref b3), .val (.ref w2), .val (.ref b24), .val (.int (1 : Int32))]) (st' := [(.int (1 : Int32)), (.int (1 : Int32))]) rfl ?_
              refine XS.icmpNo X36.here hx rfl (hb hby at_97) rfl (teq (by decide : (1 : Int32) = (1 : Int32))).2 ?_
              show Steps p.tables e below (T36.setTop (mkF m 100 #[.val (.int p1), .val (.int p2), .val (.int p3), .val (.int p4), .val (.int p1), .val (.int ((p4 &&& (2147483647 : Int32)) % (3 : Int32))), .val (.int (2 : Int32)), .val (.ref b3), .val (.ref w2), .val (.ref b24), .val (.int (1 : Int32))] [])) _
              refine own_blk X36 hx bl0_100_2 (own_hb hby bd0_100_2) (pc' := 105) (Ls' := #[.val (.int p1), .val (.int p2), .val (.int p3), .val (.int p4), .val (.int p1), .val (.int ((p4 &&& (2147483647 : Int32)) % (3 : Int32))), .val (.int (2 : Int32)), .val (.ref b3), .val (.ref w2), .val (.ref b24), .val (.int (1 : Int32))]) (st' := [(.int (1 : Int32))]) rfl ?_
              exact retN X36 hx (t := .boolean) Bd.returns (by simp) (hb hby at_105) hr
            · show Q0_2 Z p1 p2 p3 p4 w1 w2 wz h0 n0 _ T36.heap _
              rw [e36]
              exact ⟨by rw [f0_2, if_pos hc2, if_neg hc9, if_pos hc23, if_neg hc31, if_neg hc34], N36⟩
      · rw [f5, if_neg hc9, if_neg hc23] at hv5
        subst hv5
        obtain ⟨T37, h37, X37, e37, E37, A37, D37, -, st37⟩ := newO X5 hx hZ hown (hw _ (List.mem_of_getElem? (i := 33) rfl)) (hw _ (List.mem_of_getElem? (i := 34) rfl)) (hw _ (List.mem_of_getElem? (i := 35) rfl)) e5 (g := (mkF m 50 #[.val (.int p1), .val (.int p2), .val (.int p3), .val (.int p4), .val (.int p1), .val (.int ((p4 &&& (2147483647 : Int32)) % (3 : Int32))), .val (.int (2 : Int32)), .val (.ref b3), .val .null, .unset, .unset] [])) rfl (hb hby at_50) (by decide) (by decide)
        obtain ⟨b37, g37⟩ : ∃ z, z = T3.heap.size := ⟨_, rfl⟩
        rw [← g37] at A37 D37 st37
        have fa38 : Exa Z T3.heap w1 "com/example/vendsettle/vendsettle/Processor$Reason" := (E_w1.keep K3)
        have ne_w1_b37 : w1 ≠ b37 := Nat.ne_of_lt (Nat.lt_of_lt_of_le fa38.lt (Nat.le_of_eq g37.symm))
        have fa39 : Exa Z T3.heap w2 "com/example/vendsettle/vendsettle/Processor$Reason" := (E_w2.keep K3)
        have ne_w2_b37 : w2 ≠ b37 := Nat.ne_of_lt (Nat.lt_of_lt_of_le fa39.lt (Nat.le_of_eq g37.symm))
        have g_b37 : n0 ≤ b37 := Nat.le_trans zs4 (Nat.le_of_eq g37.symm)
        have zs40 : n0 ≤ h37.size := Nat.le_trans zs4 E37.1
        have F_errorCode_b37 : Fld Z h37 b37 "com/example/vendsettle/vendsettle/Processor$Status" "errorCode" "I" (.int (0 : Int32)) := D37 (Or.inr (hw _ (List.mem_of_getElem? (i := 46) rfl))) (ty := .int) (by decide)
        have F_statusMessage_b37 : Fld Z h37 b37 "com/example/vendsettle/vendsettle/Processor$Status" "statusMessage" "Ljava/lang/String;" .null := D37 (Or.inr (hw _ (List.mem_of_getElem? (i := 48) rfl))) (ty := (.object "java/lang/String")) (by decide)
        have F_reason_b37 : Fld Z h37 b37 "com/example/vendsettle/vendsettle/Processor$Status" "reason" "Lcom/example/vendsettle/vendsettle/Processor$Reason;" .null := D37 (Or.inr (hw _ (List.mem_of_getElem? (i := 50) rfl))) (ty := (.object "com/example/vendsettle/vendsettle/Processor$Reason")) (by decide)
        obtain ⟨_, T41, Lc41, X41, hQ41, st41⟩ := own_callI X37 hx hZ (y := (⟨"com/example/vendsettle/vendsettle/Processor$Status", "<init>", "(ILjava/lang/String;Lcom/example/vendsettle/vendsettle/Processor$Reason;)V"⟩ : MethodName)) rfl hown (hw _ (List.mem_of_getElem? (i := 36) rfl)) (hw _ (List.mem_of_getElem? (i := 37) rfl)) (hw _ (List.mem_of_getElem? (i := 35) rfl)) (hw _ (List.mem_of_getElem? (i := 38) rfl)) (by decide) (W := 1) (a := b37) (argsL := [(.int p1), (.ref b3), .null]) (rest := [(.ref b37)]) (rm6z l Z a0 hw [] b37 p1 b3 h37 n0 zs40 A37 F_errorCode_b37 F_statusMessage_b37 F_reason_b37 g_b37) (by decide) (by decide) (c' := 4) (s' := 11) rfl rfl (by decide) (by decide) e37 (g := (mkF m 60 #[.val (.int p1), .val (.int p2), .val (.int p3), .val (.int p4), .val (.int p1), .val (.int ((p4 &&& (2147483647 : Int32)) % (3 : Int32))), .val (.int (2 : Int32)), .val (.ref b3), .val .null, .unset, .unset] [.null, (.ref b3), (.int p1), (.ref b37), (.ref b37)])) rfl (by rw [hml]; rfl) (lenOf pd_0_5 rfl) rfl (by show 2 * 0 + _ ≤ _; exact Nat.le_of_eq rfl) (hb hby at_60)
        obtain ⟨rfl, N41q, K41, Ec41_a1, Fc41_a1_errorCode, Fc41_a1_statusMessage, Fc41_a1_reason⟩ := hQ41
        have N41 := Fr.app N5 N41q
        have zs42 : n0 ≤ T41.heap.size := Nat.le_trans zs40 K41.1
        have pre43 : ∀ t, Steps p.tables e below (T41.setTop (mkF m 67 #[.val (.int p1), .val (.int p2), .val (.int p3), .val (.int p4), .val (.int p1), .val (.int ((p4 &&& (2147483647 : Int32)) % (3 : Int32))), .val (.int (2 : Int32)), .val (.ref b3), .val .null, .val (.ref b37), .unset] [(.int p1)])) t → Steps p.tables e below (s₁.setTop (entryFrame m #[(.int p1), (.int p2), (.int p3), (.int p4)] maxLocals)) t := fun t kt => by
          refine pre8 _ ?_
          refine st5 _ ?_
          show Steps p.tables e below (T5.setTop (mkF m 48 #[.val (.int p1), .val (.int p2), .val (.int p3), .val (.int p4), .val (.int p1), .val (.int ((p4 &&& (2147483647 : Int32)) % (3 : Int32))), .val (.int (2 : Int32)), .val (.ref b3), .unset, .unset, .unset] [.null])) _
          refine XS.astore X5.here hx rfl (hb hby at_48) rfl rfl (l' := #[.val (.int p1), .val (.int p2), .val (.int p3), .val (.int p4), .val (.int p1), .val (.int ((p4 &&& (2147483647 : Int32)) % (3 : Int32))), .val (.int (2 : Int32)), .val (.ref b3), .val .null, .unset, .unset]) rfl ?_
          show Steps p.tables e below (T5.setTop (mkF m 50 #[.val (.int p1), .val (.int p2), .val (.int p3), .val (.int p4), .val (.int p1), .val (.int ((p4 &&& (2147483647 : Int32)) % (3 : Int32))), .val (.int (2 : Int32)), .val (.ref b3), .val .null, .unset, .unset] [])) _
          refine st37 _ ?_
          show Steps p.tables e below (T37.setTop (mkF m 53 #[.val (.int p1), .val (.int p2), .val (.int p3), .val (.int p4), .val (.int p1), .val (.int ((p4 &&& (2147483647 : Int32)) % (3 : Int32))), .val (.int (2 : Int32)), .val (.ref b3), .val .null, .unset, .unset] [(.ref b37)])) _
          refine own_blk X37 hx bl0_53_4 (own_hb hby bd0_53_4) (pc' := 60) (Ls' := #[.val (.int p1), .val (.int p2), .val (.int p3), .val (.int p4), .val (.int p1), .val (.int ((p4 &&& (2147483647 : Int32)) % (3 : Int32))), .val (.int (2 : Int32)), .val (.ref b3), .val .null, .unset, .unset]) (st' := [.null, (.ref b3), (.int p1), (.ref b37), (.ref b37)]) rfl ?_
          refine st41 _ ?_
          show Steps p.tables e below (T41.setTop (mkF m 63 #[.val (.int p1), .val (.int p2), .val (.int p3), .val (.int p4), .val (.int p1), .val (.int ((p4 &&& (2147483647 : Int32)) % (3 : Int32))), .val (.int (2 : Int32)), .val (.ref b3), .val .null, .unset, .unset] [(.ref b37)])) _
          refine own_blk X41 hx bl0_63_1 (own_hb hby bd0_63_1) (pc' := 65) (Ls' := #[.val (.int p1), .val (.int p2), .val (.int p3), .val (.int p4), .val (.int p1), .val (.int ((p4 &&& (2147483647 : Int32)) % (3 : Int32))), .val (.int (2 : Int32)), .val (.ref b3), .val .null, .val (.ref b37), .unset]) (st' := []) rfl ?_
          refine own_blk X41 hx bl0_65_1 (own_hb hby bd0_65_1) (pc' := 67) (Ls' := #[.val (.int p1), .val (.int p2), .val (.int p3), .val (.int p4), .val (.int p1), .val (.int ((p4 &&& (2147483647 : Int32)) % (3 : Int32))), .val (.int (2 : Int32)), .val (.ref b3), .val .null, .val (.ref b37), .unset]) (st' := [(.int p1)]) rfl ?_
          exact kt
        by_cases hc44 : p1 < (0 : Int32)
        · obtain ⟨_, T45, Lc45, X45, hQ45, st45⟩ := own_callV X41 hx hZ (y := (⟨"com/example/vendsettle/vendsettle/Processor$Status", "isSuccess", "()Z"⟩ : MethodName)) hown (hw _ (List.mem_of_getElem? (i := 51) rfl)) (hw _ (List.mem_of_getElem? (i := 52) rfl)) (hw _ (List.mem_of_getElem? (i := 54) rfl)) (hw _ (List.mem_of_getElem? (i := 53) rfl)) (hw _ (List.mem_of_getElem? (i := 35) rfl)) (hw _ (List.mem_of_getElem? (i := 55) rfl)) (by decide) (W := 0) Ec41_a1 (argsL := []) (rest := []) (rm8 l Z a0 hw [] b37 p1 T41.heap n0 zs42 Ec41_a1 Fc41_a1_errorCode) (by decide) (by decide) (c' := 4) (s' := 11) rfl rfl (by decide) (by decide) rfl (g := (mkF m 92 #[.val (.int p1), .val (.int p2), .val (.int p3), .val (.int p4), .val (.int p1), .val (.int ((p4 &&& (2147483647 : Int32)) % (3 : Int32))), .val (.int (2 : Int32)), .val (.ref b3), .val .null, .val (.ref b37), .val (.int (0 : Int32))] [(.ref b37)])) rfl (by rw [hml]; rfl) (lenOf pd_0_6 rfl) rfl (by show 2 * 0 + _ ≤ _; exact Nat.le_of_eq rfl) (hb hby at_92)
          obtain ⟨hv45, N45q, e45⟩ := hQ45
          have N45 := Fr.app N41 N45q
          rw [f8, if_neg (own_ltn hc44)] at hv45
          subst hv45
          have hSz : s.Since s.vm T41.heap.size := (State.WarmedH.refl s).since _
          obtain ⟨fs, hr, hrun, hended, hRW⟩ := X45.leaveW (s := s) hSz (by rw [e45]; exact (Nat.le_refl _)) (v := some (.int (1 : Int32))) (fun h => by rw [Bd.returns] at h; cases h)
          refine ⟨_, _, pre43 _ ?_, hrun, hended, _, _, rfl, ?_, ⟨_, rfl⟩, hRW.2.1, hRW.2.2.1, hRW.2.2.2.mono (by decide) (by decide)⟩
          · show Steps p.tables e below (T41.setTop (mkF m 67 #[.val (.int p1), .val (.int p2), .val (.int p3), .val (.int p4), .val (.int p1), .val (.int ((p4 &&& (2147483647 : Int32)) % (3 : Int32))), .val (.int (2 : Int32)), .val (.ref b3), .val .null, .val (.ref b37), .unset] [(.int p1)])) _
            refine XS.ifNo X41.here hx rfl (hb hby at_67) rfl ((if0 _ _).trans (tlt hc44).2.1) ?_
            show Steps p.tables e below (T41.setTop (mkF m 70 #[.val (.int p1), .val (.int p2), .val (.int p3), .val (.int p4), .val (.int p1), .val (.int ((p4 &&& (2147483647 : Int32)) % (3 : Int32))), .val (.int (2 : Int32)), .val (.ref b3), .val .null, .val (.ref b37), .unset] [])) _
            refine own_blk X41 hx bl0_70_2 (own_hb hby bd0_70_2) (pc' := 73) (Ls' := #[.val (.int p1), .val (.int p2), .val (.int p3), .val (.int p4), .val (.int p1), .val (.int ((p4 &&& (2147483647 : Int32)) % (3 : Int32))), .val (.int (2 : Int32)), .val (.ref b3), .val .null, .val (.ref b37), .val (.int (0 : Int32))]) (st' := []) rfl ?_
            refine own_blk X41 hx bl0_73_2 (own_hb hby bd0_73_2) (pc' := 92) (Ls' := #[.val (.int p1), .val (.int p2), .val (.int p3), .val (.int p4), .val (.int p1), .val (.int ((p4 &&& (2147483647 : Int32)) % (3 : Int32))), .val (.int (2 : Int32)), .val (.ref b3), .val .null, .val (.ref b37), .val (.int (0 : Int32))]) (st' := [(.ref b37)]) rfl ?_
            refine st45 _ ?_
            show Steps p.tables e below (T45.setTop (mkF m 95 #[.val (.int p1), .val (.int p2), .val (.int p3), .val (.int p4), .val (.int p1), .val (.int ((p4 &&& (2147483647 : Int32)) % (3 : Int32))), .val (.int (2 : Int32)), .val (.ref b3), .val .null, .val (.ref b37), .val (.int (0 : Int32))] [(.int (0 : Int32))])) _
            refine own_blk X45 hx bl0_95_1 (own_hb hby bd0_95_1) (pc' := 97) (Ls' := #[.val (.int p1), .val (.int p2), .val (.int p3), .val (.int p4), .val (.int p1), .val (.int ((p4 &&& (2147483647 : Int32)) % (3 : Int32))), .val (.int (2 : Int32)), .val (.ref b3), .val .null, .val (.ref b37), .val (.int (0 : Int32))]) (st' := [(.int (0 : Int32)), (.int (0 : Int32))]) rfl ?_
            refine XS.icmpNo X45.here hx rfl (hb hby at_97) rfl (teq (by decide : (0 : Int32) = (0 : Int32))).2 ?_
            show Steps p.tables e below (T45.setTop (mkF m 100 #[.val (.int p1), .val (.int p2), .val (.int p3), .val (.int p4), .val (.int p1), .val (.int ((p4 &&& (2147483647 : Int32)) % (3 : Int32))), .val (.int (2 : Int32)), .val (.ref b3), .val .null, .val (.ref b37), .val (.int (0 : Int32))] [])) _
            refine own_blk X45 hx bl0_100_2 (own_hb hby bd0_100_2) (pc' := 105) (Ls' := #[.val (.int p1), .val (.int p2), .val (.int p3), .val (.int p4), .val (.int p1), .val (.int ((p4 &&& (2147483647 : Int32)) % (3 : Int32))), .val (.int (2 : Int32)), .val (.ref b3), .val .null, .val (.ref b37), .val (.int (0 : Int32))]) (st' := [(.int (1 : Int32))]) rfl ?_
            exact retN X45 hx (t := .boolean) Bd.returns (by simp) (hb hby at_105) hr
          · show Q0_2 Z p1 p2 p3 p4 w1 w2 wz h0 n0 _ T45.heap _
            rw [e45]
            exact ⟨by rw [f0_2, if_pos hc2, if_neg hc9, if_neg hc23, if_pos hc44], N45⟩
        · have pre46 : ∀ t, Steps p.tables e below (T41.setTop (mkF m 78 #[.val (.int p1), .val (.int p2), .val (.int p3), .val (.int p4), .val (.int p1), .val (.int ((p4 &&& (2147483647 : Int32)) % (3 : Int32))), .val (.int (2 : Int32)), .val (.ref b3), .val .null, .val (.ref b37), .unset] [(.int p1)])) t → Steps p.tables e below (s₁.setTop (entryFrame m #[(.int p1), (.int p2), (.int p3), (.int p4)] maxLocals)) t := fun t kt => by
            refine pre43 _ ?_
            show Steps p.tables e below (T41.setTop (mkF m 67 #[.val (.int p1), .val (.int p2), .val (.int p3), .val (.int p4), .val (.int p1), .val (.int ((p4 &&& (2147483647 : Int32)) % (3 : Int32))), .val (.int (2 : Int32)), .val (.ref b3), .val .null, .val (.ref b37), .unset] [(.int p1)])) _
            refine XS.ifYes X41.here hx rfl (pc0 := 67) (pc' := 76) rfl (hb hby at_67) rfl ((if0 _ _).trans (flt hc44).2.1) (by decide) (by decide) ?_
            show Steps p.tables e below (T41.setTop (mkF m 76 #[.val (.int p1), .val (.int p2), .val (.int p3), .val (.int p4), .val (.int p1), .val (.int ((p4 &&& (2147483647 : Int32)) % (3 : Int32))), .val (.int (2 : Int32)), .val (.ref b3), .val .null, .val (.ref b37), .unset] [])) _
            refine own_blk X41 hx bl0_76_1 (own_hb hby bd0_76_1) (pc' := 78) (Ls' := #[.val (.int p1), .val (.int p2), .val (.int p3), .val (.int p4), .val (.int p1), .val (.int ((p4 &&& (2147483647 : Int32)) % (3 : Int32))), .val (.int (2 : Int32)), .val (.ref b3), .val .null, .val (.ref b37), .unset]) (st' := [(.int p1)]) rfl ?_
            exact kt
          by_cases hc47 : (0 : Int32) < p1
          · obtain ⟨_, T48, Lc48, X48, hQ48, st48⟩ := own_callV X41 hx hZ (y := (⟨"com/example/vendsettle/vendsettle/Processor$Status", "isSuccess", "()Z"⟩ : MethodName)) hown (hw _ (List.mem_of_getElem? (i := 51) rfl)) (hw _ (List.mem_of_getElem? (i := 52) rfl)) (hw _ (List.mem_of_getElem? (i := 54) rfl)) (hw _ (List.mem_of_getElem? (i := 53) rfl)) (hw _ (List.mem_of_getElem? (i := 35) rfl)) (hw _ (List.mem_of_getElem? (i := 55) rfl)) (by decide) (W := 0) Ec41_a1 (argsL := []) (rest := []) (rm8 l Z a0 hw [] b37 p1 T41.heap n0 zs42 Ec41_a1 Fc41_a1_errorCode) (by decide) (by decide) (c' := 4) (s' := 11) rfl rfl (by decide) (by decide) rfl (g := (mkF m 92 #[.val (.int p1), .val (.int p2), .val (.int p3), .val (.int p4), .val (.int p1), .val (.int ((p4 &&& (2147483647 : Int32)) % (3 : Int32))), .val (.int (2 : Int32)), .val (.ref b3), .val .null, .val (.ref b37), .val (.int (0 : Int32))] [(.ref b37)])) rfl (by rw [hml]; rfl) (lenOf pd_0_6 rfl) rfl (by show 2 * 0 + _ ≤ _; exact Nat.le_of_eq rfl) (hb hby at_92)
            obtain ⟨hv48, N48q, e48⟩ := hQ48
            have N48 := Fr.app N41 N48q
            rw [f8, if_neg (own_gtn hc47)] at hv48
            subst hv48
            have hSz : s.Since s.vm T41.heap.size := (State.WarmedH.refl s).since _
            obtain ⟨fs, hr, hrun, hended, hRW⟩ := X48.leaveW (s := s) hSz (by rw [e48]; exact (Nat.le_refl _)) (v := some (.int (1 : Int32))) (fun h => by rw [Bd.returns] at h; cases h)
            refine ⟨_, _, pre46 _ ?_, hrun, hended, _, _, rfl, ?_, ⟨_, rfl⟩, hRW.2.1, hRW.2.2.1, hRW.2.2.2.mono (by decide) (by decide)⟩
            · show Steps p.tables e below (T41.setTop (mkF m 78 #[.val (.int p1), .val (.int p2), .val (.int p3), .val (.int p4), .val (.int p1), .val (.int ((p4 &&& (2147483647 : Int32)) % (3 : Int32))), .val (.int (2 : Int32)), .val (.ref b3), .val .null, .val (.ref b37), .unset] [(.int p1)])) _
              refine XS.ifNo X41.here hx rfl (hb hby at_78) rfl ((if0 _ _).trans (tlt hc47).2.2.2) ?_
              show Steps p.tables e below (T41.setTop (mkF m 81 #[.val (.int p1), .val (.int p2), .val (.int p3), .val (.int p4), .val (.int p1), .val (.int ((p4 &&& (2147483647 : Int32)) % (3 : Int32))), .val (.int (2 : Int32)), .val (.ref b3), .val .null, .val (.ref b37), .unset] [])) _
              refine own_blk X41 hx bl0_81_2 (own_hb hby bd0_81_2) (pc' := 84) (Ls' := #[.val (.int p1), .val (.int p2), .val (.int p3), .val (.int p4), .val (.int p1), .val (.int ((p4 &&& (2147483647 : Int32)) % (3 : Int32))), .val (.int (2 : Int32)), .val (.ref b3), .val .null, .val (.ref b37), .val (.int (0 : Int32))]) (st' := []) rfl ?_
              refine own_blk X41 hx bl0_84_2 (own_hb hby bd0_84_2) (pc' := 92) (Ls' := #[.val (.int p1), .val (.int p2), .val (.int p3), .val (.int p4), .val (.int p1), .val (.int ((p4 &&& (2147483647 : Int32)) % (3 : Int32))), .val (.int (2 : Int32)), .val (.ref b3), .val .null, .val (.ref b37), .val (.int (0 : Int32))]) (st' := [(.ref b37)]) rfl ?_
              refine st48 _ ?_
              show Steps p.tables e below (T48.setTop (mkF m 95 #[.val (.int p1), .val (.int p2), .val (.int p3), .val (.int p4), .val (.int p1), .val (.int ((p4 &&& (2147483647 : Int32)) % (3 : Int32))), .val (.int (2 : Int32)), .val (.ref b3), .val .null, .val (.ref b37), .val (.int (0 : Int32))] [(.int (0 : Int32))])) _
              refine own_blk X48 hx bl0_95_1 (own_hb hby bd0_95_1) (pc' := 97) (Ls' := #[.val (.int p1), .val (.int p2), .val (.int p3), .val (.int p4), .val (.int p1), .val (.int ((p4 &&& (2147483647 : Int32)) % (3 : Int32))), .val (.int (2 : Int32)), .val (.ref b3), .val .null, .val (.ref b37), .val (.int (0 : Int32))]) (st' := [(.int (0 : Int32)), (.int (0 : Int32))]) rfl ?_
              refine XS.icmpNo X48.here hx rfl (hb hby at_97) rfl (teq (by decide : (0 : Int32) = (0 : Int32))).2 ?_
              show Steps p.tables e below (T48.setTop (mkF m 100 #[.val (.int p1), .val (.int p2), .val (.int p3), .val (.int p4), .val (.int p1), .val (.int ((p4 &&& (2147483647 : Int32)) % (3 : Int32))), .val (.int (2 : Int32)), .val (.ref b3), .val .null, .val (.ref b37), .val (.int (0 : Int32))] [])) _
              refine own_blk X48 hx bl0_100_2 (own_hb hby bd0_100_2) (pc' := 105) (Ls' := #[.val (.int p1), .val (.int p2), .val (.int p3), .val (.int p4), .val (.int p1), .val (.int ((p4 &&& (2147483647 : Int32)) % (3 : Int32))), .val (.int (2 : Int32)), .val (.ref b3), .val .null, .val (.ref b37), .val (.int (0 : Int32))]) (st' := [(.int (1 : Int32))]) rfl ?_
              exact retN X48 hx (t := .boolean) Bd.returns (by simp) (hb hby at_105) hr
            · show Q0_2 Z p1 p2 p3 p4 w1 w2 wz h0 n0 _ T48.heap _
              rw [e48]
              exact ⟨by rw [f0_2, if_pos hc2, if_neg hc9, if_neg hc23, if_neg hc44, if_pos hc47], N48⟩
          · obtain ⟨_, T49, Lc49, X49, hQ49, st49⟩ := own_callV X41 hx hZ (y := (⟨"com/example/vendsettle/vendsettle/Processor$Status", "isSuccess", "()Z"⟩ : MethodName)) hown (hw _ (List.mem_of_getElem? (i := 51) rfl)) (hw _ (List.mem_of_getElem? (i := 52) rfl)) (hw _ (List.mem_of_getElem? (i := 54) rfl)) (hw _ (List.mem_of_getElem? (i := 53) rfl)) (hw _ (List.mem_of_getElem? (i := 35) rfl)) (hw _ (List.mem_of_getElem? (i := 55) rfl)) (by decide) (W := 0) Ec41_a1 (argsL := []) (rest := []) (rm8 l Z a0 hw [] b37 p1 T41.heap n0 zs42 Ec41_a1 Fc41_a1_errorCode) (by decide) (by decide) (c' := 4) (s' := 11) rfl rfl (by decide) (by decide) rfl (g := (mkF m 92 #[.val (.int p1), .val (.int p2), .val (.int p3), .val (.int p4), .val (.int p1), .val (.int ((p4 &&& (2147483647 : Int32)) % (3 : Int32))), .val (.int (2 : Int32)), .val (.ref b3), .val .null, .val (.ref b37), .val (.int (1 : Int32))] [(.ref b37)])) rfl (by rw [hml]; rfl) (lenOf pd_0_6 rfl) rfl (by show 2 * 0 + _ ≤ _; exact Nat.le_of_eq rfl) (hb hby at_92)
            obtain ⟨hv49, N49q, e49⟩ := hQ49
            have N49 := Fr.app N41 N49q
            rw [f8, if_pos (own_z hc44 hc47)] at hv49
            subst hv49
            have hSz : s.Since s.vm T41.heap.size := (State.WarmedH.refl s).since _
            obtain ⟨fs, hr, hrun, hended, hRW⟩ := X49.leaveW (s := s) hSz (by rw [e49]; exact (Nat.le_refl _)) (v := some (.int (1 : Int32))) (fun h => by rw [Bd.returns] at h; cases h)
            refine ⟨_, _, pre46 _ ?_, hrun, hended, _, _, rfl, ?_, ⟨_, rfl⟩, hRW.2.1, hRW.2.2.1, hRW.2.2.2.mono (by decide) (by decide)⟩
            · show Steps p.tables e below (T41.setTop (mkF m 78 #[.val (.int p1), .val (.int p2), .val (.int p3), .val (.int p4), .val (.int p1), .val (.int ((p4 &&& (2147483647 : Int32)) % (3 : Int32))), .val (.int (2 : Int32)), .val (.ref b3), .val .null, .val (.ref b37), .unset] [(.int p1)])) _
              refine XS.ifYes X41.here hx rfl (pc0 := 78) (pc' := 87) rfl (hb hby at_78) rfl ((if0 _ _).trans (flt hc47).2.2.2) (by decide) (by decide) ?_
              show Steps p.tables e below (T41.setTop (mkF m 87 #[.val (.int p1), .val (.int p2), .val (.int p3), .val (.int p4), .val (.int p1), .val (.int ((p4 &&& (2147483647 : Int32)) % (3 : Int32))), .val (.int (2 : Int32)), .val (.ref b3), .val .null, .val (.ref b37), .unset] [])) _
              refine own_blk X41 hx bl0_87_2 (own_hb hby bd0_87_2) (pc' := 90) (Ls' := #[.val (.int p1), .val (.int p2), .val (.int p3), .val (.int p4), .val (.int p1), .val (.int ((p4 &&& (2147483647 : Int32)) % (3 : Int32))), .val (.int (2 : Int32)), .val (.ref b3), .val .null, .val (.ref b37), .val (.int (1 : Int32))]) (st' := []) rfl ?_
              refine own_blk X41 hx bl0_90_1 (own_hb hby bd0_90_1) (pc' := 92) (Ls' := #[.val (.int p1), .val (.int p2), .val (.int p3), .val (.int p4), .val (.int p1), .val (.int ((p4 &&& (2147483647 : Int32)) % (3 : Int32))), .val (.int (2 : Int32)), .val (.ref b3), .val .null, .val (.ref b37), .val (.int (1 : Int32))]) (st' := [(.ref b37)]) rfl ?_
              refine st49 _ ?_
              show Steps p.tables e below (T49.setTop (mkF m 95 #[.val (.int p1), .val (.int p2), .val (.int p3), .val (.int p4), .val (.int p1), .val (.int ((p4 &&& (2147483647 : Int32)) % (3 : Int32))), .val (.int (2 : Int32)), .val (.ref b3), .val .null, .val (.ref b37), .val (.int (1 : Int32))] [(.int (1 : Int32))])) _
              refine own_blk X49 hx bl0_95_1 (own_hb hby bd0_95_1) (pc' := 97) (Ls' := #[.val (.int p1), .val (.int p2), .val (.int p3), .val (.int p4), .val (.int p1), .val (.int ((p4 &&& (2147483647 : Int32)) % (3 : Int32))), .val (.int (2 : Int32)), .val (.ref b3), .val .null, .val (.ref b37), .val (.int (1 : Int32))]) (st' := [(.int (1 : Int32)), (.int (1 : Int32))]) rfl ?_
              refine XS.icmpNo X49.here hx rfl (hb hby at_97) rfl (teq (by decide : (1 : Int32) = (1 : Int32))).2 ?_
              show Steps p.tables e below (T49.setTop (mkF m 100 #[.val (.int p1), .val (.int p2), .val (.int p3), .val (.int p4), .val (.int p1), .val (.int ((p4 &&& (2147483647 : Int32)) % (3 : Int32))), .val (.int (2 : Int32)), .val (.ref b3), .val .null, .val (.ref b37), .val (.int (1 : Int32))] [])) _
              refine own_blk X49 hx bl0_100_2 (own_hb hby bd0_100_2) (pc' := 105) (Ls' := #[.val (.int p1), .val (.int p2), .val (.int p3), .val (.int p4), .val (.int p1), .val (.int ((p4 &&& (2147483647 : Int32)) % (3 : Int32))), .val (.int (2 : Int32)), .val (.ref b3), .val .null, .val (.ref b37), .val (.int (1 : Int32))]) (st' := [(.int (1 : Int32))]) rfl ?_
              exact retN X49 hx (t := .boolean) Bd.returns (by simp) (hb hby at_105) hr
            · show Q0_2 Z p1 p2 p3 p4 w1 w2 wz h0 n0 _ T49.heap _
              rw [e49]
              exact ⟨by rw [f0_2, if_pos hc2, if_neg hc9, if_neg hc23, if_neg hc44, if_neg hc47], N49⟩
  · obtain ⟨_, T50, Lc50, X50, hQ50, st50⟩ := own_callS X0 hx hZ (y := (⟨"com/example/vendsettle/vendsettle/StatusIsSuccessPinLaw", "messageOf", "(III)Ljava/lang/String;"⟩ : MethodName)) hown (hw _ (List.mem_of_getElem? (i := 1) rfl)) (hw _ (List.mem_of_getElem? (i := 2) rfl)) (hw _ (List.mem_of_getElem? (i := 3) rfl)) (hw _ (List.mem_of_getElem? (i := 4) rfl)) (by decide) (W := 0) (argsL := [(.int (2 : Int32)), (.int p2), (.int p3)]) (rest := []) (rm1_2 l Z a0 hw [] p2 p3 wz h0 n0 Z0 S_COMPACT_STRINGS hwz) (by decide) (by decide) (c' := 3) (s' := 8) rfl rfl (by decide) (by decide) e0 (g := (mkF m 38 #[.val (.int p1), .val (.int p2), .val (.int p3), .val (.int p4), .val (.int (0 : Int32)), .val (.int ((p4 &&& (2147483647 : Int32)) % (3 : Int32))), .val (.int (2 : Int32)), .unset, .unset, .unset, .unset] [(.int p3), (.int p2), (.int (2 : Int32))])) rfl (by rw [hml]; rfl) (lenOf pd_0_0 rfl) rfl (by show 2 * 0 + _ ≤ _; exact Nat.le_of_eq rfl) (hb hby at_38)
    obtain ⟨b50, rfl, N50q, K50⟩ := hQ50
    have N50 := Fr.app N0 N50q
    have zs51 : n0 ≤ T50.heap.size := Nat.le_trans Z0 K50.1
    have fa53 : Sta Z T50.heap "com/example/vendsettle/vendsettle/Processor$Reason" "ALREADY_COMPLETED" "Lcom/example/vendsettle/vendsettle/Processor$Reason;" (.ref w1) := (own_sta_keep S_ALREADY_COMPLETED K50)
    have fa54 : Sta Z T50.heap "com/example/vendsettle/vendsettle/Processor$Reason" "NOT_FOUND" "Lcom/example/vendsettle/vendsettle/Processor$Reason;" (.ref w2) := (own_sta_keep S_NOT_FOUND K50)
    obtain ⟨_, T52, Lc52, X52, hQ52, st52⟩ := own_callS X50 hx hZ (y := (⟨"com/example/vendsettle/vendsettle/StatusIsSuccessPinLaw", "reasonOf", "(I)Lcom/example/vendsettle/vendsettle/Processor$Reason;"⟩ : MethodName)) hown (hw _ (List.mem_of_getElem? (i := 27) rfl)) (hw _ (List.mem_of_getElem? (i := 28) rfl)) (hw _ (List.mem_of_getElem? (i := 3) rfl)) (hw _ (List.mem_of_getElem? (i := 29) rfl)) (by decide) (W := 0) (argsL := [(.int ((p4 &&& (2147483647 : Int32)) % (3 : Int32)))]) (rest := []) (rm5 l Z a0 hw [] ((p4 &&& (2147483647 : Int32)) % (3 : Int32)) w1 w2 T50.heap n0 zs51 fa53 fa54) (by decide) (by decide) (c' := 3) (s' := 8) rfl rfl (by decide) (by decide) rfl (g := (mkF m 45 #[.val (.int p1), .val (.int p2), .val (.int p3), .val (.int p4), .val (.int (0 : Int32)), .val (.int ((p4 &&& (2147483647 : Int32)) % (3 : Int32))), .val (.int (2 : Int32)), .val (.ref b50), .unset, .unset, .unset] [(.int ((p4 &&& (2147483647 : Int32)) % (3 : Int32)))])) rfl (by rw [hml]; rfl) (lenOf pd_0_4 rfl) rfl (by show 2 * 0 + _ ≤ _; exact Nat.le_of_eq rfl) (hb hby at_45)
    obtain ⟨hv52, N52q, e52⟩ := hQ52
    have N52 := Fr.app N50 N52q
    have pre55 : ∀ t, Steps p.tables e below (T50.setTop (mkF m 45 #[.val (.int p1), .val (.int p2), .val (.int p3), .val (.int p4), .val (.int (0 : Int32)), .val (.int ((p4 &&& (2147483647 : Int32)) % (3 : Int32))), .val (.int (2 : Int32)), .val (.ref b50), .unset, .unset, .unset] [(.int ((p4 &&& (2147483647 : Int32)) % (3 : Int32)))])) t → Steps p.tables e below (s₁.setTop (entryFrame m #[(.int p1), (.int p2), (.int p3), (.int p4)] maxLocals)) t := fun t kt => by
      refine pre1 _ ?_
      show Steps p.tables e below (s₁.setTop (mkF m 5 #[.val (.int p1), .val (.int p2), .val (.int p3), .val (.int p4), .unset, .unset, .unset, .unset, .unset, .unset, .unset] [(.int ((p4 >>> ((4 : Int32) &&& 31)) &&& (1 : Int32)))])) _
      refine XS.ifNo X0.here hx rfl (hb hby at_5) rfl ((if0 _ _).trans (feq hc2).1) ?_
      show Steps p.tables e below (s₁.setTop (mkF m 8 #[.val (.int p1), .val (.int p2), .val (.int p3), .val (.int p4), .unset, .unset, .unset, .unset, .unset, .unset, .unset] [])) _
      refine own_blk X0 hx bl0_8_3 (own_hb hby bd0_8_3) (pc' := 15) (Ls' := #[.val (.int p1), .val (.int p2), .val (.int p3), .val (.int p4), .val (.int (0 : Int32)), .unset, .unset, .unset, .unset, .unset, .unset]) (st' := []) rfl ?_
      refine own_blk X0 hx bl0_15_1 (own_hb hby bd0_15_1) (pc' := 16) (Ls' := #[.val (.int p1), .val (.int p2), .val (.int p3), .val (.int p4), .val (.int (0 : Int32)), .unset, .unset, .unset, .unset, .unset, .unset]) (st' := [(.int p4)]) rfl ?_
      refine X0.ldcInt hx hown (mvT hZ (hw _ (List.mem_of_getElem? (i := 0) rfl))) (g := (mkF m 16 #[.val (.int p1), .val (.int p2), .val (.int p3), .val (.int p4), .val (.int (0 : Int32)), .unset, .unset, .unset, .unset, .unset, .unset] [(.int p4)])) rfl (hb hby at_16) _ ?_
      show Steps p.tables e below (s₁.setTop (mkF m 18 #[.val (.int p1), .val (.int p2), .val (.int p3), .val (.int p4), .val (.int (0 : Int32)), .unset, .unset, .unset, .unset, .unset, .unset] [(.int (2147483647 : Int32)), (.int p4)])) _
      refine own_blk X0 hx bl0_18_2 (own_hb hby bd0_18_2) (pc' := 20) (Ls' := #[.val (.int p1), .val (.int p2), .val (.int p3), .val (.int p4), .val (.int (0 : Int32)), .unset, .unset, .unset, .unset, .unset, .unset]) (st' := [(.int (3 : Int32)), (.int (p4 &&& (2147483647 : Int32)))]) rfl ?_
      refine iremM X0 hx rfl (hb hby at_20) rfl (by decide : ¬ ((3 : Int32) = (0 : Int32))) ?_
      show Steps p.tables e below (s₁.setTop (mkF m 21 #[.val (.int p1), .val (.int p2), .val (.int p3), .val (.int p4), .val (.int (0 : Int32)), .unset, .unset, .unset, .unset, .unset, .unset] [(.int ((p4 &&& (2147483647 : Int32)) % (3 : Int32)))])) _
      refine own_blk X0 hx bl0_21_1 (own_hb hby bd0_21_1) (pc' := 23) (Ls' := #[.val (.int p1), .val (.int p2), .val (.int p3), .val (.int p4), .val (.int (0 : Int32)), .val (.int ((p4 &&& (2147483647 : Int32)) % (3 : Int32))), .unset, .unset, .unset, .unset, .unset]) (st' := []) rfl ?_
      refine own_blk X0 hx bl0_23_3 (own_hb hby bd0_23_3) (pc' := 27) (Ls' := #[.val (.int p1), .val (.int p2), .val (.int p3), .val (.int p4), .val (.int (0 : Int32)), .val (.int ((p4 &&& (2147483647 : Int32)) % (3 : Int32))), .unset, .unset, .unset, .unset, .unset]) (st' := [(.int (p4 >>> ((8 : Int32) &&& 31)))]) rfl ?_
      refine X0.ldcInt hx hown (mvT hZ (hw _ (List.mem_of_getElem? (i := 0) rfl))) (g := (mkF m 27 #[.val (.int p1), .val (.int p2), .val (.int p3), .val (.int p4), .val (.int (0 : Int32)), .val (.int ((p4 &&& (2147483647 : Int32)) % (3 : Int32))), .unset, .unset, .unset, .unset, .unset] [(.int (p4 >>> ((8 : Int32) &&& 31)))])) rfl (hb hby at_27) _ ?_
      show Steps p.tables e below (s₁.setTop (mkF m 29 #[.val (.int p1), .val (.int p2), .val (.int p3), .val (.int p4), .val (.int (0 : Int32)), .val (.int ((p4 &&& (2147483647 : Int32)) % (3 : Int32))), .unset, .unset, .unset, .unset, .unset] [(.int (2147483647 : Int32)), (.int (p4 >>> ((8 : Int32) &&& 31)))])) _
      refine own_blk X0 hx bl0_29_2 (own_hb hby bd0_29_2) (pc' := 31) (Ls' := #[.val (.int p1), .val (.int p2), .val (.int p3), .val (.int p4), .val (.int (0 : Int32)), .val (.int ((p4 &&& (2147483647 : Int32)) % (3 : Int32))), .unset, .unset, .unset, .unset, .unset]) (st' := [(.int (3 : Int32)), (.int ((p4 >>> ((8 : Int32) &&& 31)) &&& (2147483647 : Int32)))]) rfl ?_
      refine iremM X0 hx rfl (hb hby at_31) rfl (by decide : ¬ ((3 : Int32) = (0 : Int32))) ?_
      show Steps p.tables e below (s₁.setTop (mkF m 32 #[.val (.int p1), .val (.int p2), .val (.int p3), .val (.int p4), .val (.int (0 : Int32)), .val (.int ((p4 &&& (2147483647 : Int32)) % (3 : Int32))), .unset, .unset, .unset, .unset, .unset] [(.int (((p4 >>> ((8 : Int32) &&& 31)) &&& (2147483647 : Int32)) % (3 : Int32)))])) _
      rw [hn]
      show Steps p.tables e below (s₁.setTop (mkF m 32 #[.val (.int p1), .val (.int p2), .val (.int p3), .val (.int p4), .val (.int (0 : Int32)), .val (.int ((p4 &&& (2147483647 : Int32)) % (3 : Int32))), .unset, .unset, .unset, .unset, .unset] [(.int (2 : Int32))])) _
      refine own_blk X0 hx bl0_32_1 (own_hb hby bd0_32_1) (pc' := 34) (Ls' := #[.val (.int p1), .val (.int p2), .val (.int p3), .val (.int p4), .val (.int (0 : Int32)), .val (.int ((p4 &&& (2147483647 : Int32)) % (3 : Int32))), .val (.int (2 : Int32)), .unset, .unset, .unset, .unset]) (st' := []) rfl ?_
      refine own_blk X0 hx bl0_34_3 (own_hb hby bd0_34_3) (pc' := 38) (Ls' := #[.val (.int p1), .val (.int p2), .val (.int p3), .val (.int p4), .val (.int (0 : Int32)), .val (.int ((p4 &&& (2147483647 : Int32)) % (3 : Int32))), .val (.int (2 : Int32)), .unset, .unset, .unset, .unset]) (st' := [(.int p3), (.int p2), (.int (2 : Int32))]) rfl ?_
      refine st50 _ ?_
      show Steps p.tables e below (T50.setTop (mkF m 41 #[.val (.int p1), .val (.int p2), .val (.int p3), .val (.int p4), .val (.int (0 : Int32)), .val (.int ((p4 &&& (2147483647 : Int32)) % (3 : Int32))), .val (.int (2 : Int32)), .unset, .unset, .unset, .unset] [(.ref b50)])) _
      refine own_blk X50 hx bl0_41_1 (own_hb hby bd0_41_1) (pc' := 43) (Ls' := #[.val (.int p1), .val (.int p2), .val (.int p3), .val (.int p4), .val (.int (0 : Int32)), .val (.int ((p4 &&& (2147483647 : Int32)) % (3 : Int32))), .val (.int (2 : Int32)), .val (.ref b50), .unset, .unset, .unset]) (st' := []) rfl ?_
      refine own_blk X50 hx bl0_43_1 (own_hb hby bd0_43_1) (pc' := 45) (Ls' := #[.val (.int p1), .val (.int p2), .val (.int p3), .val (.int p4), .val (.int (0 : Int32)), .val (.int ((p4 &&& (2147483647 : Int32)) % (3 : Int32))), .val (.int (2 : Int32)), .val (.ref b50), .unset, .unset, .unset]) (st' := [(.int ((p4 &&& (2147483647 : Int32)) % (3 : Int32)))]) rfl ?_
      exact kt
    by_cases hc56 : ((p4 &&& (2147483647 : Int32)) % (3 : Int32)) = (1 : Int32)
    · rw [f5, if_pos hc56] at hv52
      subst hv52
      obtain ⟨T57, h57, X57, e57, E57, A57, D57, -, st57⟩ := newO X52 hx hZ hown (hw _ (List.mem_of_getElem? (i := 33) rfl)) (hw _ (List.mem_of_getElem? (i := 34) rfl)) (hw _ (List.mem_of_getElem? (i := 35) rfl)) e52 (g := (mkF m 50 #[.val (.int p1), .val (.int p2), .val (.int p3), .val (.int p4), .val (.int (0 : Int32)), .val (.int ((p4 &&& (2147483647 : Int32)) % (3 : Int32))), .val (.int (2 : Int32)), .val (.ref b50), .val (.ref w1), .unset, .unset] [])) rfl (hb hby at_50) (by decide) (by decide)
      obtain ⟨b57, g57⟩ : ∃ z, z = T50.heap.size := ⟨_, rfl⟩
      rw [← g57] at A57 D57 st57
      have fa58 : Exa Z T50.heap w1 "com/example/vendsettle/vendsettle/Processor$Reason" := (E_w1.keep K50)
      have ne_w1_b57 : w1 ≠ b57 := Nat.ne_of_lt (Nat.lt_of_lt_of_le fa58.lt (Nat.le_of_eq g57.symm))
      have fa59 : Exa Z T50.heap w2 "com/example/vendsettle/vendsettle/Processor$Reason" := (E_w2.keep K50)
      have ne_w2_b57 : w2 ≠ b57 := Nat.ne_of_lt (Nat.lt_of_lt_of_le fa59.lt (Nat.le_of_eq g57.symm))
      have g_b57 : n0 ≤ b57 := Nat.le_trans zs51 (Nat.le_of_eq g57.symm)
      have zs60 : n0 ≤ h57.size := Nat.le_trans zs51 E57.1
      have F_errorCode_b57 : Fld Z h57 b57 "com/example/vendsettle/vendsettle/Processor$Status" "errorCode" "I" (.int (0 : Int32)) := D57 (Or.inr (hw _ (List.mem_of_getElem? (i := 46) rfl))) (ty := .int) (by decide)
      have F_statusMessage_b57 : Fld Z h57 b57 "com/example/vendsettle/vendsettle/Processor$Status" "statusMessage" "Ljava/lang/String;" .null := D57 (Or.inr (hw _ (List.mem_of_getElem? (i := 48) rfl))) (ty := (.object "java/lang/String")) (by decide)
      have F_reason_b57 : Fld Z h57 b57 "com/example/vendsettle/vendsettle/Processor$Status" "reason" "Lcom/example/vendsettle/vendsettle/Processor$Reason;" .null := D57 (Or.inr (hw _ (List.mem_of_getElem? (i := 50) rfl))) (ty := (.object "com/example/vendsettle/vendsettle/Processor$Reason")) (by decide)
      obtain ⟨_, T61, Lc61, X61, hQ61, st61⟩ := own_callI X57 hx hZ (y := (⟨"com/example/vendsettle/vendsettle/Processor$Status", "<init>", "(ILjava/lang/String;Lcom/example/vendsettle/vendsettle/Processor$Reason;)V"⟩ : MethodName)) rfl hown (hw _ (List.mem_of_getElem? (i := 36) rfl)) (hw _ (List.mem_of_getElem? (i := 37) rfl)) (hw _ (List.mem_of_getElem? (i := 35) rfl)) (hw _ (List.mem_of_getElem? (i := 38) rfl)) (by decide) (W := 1) (a := b57) (argsL := [(.int (0 : Int32)), (.ref b50), (.ref w1)]) (rest := [(.ref b57)]) (rm6r l Z a0 hw [] b57 (0 : Int32) b50 w1 h57 n0 zs60 A57 F_errorCode_b57 F_statusMessage_b57 F_reason_b57 g_b57) (by decide) (by decide) (c' := 4) (s' := 11) rfl rfl (by decide) (by decide) e57 (g := (mkF m 60 #[.val (.int p1), .val (.int p2), .val (.int p3), .val (.int p4), .val (.int (0 : Int32)), .val (.int ((p4 &&& (2147483647 : Int32)) % (3 : Int32))), .val (.int (2 : Int32)), .val (.ref b50), .val (.ref w1), .unset, .unset] [(.ref w1), (.ref b50), (.int (0 : Int32)), (.ref b57), (.ref b57)])) rfl (by rw [hml]; rfl) (lenOf pd_0_5 rfl) rfl (by show 2 * 0 + _ ≤ _; exact Nat.le_of_eq rfl) (hb hby at_60)
      obtain ⟨rfl, N61q, K61, Ec61_a1, Fc61_a1_errorCode, Fc61_a1_statusMessage, Fc61_a1_reason⟩ := hQ61
      have N61 := Fr.app N52 N61q
      have zs62 : n0 ≤ T61.heap.size := Nat.le_trans zs60 K61.1
      obtain ⟨_, T63, Lc63, X63, hQ63, st63⟩ := own_callV X61 hx hZ (y := (⟨"com/example/vendsettle/vendsettle/Processor$Status", "isSuccess", "()Z"⟩ : MethodName)) hown (hw _ (List.mem_of_getElem? (i := 51) rfl)) (hw _ (List.mem_of_getElem? (i := 52) rfl)) (hw _ (List.mem_of_getElem? (i := 54) rfl)) (hw _ (List.mem_of_getElem? (i := 53) rfl)) (hw _ (List.mem_of_getElem? (i := 35) rfl)) (hw _ (List.mem_of_getElem? (i := 55) rfl)) (by decide) (W := 0) Ec61_a1 (argsL := []) (rest := []) (rm8 l Z a0 hw [] b57 (0 : Int32) T61.heap n0 zs62 Ec61_a1 Fc61_a1_errorCode) (by decide) (by decide) (c' := 4) (s' := 11) rfl rfl (by decide) (by decide) rfl (g := (mkF m 92 #[.val (.int p1), .val (.int p2), .val (.int p3), .val (.int p4), .val (.int (0 : Int32)), .val (.int ((p4 &&& (2147483647 : Int32)) % (3 : Int32))), .val (.int (2 : Int32)), .val (.ref b50), .val (.ref w1), .val (.ref b57), .val (.int (1 : Int32))] [(.ref b57)])) rfl (by rw [hml]; rfl) (lenOf pd_0_6 rfl) rfl (by show 2 * 0 + _ ≤ _; exact Nat.le_of_eq rfl) (hb hby at_92)
      obtain ⟨hv63, N63q, e63⟩ := hQ63
      have N63 := Fr.app N61 N63q
      rw [f8, if_pos (by decide : (0 : Int32) = (0 : Int32))] at hv63
      subst hv63
      have hSz : s.Since s.vm T61.heap.size := (State.WarmedH.refl s).since _
      obtain ⟨fs, hr, hrun, hended, hRW⟩ := X63.leaveW (s := s) hSz (by rw [e63]; exact (Nat.le_refl _)) (v := some (.int (1 : Int32))) (fun h => by rw [Bd.returns] at h; cases h)
      refine ⟨_, _, pre55 _ ?_, hrun, hended, _, _, rfl, ?_, ⟨_, rfl⟩, hRW.2.1, hRW.2.2.1, hRW.2.2.2.mono (by decide) (by decide)⟩
      · refine st52 _ ?_
        show Steps p.tables e below (T52.setTop (mkF m 48 #[.val (.int p1), .val (.int p2), .val (.int p3), .val (.int p4), .val (.int (0 : Int32)), .val (.int ((p4 &&& (2147483647 : Int32)) % (3 : Int32))), .val (.int (2 : Int32)), .val (.ref b50), .unset, .unset, .unset] [(.ref w1)])) _
        refine own_blk X52 hx bl0_48_1 (own_hb hby bd0_48_1) (pc' := 50) (Ls' := #[.val (.int p1), .val (.int p2), .val (.int p3), .val (.int p4), .val (.int (0 : Int32)), .val (.int ((p4 &&& (2147483647 : Int32)) % (3 : Int32))), .val (.int (2 : Int32)), .val (.ref b50), .val (.ref w1), .unset, .unset]) (st' := []) rfl ?_
        refine st57 _ ?_
        show Steps p.tables e below (T57.setTop (mkF m 53 #[.val (.int p1), .val (.int p2), .val (.int p3), .val (.int p4), .val (.int (0 : Int32)), .val (.int ((p4 &&& (2147483647 : Int32)) % (3 : Int32))), .val (.int (2 : Int32)), .val (.ref b50), .val (.ref w1), .unset, .unset] [(.ref b57)])) _
        refine own_blk X57 hx bl0_53_4 (own_hb hby bd0_53_4) (pc' := 60) (Ls' := #[.val (.int p1), .val (.int p2), .val (.int p3), .val (.int p4), .val (.int (0 : Int32)), .val (.int ((p4 &&& (2147483647 : Int32)) % (3 : Int32))), .val (.int (2 : Int32)), .val (.ref b50), .val (.ref w1), .unset, .unset]) (st' := [(.ref w1), (.ref b50), (.int (0 : Int32)), (.ref b57), (.ref b57)]) rfl ?_
        refine st61 _ ?_
        show Steps p.tables e below (T61.setTop (mkF m 63 #[.val (.int p1), .val (.int p2), .val (.int p3), .val (.int p4), .val (.int (0 : Int32)), .val (.int ((p4 &&& (2147483647 : Int32)) % (3 : Int32))), .val (.int (2 : Int32)), .val (.ref b50), .val (.ref w1), .unset, .unset] [(.ref b57)])) _
        refine own_blk X61 hx bl0_63_1 (own_hb hby bd0_63_1) (pc' := 65) (Ls' := #[.val (.int p1), .val (.int p2), .val (.int p3), .val (.int p4), .val (.int (0 : Int32)), .val (.int ((p4 &&& (2147483647 : Int32)) % (3 : Int32))), .val (.int (2 : Int32)), .val (.ref b50), .val (.ref w1), .val (.ref b57), .unset]) (st' := []) rfl ?_
        refine own_blk X61 hx bl0_65_1 (own_hb hby bd0_65_1) (pc' := 67) (Ls' := #[.val (.int p1), .val (.int p2), .val (.int p3), .val (.int p4), .val (.int (0 : Int32)), .val (.int ((p4 &&& (2147483647 : Int32)) % (3 : Int32))), .val (.int (2 : Int32)), .val (.ref b50), .val (.ref w1), .val (.ref b57), .unset]) (st' := [(.int (0 : Int32))]) rfl ?_
        refine XS.ifYes X61.here hx rfl (pc0 := 67) (pc' := 76) rfl (hb hby at_67) rfl ((if0 _ _).trans (flt (by decide : ¬ ((0 : Int32) < (0 : Int32)))).2.1) (by decide) (by decide) ?_
        show Steps p.tables e below (T61.setTop (mkF m 76 #[.val (.int p1), .val (.int p2), .val (.int p3), .val (.int p4), .val (.int (0 : Int32)), .val (.int ((p4 &&& (2147483647 : Int32)) % (3 : Int32))), .val (.int (2 : Int32)), .val (.ref b50), .val (.ref w1), .val (.ref b57), .unset] [])) _
        refine own_blk X61 hx bl0_76_1 (own_hb hby bd0_76_1) (pc' := 78) (Ls' := #[.val (.int p1), .val (.int p2), .val (.int p3), .val (.int p4), .val (.int (0 : Int32)), .val (.int ((p4 &&& (2147483647 : Int32)) % (3 : Int32))), .val (.int (2 : Int32)), .val (.ref b50), .val (.ref w1), .val (.ref b57), .unset]) (st' := [(.int (0 : Int32))]) rfl ?_
        refine XS.ifYes X61.here hx rfl (pc0 := 78) (pc' := 87) rfl (hb hby at_78) rfl ((if0 _ _).trans (flt (by decide : ¬ ((0 : Int32) < (0 : Int32)))).2.2.2) (by decide) (by decide) ?_
        show Steps p.tables e below (T61.setTop (mkF m 87 #[.val (.int p1), .val (.int p2), .val (.int p3), .val (.int p4), .val (.int (0 : Int32)), .val (.int ((p4 &&& (2147483647 : Int32)) % (3 : Int32))), .val (.int (2 : Int32)), .val (.ref b50), .val (.ref w1), .val (.ref b57), .unset] [])) _
        refine own_blk X61 hx bl0_87_2 (own_hb hby bd0_87_2) (pc' := 90) (Ls' := #[.val (.int p1), .val (.int p2), .val (.int p3), .val (.int p4), .val (.int (0 : Int32)), .val (.int ((p4 &&& (2147483647 : Int32)) % (3 : Int32))), .val (.int (2 : Int32)), .val (.ref b50), .val (.ref w1), .val (.ref b57), .val (.int (1 : Int32))]) (st' := []) rfl ?_
        refine own_blk X61 hx bl0_90_1 (own_hb hby bd0_90_1) (pc' := 92) (Ls' := #[.val (.int p1), .val (.int p2), .val (.int p3), .val (.int p4), .val (.int (0 : Int32)), .val (.int ((p4 &&& (2147483647 : Int32)) % (3 : Int32))), .val (.int (2 : Int32)), .val (.ref b50), .val (.ref w1), .val (.ref b57), .val (.int (1 : Int32))]) (st' := [(.ref b57)]) rfl ?_
        refine st63 _ ?_
        show Steps p.tables e below (T63.setTop (mkF m 95 #[.val (.int p1), .val (.int p2), .val (.int p3), .val (.int p4), .val (.int (0 : Int32)), .val (.int ((p4 &&& (2147483647 : Int32)) % (3 : Int32))), .val (.int (2 : Int32)), .val (.ref b50), .val (.ref w1), .val (.ref b57), .val (.int (1 : Int32))] [(.int (1 : Int32))])) _
        refine own_blk X63 hx bl0_95_1 (own_hb hby bd0_95_1) (pc' := 97) (Ls' := #[.val (.int p1), .val (.int p2), .val (.int p3), .val (.int p4), .val (.int (0 : Int32)), .val (.int ((p4 &&& (2147483647 : Int32)) % (3 : Int32))), .val (.int (2 : Int32)), .val (.ref b50), .val (.ref w1), .val (.ref b57), .val (.int (1 : Int32))]) (st' := [(.int (1 : Int32)), (.int (1 : Int32))]) rfl ?_
        refine XS.icmpNo X63.here hx rfl (hb hby at_97) rfl (teq (by decide : (1 : Int32) = (1 : Int32))).2 ?_
        show Steps p.tables e below (T63.setTop (mkF m 100 #[.val (.int p1), .val (.int p2), .val (.int p3), .val (.int p4), .val (.int (0 : Int32)), .val (.int ((p4 &&& (2147483647 : Int32)) % (3 : Int32))), .val (.int (2 : Int32)), .val (.ref b50), .val (.ref w1), .val (.ref b57), .val (.int (1 : Int32))] [])) _
        refine own_blk X63 hx bl0_100_2 (own_hb hby bd0_100_2) (pc' := 105) (Ls' := #[.val (.int p1), .val (.int p2), .val (.int p3), .val (.int p4), .val (.int (0 : Int32)), .val (.int ((p4 &&& (2147483647 : Int32)) % (3 : Int32))), .val (.int (2 : Int32)), .val (.ref b50), .val (.ref w1), .val (.ref b57), .val (.int (1 : Int32))]) (st' := [(.int (1 : Int32))]) rfl ?_
        exact retN X63 hx (t := .boolean) Bd.returns (by simp) (hb hby at_105) hr
      · show Q0_2 Z p1 p2 p3 p4 w1 w2 wz h0 n0 _ T63.heap _
        rw [e63]
        exact ⟨by rw [f0_2, if_neg hc2, if_pos hc56], N63⟩
    · by_cases hc64 : ((p4 &&& (2147483647 : Int32)) % (3 : Int32)) = (2 : Int32)
      · rw [f5, if_neg hc56, if_pos hc64] at hv52
        subst hv52
        obtain ⟨T65, h65, X65, e65, E65, A65, D65, -, st65⟩ := newO X52 hx hZ hown (hw _ (List.mem_of_getElem? (i := 33) rfl)) (hw _ (List.mem_of_getElem? (i := 34) rfl)) (hw _ (List.mem_of_getElem? (i := 35) rfl)) e52 (g := (mkF m 50 #[.val (.int p1), .val (.int p2), .val (.int p3), .val (.int p4), .val (.int (0 : Int32)), .val (.int ((p4 &&& (2147483647 : Int32)) % (3 : Int32))), .val (.int (2 : Int32)), .val (.ref b50), .val (.ref w2), .unset, .unset] [])) rfl (hb hby at_50) (by decide) (by decide)
        obtain ⟨b65, g65⟩ : ∃ z, z = T50.heap.size := ⟨_, rfl⟩
        rw [← g65] at A65 D65 st65
        have fa66 : Exa Z T50.heap w1 "com/example/vendsettle/vendsettle/Processor$Reason" := (E_w1.keep K50)
        have ne_w1_b65 : w1 ≠ b65 := Nat.ne_of_lt (Nat.lt_of_lt_of_le fa66.lt (Nat.le_of_eq g65.symm))
        have fa67 : Exa Z T50.heap w2 "com/example/vendsettle/vendsettle/Processor$Reason" := (E_w2.keep K50)
        have ne_w2_b65 : w2 ≠ b65 := Nat.ne_of_lt (Nat.lt_of_lt_of_le fa67.lt (Nat.le_of_eq g65.symm))
        have g_b65 : n0 ≤ b65 := Nat.le_trans zs51 (Nat.le_of_eq g65.symm)
        have zs68 : n0 ≤ h65.size := Nat.le_trans zs51 E65.1
        have F_errorCode_b65 : Fld Z h65 b65 "com/example/vendsettle/vendsettle/Processor$Status" "errorCode" "I" (.int (0 : Int32)) := D65 (Or.inr (hw _ (List.mem_of_getElem? (i := 46) rfl))) (ty := .int) (by decide)
        have F_statusMessage_b65 : Fld Z h65 b65 "com/example/vendsettle/vendsettle/Processor$Status" "statusMessage" "Ljava/lang/String;" .null := D65 (Or.inr (hw _ (List.mem_of_getElem? (i := 48) rfl))) (ty := (.object "java/lang/String")) (by decide)
        have F_reason_b65 : Fld Z h65 b65 "com/example/vendsettle/vendsettle/Processor$Status" "reason" "Lcom/example/vendsettle/vendsettle/Processor$Reason;" .null := D65 (Or.inr (hw _ (List.mem_of_getElem? (i := 50) rfl))) (ty := (.object "com/example/vendsettle/vendsettle/Processor$Reason")) (by decide)
        obtain ⟨_, T69, Lc69, X69, hQ69, st69⟩ := own_callI X65 hx hZ (y := (⟨"com/example/vendsettle/vendsettle/Processor$Status", "<init>", "(ILjava/lang/String;Lcom/example/vendsettle/vendsettle/Processor$Reason;)V"⟩ : MethodName)) rfl hown (hw _ (List.mem_of_getElem? (i := 36) rfl)) (hw _ (List.mem_of_getElem? (i := 37) rfl)) (hw _ (List.mem_of_getElem? (i := 35) rfl)) (hw _ (List.mem_of_getElem? (i := 38) rfl)) (by decide) (W := 1) (a := b65) (argsL := [(.int (0 : Int32)), (.ref b50), (.ref w2)]) (rest := [(.ref b65)]) (rm6r l Z a0 hw [] b65 (0 : Int32) b50 w2 h65 n0 zs68 A65 F_errorCode_b65 F_statusMessage_b65 F_reason_b65 g_b65) (by decide) (by decide) (c' := 4) (s' := 11) rfl rfl (by decide) (by decide) e65 (g := (mkF m 60 #[.val (.int p1), .val (.int p2), .val (.int p3), .val (.int p4), .val (.int (0 : Int32)), .val (.int ((p4 &&& (2147483647 : Int32)) % (3 : Int32))), .val (.int (2 : Int32)), .val (.ref b50), .val (.ref w2), .unset, .unset] [(.ref w2), (.ref b50), (.int (0 : Int32)), (.ref b65), (.ref b65)])) rfl (by rw [hml]; rfl) (lenOf pd_0_5 rfl) rfl (by show 2 * 0 + _ ≤ _; exact Nat.le_of_eq rfl) (hb hby at_60)
        obtain ⟨rfl, N69q, K69, Ec69_a1, Fc69_a1_errorCode, Fc69_a1_statusMessage, Fc69_a1_reason⟩ := hQ69
        have N69 := Fr.app N52 N69q
        have zs70 : n0 ≤ T69.heap.size := Nat.le_trans zs68 K69.1
        obtain ⟨_, T71, Lc71, X71, hQ71, st71⟩ := own_callV X69 hx hZ (y := (⟨"com/example/vendsettle/vendsettle/Processor$Status", "isSuccess", "()Z"⟩ : MethodName)) hown (hw _ (List.mem_of_getElem? (i := 51) rfl)) (hw _ (List.mem_of_getElem? (i := 52) rfl)) (hw _ (List.mem_of_getElem? (i := 54) rfl)) (hw _ (List.mem_of_getElem? (i := 53) rfl)) (hw _ (List.mem_of_getElem? (i := 35) rfl)) (hw _ (List.mem_of_getElem? (i := 55) rfl)) (by decide) (W := 0) Ec69_a1 (argsL := []) (rest := []) (rm8 l Z a0 hw [] b65 (0 : Int32) T69.heap n0 zs70 Ec69_a1 Fc69_a1_errorCode) (by decide) (by decide) (c' := 4) (s' := 11) rfl rfl (by decide) (by decide) rfl (g := (mkF m 92 #[.val (.int p1), .val (.int p2), .val (.int p3), .val (.int p4), .val (.int (0 : Int32)), .val (.int ((p4 &&& (2147483647 : Int32)) % (3 : Int32))), .val (.int (2 : Int32)), .val (.ref b50), .val (.ref w2), .val (.ref b65), .val (.int (1 : Int32))] [(.ref b65)])) rfl (by rw [hml]; rfl) (lenOf pd_0_6 rfl) rfl (by show 2 * 0 + _ ≤ _; exact Nat.le_of_eq rfl) (hb hby at_92)
        obtain ⟨hv71, N71q, e71⟩ := hQ71
        have N71 := Fr.app N69 N71q
        rw [f8, if_pos (by decide : (0 : Int32) = (0 : Int32))] at hv71
        subst hv71
        have hSz : s.Since s.vm T69.heap.size := (State.WarmedH.refl s).since _
        obtain ⟨fs, hr, hrun, hended, hRW⟩ := X71.leaveW (s := s) hSz (by rw [e71]; exact (Nat.le_refl _)) (v := some (.int (1 : Int32))) (fun h => by rw [Bd.returns] at h; cases h)
        refine ⟨_, _, pre55 _ ?_, hrun, hended, _, _, rfl, ?_, ⟨_, rfl⟩, hRW.2.1, hRW.2.2.1, hRW.2.2.2.mono (by decide) (by decide)⟩
        · refine st52 _ ?_
          show Steps p.tables e below (T52.setTop (mkF m 48 #[.val (.int p1), .val (.int p2), .val (.int p3), .val (.int p4), .val (.int (0 : Int32)), .val (.int ((p4 &&& (2147483647 : Int32)) % (3 : Int32))), .val (.int (2 : Int32)), .val (.ref b50), .unset, .unset, .unset] [(.ref w2)])) _
          refine own_blk X52 hx bl0_48_1 (own_hb hby bd0_48_1) (pc' := 50) (Ls' := #[.val (.int p1), .val (.int p2), .val (.int p3), .val (.int p4), .val (.int (0 : Int32)), .val (.int ((p4 &&& (2147483647 : Int32)) % (3 : Int32))), .val (.int (2 : Int32)), .val (.ref b50), .val (.ref w2), .unset, .unset]) (st' := []) rfl ?_
          refine st65 _ ?_
          show Steps p.tables e below (T65.setTop (mkF m 53 #[.val (.int p1), .val (.int p2), .val (.int p3), .val (.int p4), .val (.int (0 : Int32)), .val (.int ((p4 &&& (2147483647 : Int32)) % (3 : Int32))), .val (.int (2 : Int32)), .val (.ref b50), .val (.ref w2), .unset, .unset] [(.ref b65)])) _
          refine own_blk X65 hx bl0_53_4 (own_hb hby bd0_53_4) (pc' := 60) (Ls' := #[.val (.int p1), .val (.int p2), .val (.int p3), .val (.int p4), .val (.int (0 : Int32)), .val (.int ((p4 &&& (2147483647 : Int32)) % (3 : Int32))), .val (.int (2 : Int32)), .val (.ref b50), .val (.ref w2), .unset, .unset]) (st' := [(.ref w2), (.ref b50), (.int (0 : Int32)), (.ref b65), (.ref b65)]) rfl ?_
          refine st69 _ ?_
          show Steps p.tables e below (T69.setTop (mkF m 63 #[.val (.int p1), .val (.int p2), .val (.int p3), .val (.int p4), .val (.int (0 : Int32)), .val (.int ((p4 &&& (2147483647 : Int32)) % (3 : Int32))), .val (.int (2 : Int32)), .val (.ref b50), .val (.ref w2), .unset, .unset] [(.ref b65)])) _
          refine own_blk X69 hx bl0_63_1 (own_hb hby bd0_63_1) (pc' := 65) (Ls' := #[.val (.int p1), .val (.int p2), .val (.int p3), .val (.int p4), .val (.int (0 : Int32)), .val (.int ((p4 &&& (2147483647 : Int32)) % (3 : Int32))), .val (.int (2 : Int32)), .val (.ref b50), .val (.ref w2), .val (.ref b65), .unset]) (st' := []) rfl ?_
          refine own_blk X69 hx bl0_65_1 (own_hb hby bd0_65_1) (pc' := 67) (Ls' := #[.val (.int p1), .val (.int p2), .val (.int p3), .val (.int p4), .val (.int (0 : Int32)), .val (.int ((p4 &&& (2147483647 : Int32)) % (3 : Int32))), .val (.int (2 : Int32)), .val (.ref b50), .val (.ref w2), .val (.ref b65), .unset]) (st' := [(.int (0 : Int32))]) rfl ?_
          refine XS.ifYes X69.here hx rfl (pc0 := 67) (pc' := 76) rfl (hb hby at_67) rfl ((if0 _ _).trans (flt (by decide : ¬ ((0 : Int32) < (0 : Int32)))).2.1) (by decide) (by decide) ?_
          show Steps p.tables e below (T69.setTop (mkF m 76 #[.val (.int p1), .val (.int p2), .val (.int p3), .val (.int p4), .val (.int (0 : Int32)), .val (.int ((p4 &&& (2147483647 : Int32)) % (3 : Int32))), .val (.int (2 : Int32)), .val (.ref b50), .val (.ref w2), .val (.ref b65), .unset] [])) _
          refine own_blk X69 hx bl0_76_1 (own_hb hby bd0_76_1) (pc' := 78) (Ls' := #[.val (.int p1), .val (.int p2), .val (.int p3), .val (.int p4), .val (.int (0 : Int32)), .val (.int ((p4 &&& (2147483647 : Int32)) % (3 : Int32))), .val (.int (2 : Int32)), .val (.ref b50), .val (.ref w2), .val (.ref b65), .unset]) (st' := [(.int (0 : Int32))]) rfl ?_
          refine XS.ifYes X69.here hx rfl (pc0 := 78) (pc' := 87) rfl (hb hby at_78) rfl ((if0 _ _).trans (flt (by decide : ¬ ((0 : Int32) < (0 : Int32)))).2.2.2) (by decide) (by decide) ?_
          show Steps p.tables e below (T69.setTop (mkF m 87 #[.val (.int p1), .val (.int p2), .val (.int p3), .val (.int p4), .val (.int (0 : Int32)), .val (.int ((p4 &&& (2147483647 : Int32)) % (3 : Int32))), .val (.int (2 : Int32)), .val (.ref b50), .val (.ref w2), .val (.ref b65), .unset] [])) _
          refine own_blk X69 hx bl0_87_2 (own_hb hby bd0_87_2) (pc' := 90) (Ls' := #[.val (.int p1), .val (.int p2), .val (.int p3), .val (.int p4), .val (.int (0 : Int32)), .val (.int ((p4 &&& (2147483647 : Int32)) % (3 : Int32))), .val (.int (2 : Int32)), .val (.ref b50), .val (.ref w2), .val (.ref b65), .val (.int (1 : Int32))]) (st' := []) rfl ?_
          refine own_blk X69 hx bl0_90_1 (own_hb hby bd0_90_1) (pc' := 92) (Ls' := #[.val (.int p1), .val (.int p2), .val (.int p3), .val (.int p4), .val (.int (0 : Int32)), .val (.int ((p4 &&& (2147483647 : Int32)) % (3 : Int32))), .val (.int (2 : Int32)), .val (.ref b50), .val (.ref w2), .val (.ref b65), .val (.int (1 : Int32))]) (st' := [(.ref b65)]) rfl ?_
          refine st71 _ ?_
          show Steps p.tables e below (T71.setTop (mkF m 95 #[.val (.int p1), .val (.int p2), .val (.int p3), .val (.int p4), .val (.int (0 : Int32)), .val (.int ((p4 &&& (2147483647 : Int32)) % (3 : Int32))), .val (.int (2 : Int32)), .val (.ref b50), .val (.ref w2), .val (.ref b65), .val (.int (1 : Int32))] [(.int (1 : Int32))])) _
          refine own_blk X71 hx bl0_95_1 (own_hb hby bd0_95_1) (pc' := 97) (Ls' := #[.val (.int p1), .val (.int p2), .val (.int p3), .val (.int p4), .val (.int (0 : Int32)), .val (.int ((p4 &&& (2147483647 : Int32)) % (3 : Int32))), .val (.int (2 : Int32)), .val (.ref b50), .val (.ref w2), .val (.ref b65), .val (.int (1 : Int32))]) (st' := [(.int (1 : Int32)), (.int (1 : Int32))]) rfl ?_
          refine XS.icmpNo X71.here hx rfl (hb hby at_97) rfl (teq (by decide : (1 : Int32) = (1 : Int32))).2 ?_
          show Steps p.tables e below (T71.setTop (mkF m 100 #[.val (.int p1), .val (.int p2), .val (.int p3), .val (.int p4), .val (.int (0 : Int32)), .val (.int ((p4 &&& (2147483647 : Int32)) % (3 : Int32))), .val (.int (2 : Int32)), .val (.ref b50), .val (.ref w2), .val (.ref b65), .val (.int (1 : Int32))] [])) _
          refine own_blk X71 hx bl0_100_2 (own_hb hby bd0_100_2) (pc' := 105) (Ls' := #[.val (.int p1), .val (.int p2), .val (.int p3), .val (.int p4), .val (.int (0 : Int32)), .val (.int ((p4 &&& (2147483647 : Int32)) % (3 : Int32))), .val (.int (2 : Int32)), .val (.ref b50), .val (.ref w2), .val (.ref b65), .val (.int (1 : Int32))]) (st' := [(.int (1 : Int32))]) rfl ?_
          exact retN X71 hx (t := .boolean) Bd.returns (by simp) (hb hby at_105) hr
        · show Q0_2 Z p1 p2 p3 p4 w1 w2 wz h0 n0 _ T71.heap _
          rw [e71]
          exact ⟨by rw [f0_2, if_neg hc2, if_neg hc56, if_pos hc64], N71⟩
      · rw [f5, if_neg hc56, if_neg hc64] at hv52
        subst hv52
        obtain ⟨T72, h72, X72, e72, E72, A72, D72, -, st72⟩ := newO X52 hx hZ hown (hw _ (List.mem_of_getElem? (i := 33) rfl)) (hw _ (List.mem_of_getElem? (i := 34) rfl)) (hw _ (List.mem_of_getElem? (i := 35) rfl)) e52 (g := (mkF m 50 #[.val (.int p1), .val (.int p2), .val (.int p3), .val (.int p4), .val (.int (0 : Int32)), .val (.int ((p4 &&& (2147483647 : Int32)) % (3 : Int32))), .val (.int (2 : Int32)), .val (.ref b50), .val .null, .unset, .unset] [])) rfl (hb hby at_50) (by decide) (by decide)
        obtain ⟨b72, g72⟩ : ∃ z, z = T50.heap.size := ⟨_, rfl⟩
        rw [← g72] at A72 D72 st72
        have fa73 : Exa Z T50.heap w1 "com/example/vendsettle/vendsettle/Processor$Reason" := (E_w1.keep K50)
        have ne_w1_b72 : w1 ≠ b72 := Nat.ne_of_lt (Nat.lt_of_lt_of_le fa73.lt (Nat.le_of_eq g72.symm))
        have fa74 : Exa Z T50.heap w2 "com/example/vendsettle/vendsettle/Processor$Reason" := (E_w2.keep K50)
        have ne_w2_b72 : w2 ≠ b72 := Nat.ne_of_lt (Nat.lt_of_lt_of_le fa74.lt (Nat.le_of_eq g72.symm))
        have g_b72 : n0 ≤ b72 := Nat.le_trans zs51 (Nat.le_of_eq g72.symm)
        have zs75 : n0 ≤ h72.size := Nat.le_trans zs51 E72.1
        have F_errorCode_b72 : Fld Z h72 b72 "com/example/vendsettle/vendsettle/Processor$Status" "errorCode" "I" (.int (0 : Int32)) := D72 (Or.inr (hw _ (List.mem_of_getElem? (i := 46) rfl))) (ty := .int) (by decide)
        have F_statusMessage_b72 : Fld Z h72 b72 "com/example/vendsettle/vendsettle/Processor$Status" "statusMessage" "Ljava/lang/String;" .null := D72 (Or.inr (hw _ (List.mem_of_getElem? (i := 48) rfl))) (ty := (.object "java/lang/String")) (by decide)
        have F_reason_b72 : Fld Z h72 b72 "com/example/vendsettle/vendsettle/Processor$Status" "reason" "Lcom/example/vendsettle/vendsettle/Processor$Reason;" .null := D72 (Or.inr (hw _ (List.mem_of_getElem? (i := 50) rfl))) (ty := (.object "com/example/vendsettle/vendsettle/Processor$Reason")) (by decide)
        obtain ⟨_, T76, Lc76, X76, hQ76, st76⟩ := own_callI X72 hx hZ (y := (⟨"com/example/vendsettle/vendsettle/Processor$Status", "<init>", "(ILjava/lang/String;Lcom/example/vendsettle/vendsettle/Processor$Reason;)V"⟩ : MethodName)) rfl hown (hw _ (List.mem_of_getElem? (i := 36) rfl)) (hw _ (List.mem_of_getElem? (i := 37) rfl)) (hw _ (List.mem_of_getElem? (i := 35) rfl)) (hw _ (List.mem_of_getElem? (i := 38) rfl)) (by decide) (W := 1) (a := b72) (argsL := [(.int (0 : Int32)), (.ref b50), .null]) (rest := [(.ref b72)]) (rm6z l Z a0 hw [] b72 (0 : Int32) b50 h72 n0 zs75 A72 F_errorCode_b72 F_statusMessage_b72 F_reason_b72 g_b72) (by decide) (by decide) (c' := 4) (s' := 11) rfl rfl (by decide) (by decide) e72 (g := (mkF m 60 #[.val (.int p1), .val (.int p2), .val (.int p3), .val (.int p4), .val (.int (0 : Int32)), .val (.int ((p4 &&& (2147483647 : Int32)) % (3 : Int32))), .val (.int (2 : Int32)), .val (.ref b50), .val .null, .unset, .unset] [.null, (.ref b50), (.int (0 : Int32)), (.ref b72), (.ref b72)])) rfl (by rw [hml]; rfl) (lenOf pd_0_5 rfl) rfl (by show 2 * 0 + _ ≤ _; exact Nat.le_of_eq rfl) (hb hby at_60)
        obtain ⟨rfl, N76q, K76, Ec76_a1, Fc76_a1_errorCode, Fc76_a1_statusMessage, Fc76_a1_reason⟩ := hQ76
        have N76 := Fr.app N52 N76q
        have zs77 : n0 ≤ T76.heap.size := Nat.le_trans zs75 K76.1
        obtain ⟨_, T78, Lc78, X78, hQ78, st78⟩ := own_callV X76 hx hZ (y := (⟨"com/example/vendsettle/vendsettle/Processor$Status", "isSuccess", "()Z"⟩ : MethodName)) hown (hw _ (List.mem_of_getElem? (i := 51) rfl)) (hw _ (List.mem_of_getElem? (i := 52) rfl)) (hw _ (List.mem_of_getElem? (i := 54) rfl)) (hw _ (List.mem_of_getElem? (i := 53) rfl)) (hw _ (List.mem_of_getElem? (i := 35) rfl)) (hw _ (List.mem_of_getElem? (i := 55) rfl)) (by decide) (W := 0) Ec76_a1 (argsL := []) (rest := []) (rm8 l Z a0 hw [] b72 (0 : Int32) T76.heap n0 zs77 Ec76_a1 Fc76_a1_errorCode) (by decide) (by decide) (c' := 4) (s' := 11) rfl rfl (by decide) (by decide) rfl (g := (mkF m 92 #[.val (.int p1), .val (.int p2), .val (.int p3), .val (.int p4), .val (.int (0 : Int32)), .val (.int ((p4 &&& (2147483647 : Int32)) % (3 : Int32))), .val (.int (2 : Int32)), .val (.ref b50), .val .null, .val (.ref b72), .val (.int (1 : Int32))] [(.ref b72)])) rfl (by rw [hml]; rfl) (lenOf pd_0_6 rfl) rfl (by show 2 * 0 + _ ≤ _; exact Nat.le_of_eq rfl) (hb hby at_92)
        obtain ⟨hv78, N78q, e78⟩ := hQ78
        have N78 := Fr.app N76 N78q
        rw [f8, if_pos (by decide : (0 : Int32) = (0 : Int32))] at hv78
        subst hv78
        have hSz : s.Since s.vm T76.heap.size := (State.WarmedH.refl s).since _
        obtain ⟨fs, hr, hrun, hended, hRW⟩ := X78.leaveW (s := s) hSz (by rw [e78]; exact (Nat.le_refl _)) (v := some (.int (1 : Int32))) (fun h => by rw [Bd.returns] at h; cases h)
        refine ⟨_, _, pre55 _ ?_, hrun, hended, _, _, rfl, ?_, ⟨_, rfl⟩, hRW.2.1, hRW.2.2.1, hRW.2.2.2.mono (by decide) (by decide)⟩
        · refine st52 _ ?_
          show Steps p.tables e below (T52.setTop (mkF m 48 #[.val (.int p1), .val (.int p2), .val (.int p3), .val (.int p4), .val (.int (0 : Int32)), .val (.int ((p4 &&& (2147483647 : Int32)) % (3 : Int32))), .val (.int (2 : Int32)), .val (.ref b50), .unset, .unset, .unset] [.null])) _
          refine XS.astore X52.here hx rfl (hb hby at_48) rfl rfl (l' := #[.val (.int p1), .val (.int p2), .val (.int p3), .val (.int p4), .val (.int (0 : Int32)), .val (.int ((p4 &&& (2147483647 : Int32)) % (3 : Int32))), .val (.int (2 : Int32)), .val (.ref b50), .val .null, .unset, .unset]) rfl ?_
          show Steps p.tables e below (T52.setTop (mkF m 50 #[.val (.int p1), .val (.int p2), .val (.int p3), .val (.int p4), .val (.int (0 : Int32)), .val (.int ((p4 &&& (2147483647 : Int32)) % (3 : Int32))), .val (.int (2 : Int32)), .val (.ref b50), .val .null, .unset, .unset] [])) _
          refine st72 _ ?_
          show Steps p.tables e below (T72.setTop (mkF m 53 #[.val (.int p1), .val (.int p2), .val (.int p3), .val (.int p4), .val (.int (0 : Int32)), .val (.int ((p4 &&& (2147483647 : Int32)) % (3 : Int32))), .val (.int (2 : Int32)), .val (.ref b50), .val .null, .unset, .unset] [(.ref b72)])) _
          refine own_blk X72 hx bl0_53_4 (own_hb hby bd0_53_4) (pc' := 60) (Ls' := #[.val (.int p1), .val (.int p2), .val (.int p3), .val (.int p4), .val (.int (0 : Int32)), .val (.int ((p4 &&& (2147483647 : Int32)) % (3 : Int32))), .val (.int (2 : Int32)), .val (.ref b50), .val .null, .unset, .unset]) (st' := [.null, (.ref b50), (.int (0 : Int32)), (.ref b72), (.ref b72)]) rfl ?_
          refine st76 _ ?_
          show Steps p.tables e below (T76.setTop (mkF m 63 #[.val (.int p1), .val (.int p2), .val (.int p3), .val (.int p4), .val (.int (0 : Int32)), .val (.int ((p4 &&& (2147483647 : Int32)) % (3 : Int32))), .val (.int (2 : Int32)), .val (.ref b50), .val .null, .unset, .unset] [(.ref b72)])) _
          refine own_blk X76 hx bl0_63_1 (own_hb hby bd0_63_1) (pc' := 65) (Ls' := #[.val (.int p1), .val (.int p2), .val (.int p3), .val (.int p4), .val (.int (0 : Int32)), .val (.int ((p4 &&& (2147483647 : Int32)) % (3 : Int32))), .val (.int (2 : Int32)), .val (.ref b50), .val .null, .val (.ref b72), .unset]) (st' := []) rfl ?_
          refine own_blk X76 hx bl0_65_1 (own_hb hby bd0_65_1) (pc' := 67) (Ls' := #[.val (.int p1), .val (.int p2), .val (.int p3), .val (.int p4), .val (.int (0 : Int32)), .val (.int ((p4 &&& (2147483647 : Int32)) % (3 : Int32))), .val (.int (2 : Int32)), .val (.ref b50), .val .null, .val (.ref b72), .unset]) (st' := [(.int (0 : Int32))]) rfl ?_
          refine XS.ifYes X76.here hx rfl (pc0 := 67) (pc' := 76) rfl (hb hby at_67) rfl ((if0 _ _).trans (flt (by decide : ¬ ((0 : Int32) < (0 : Int32)))).2.1) (by decide) (by decide) ?_
          show Steps p.tables e below (T76.setTop (mkF m 76 #[.val (.int p1), .val (.int p2), .val (.int p3), .val (.int p4), .val (.int (0 : Int32)), .val (.int ((p4 &&& (2147483647 : Int32)) % (3 : Int32))), .val (.int (2 : Int32)), .val (.ref b50), .val .null, .val (.ref b72), .unset] [])) _
          refine own_blk X76 hx bl0_76_1 (own_hb hby bd0_76_1) (pc' := 78) (Ls' := #[.val (.int p1), .val (.int p2), .val (.int p3), .val (.int p4), .val (.int (0 : Int32)), .val (.int ((p4 &&& (2147483647 : Int32)) % (3 : Int32))), .val (.int (2 : Int32)), .val (.ref b50), .val .null, .val (.ref b72), .unset]) (st' := [(.int (0 : Int32))]) rfl ?_
          refine XS.ifYes X76.here hx rfl (pc0 := 78) (pc' := 87) rfl (hb hby at_78) rfl ((if0 _ _).trans (flt (by decide : ¬ ((0 : Int32) < (0 : Int32)))).2.2.2) (by decide) (by decide) ?_
          show Steps p.tables e below (T76.setTop (mkF m 87 #[.val (.int p1), .val (.int p2), .val (.int p3), .val (.int p4), .val (.int (0 : Int32)), .val (.int ((p4 &&& (2147483647 : Int32)) % (3 : Int32))), .val (.int (2 : Int32)), .val (.ref b50), .val .null, .val (.ref b72), .unset] [])) _
          refine own_blk X76 hx bl0_87_2 (own_hb hby bd0_87_2) (pc' := 90) (Ls' := #[.val (.int p1), .val (.int p2), .val (.int p3), .val (.int p4), .val (.int (0 : Int32)), .val (.int ((p4 &&& (2147483647 : Int32)) % (3 : Int32))), .val (.int (2 : Int32)), .val (.ref b50), .val .null, .val (.ref b72), .val (.int (1 : Int32))]) (st' := []) rfl ?_
          refine own_blk X76 hx bl0_90_1 (own_hb hby bd0_90_1) (pc' := 92) (Ls' := #[.val (.int p1), .val (.int p2), .val (.int p3), .val (.int p4), .val (.int (0 : Int32)), .val (.int ((p4 &&& (2147483647 : Int32)) % (3 : Int32))), .val (.int (2 : Int32)), .val (.ref b50), .val .null, .val (.ref b72), .val (.int (1 : Int32))]) (st' := [(.ref b72)]) rfl ?_
          refine st78 _ ?_
          show Steps p.tables e below (T78.setTop (mkF m 95 #[.val (.int p1), .val (.int p2), .val (.int p3), .val (.int p4), .val (.int (0 : Int32)), .val (.int ((p4 &&& (2147483647 : Int32)) % (3 : Int32))), .val (.int (2 : Int32)), .val (.ref b50), .val .null, .val (.ref b72), .val (.int (1 : Int32))] [(.int (1 : Int32))])) _
          refine own_blk X78 hx bl0_95_1 (own_hb hby bd0_95_1) (pc' := 97) (Ls' := #[.val (.int p1), .val (.int p2), .val (.int p3), .val (.int p4), .val (.int (0 : Int32)), .val (.int ((p4 &&& (2147483647 : Int32)) % (3 : Int32))), .val (.int (2 : Int32)), .val (.ref b50), .val .null, .val (.ref b72), .val (.int (1 : Int32))]) (st' := [(.int (1 : Int32)), (.int (1 : Int32))]) rfl ?_
          refine XS.icmpNo X78.here hx rfl (hb hby at_97) rfl (teq (by decide : (1 : Int32) = (1 : Int32))).2 ?_
          show Steps p.tables e below (T78.setTop (mkF m 100 #[.val (.int p1), .val (.int p2), .val (.int p3), .val (.int p4), .val (.int (0 : Int32)), .val (.int ((p4 &&& (2147483647 : Int32)) % (3 : Int32))), .val (.int (2 : Int32)), .val (.ref b50), .val .null, .val (.ref b72), .val (.int (1 : Int32))] [])) _
          refine own_blk X78 hx bl0_100_2 (own_hb hby bd0_100_2) (pc' := 105) (Ls' := #[.val (.int p1), .val (.int p2), .val (.int p3), .val (.int p4), .val (.int (0 : Int32)), .val (.int ((p4 &&& (2147483647 : Int32)) % (3 : Int32))), .val (.int (2 : Int32)), .val (.ref b50), .val .null, .val (.ref b72), .val (.int (1 : Int32))]) (st' := [(.int (1 : Int32))]) rfl ?_
          exact retN X78 hx (t := .boolean) Bd.returns (by simp) (hb hby at_105) hr
        · show Q0_2 Z p1 p2 p3 p4 w1 w2 wz h0 n0 _ T78.heap _
          rw [e78]
          exact ⟨by rw [f0_2, if_neg hc2, if_neg hc56, if_neg hc64], N78⟩
theorem own_law0 (a b c d : Int32) : f0_0 a b c d = 1 := by
  unfold f0_0
  simp only [ite_self]
theorem own_law1 (a b c d : Int32) (w : Int32) : f0_1 a b c d w = 1 := by
  unfold f0_1
  simp only [ite_self]
theorem own_law2 (a b c d : Int32) (w : Int32) : f0_2 a b c d w = 1 := by
  unfold f0_2
  simp only [ite_self]
theorem own_not {args : Array Value} {s : State} {t : Term} {x : Int32} (h : t.eval args s none [] s = some (.int x)) (m : (Cond.not (Cond.eq t (Term.int 0))).value args s none s [] = some true) : ¬ x = 0 := by
  intro e
  subst e
  have g1 : (Term.int 0).eval args s none [] s = some (.int 0) := rfl
  simp [Cond.value, h, g1] at m
theorem own_held {s : State} : ∀ p ∈ own_EL, Jvm.D.constsHeld consts_1 s → Jvm.Lit.constHeld s p.1 p.2 := fun p hp H => H p hp
set_option maxRecDepth 65536 in
set_option maxHeartbeats 40000000 in
theorem comes_1 {Post : Tables → Env → Array Value → State → Outcome → State → Prop} (hpost : ∀ tb e args s v u, (limb_1_1.after args s (.returned v) u = true ∧ limb_1_2.after args s (.returned v) u = true ∧ True) → FramedW s (.returned v) u (Jvm.fieldLocs frame_1_writes args s ++ Jvm.arrayLocs frame_1_arrays args s ++ Jvm.staticLocs frame_1_statics s) 24 1152 → Post tb e args s (.returned v) u) :
    ArmFor flags0 classFile x code maxLocals ret World_1 tables_1 room_1 Calls_1 rest_1 Pre_1 Post := by
  intro l hfl _ _ p e ha hc hk s m args below hf hA hF happ hP
  obtain ⟨hcalls, hrest, hpre⟩ := hP
  obtain ⟨-, -, -, hnamed, -, -, -, hat⟩ := (Spec.applies_iff hf).mp happ
  obtain ⟨hg, hn⟩ := and_e (Cond.before_iff.mp (show (Jvm.Cond.and given_1 narrow_1).before args s = true from hpre))
  obtain ⟨g1, g2⟩ := and_e hg
  obtain ⟨g3, g4⟩ := and_e g2
  obtain ⟨g5, g6⟩ := and_e g4
  obtain ⟨g7, g8⟩ := and_e g6
  obtain ⟨w0, w1, w2, w3, rfl⟩ : ∃ w0 w1 w2 w3 : Value, args = #[w0, w1, w2, w3] := by
    have hs : args.size = 4 := by simpa [Cond.value, given_1] using g1
    obtain ⟨L⟩ := args
    match L, hs with
    | [w0, w1, w2, w3], _ => exact ⟨w0, w1, w2, w3, rfl⟩
  have hw := fun d (hd : d ∈ tables_1) => atoms_spec (ws := Jvm.Cond.code x code maxLocals ret :: tables_1) hat d (List.mem_cons_of_mem _ hd)
  have hfit : Fit s := fun {y c} hc i hi => by
    obtain ⟨ha, rfl⟩ := Array.getElem?_eq_some_iff.mp hc
    have q := List.all_eq_true.mp ((Array.all_eq_true_iff_forall_mem.mp hF) _ (Array.getElem_mem ha)) i (List.mem_range.mpr hi)
    simpa [Array.getElem?_eq_getElem hi] using q
  obtain ⟨i0, ei0⟩ := is_v g3
  obtain rfl : w0 = (.int i0) := Option.some.inj ei0
  obtain ⟨i1, ei1⟩ := is_v g5
  obtain rfl : w1 = (.int i1) := Option.some.inj ei1
  obtain ⟨i2, ei2⟩ := is_v g7
  obtain rfl : w2 = (.int i2) := Option.some.inj ei2
  obtain ⟨i3, ei3⟩ := is_v g8
  obtain rfl : w3 = (.int i3) := Option.some.inj ei3
  obtain ⟨m1, m2⟩ := and_e hn
  obtain ⟨w1, ev1⟩ := exa_v m1
  obtain ⟨w2, ev2⟩ := exa_v m2
  have Ex1 := Exa.start ev1 m1
  have Ex2 := Exa.start ev2 m2
  have St1 := Sta.start ev1 (Or.inr ⟨hw _ (List.mem_of_getElem? (i := 31) rfl), hw _ (List.mem_of_getElem? (i := 32) rfl)⟩)
  have St2 := Sta.start ev2 (Or.inr ⟨hw _ (List.mem_of_getElem? (i := 31) rfl), hw _ (List.mem_of_getElem? (i := 68) rfl)⟩)
  have hr0 : rest_1_c.value #[.int i0, .int i1, .int i2, .int i3] s none s [] = some true := Cond.before_iff.mp hrest
  obtain ⟨r1, r2⟩ := and_e hr0
  obtain ⟨r3, r4⟩ := and_e r2
  obtain ⟨r5, r6⟩ := and_e r4
  obtain ⟨wz, evz⟩ := is_v r3
  have Stz := Sta.start evz (Or.inl (Cond.before_iff.mpr r1))
  have hwz : ¬ wz = 0 := own_not evz r5
  have hCH := CHv.start (own_ew hw) (fun p hp => own_held p hp (hcalls.1)) (Cond.before_iff.mpr r5 : Jvm.Lit.compactW.before #[.int i0, .int i1, .int i2, .int i3] s = true) (hw _ (List.mem_of_getElem? (i := 20) rfl)) (hw _ (List.mem_of_getElem? (i := 6) rfl))
  rcases own_l3 i3 with hn3 | hn3 | hn3
  · obtain ⟨n, o, h1, h2, h3, v, L, rfl, hQ, hq⟩ := rm0_0 l s _ hw tables_1 i0 i1 i2 i3 w1 w2  s.heap s.heap.size (Nat.le_refl _) Ex1 Ex2 St1 St2 hn3 p e ha hc hk s m _ below hf ((Spec.applies_iff_loose hf).mp happ).1 ⟨rfl, State.Warmed39.refl s, rfl, hCH⟩ trivial
    obtain ⟨hv1, N⟩ := hQ
    rw [own_law0] at hv1
    subst hv1
    refine ⟨n, _, h1, h2, h3, hpost _ _ _ _ _ _ ⟨Cond.after_iff.mpr rfl, Cond.after_iff.mpr (eq_i res_at (Term.int_eval (1)) rfl), trivial⟩ ⟨hq.1, hq.2.1, hq.2.2.1, (hq.2.2.2.sift fun y hy => Or.inr (N y hy)).mono (by decide) (by decide)⟩⟩
  · obtain ⟨n, o, h1, h2, h3, v, L, rfl, hQ, hq⟩ := rm0_1 l s _ hw tables_1 i0 i1 i2 i3 w1 w2 wz s.heap s.heap.size (Nat.le_refl _) Ex1 Ex2 St1 St2 Stz hn3 hwz p e ha hc hk s m _ below hf ((Spec.applies_iff_loose hf).mp happ).1 ⟨rfl, State.Warmed39.refl s, rfl⟩ trivial
    obtain ⟨hv1, N⟩ := hQ
    rw [own_law1] at hv1
    subst hv1
    refine ⟨n, _, h1, h2, h3, hpost _ _ _ _ _ _ ⟨Cond.after_iff.mpr rfl, Cond.after_iff.mpr (eq_i res_at (Term.int_eval (1)) rfl), trivial⟩ ⟨hq.1, hq.2.1, hq.2.2.1, (hq.2.2.2.sift fun y hy => Or.inr (N y hy)).mono (by decide) (by decide)⟩⟩
  · obtain ⟨n, o, h1, h2, h3, v, L, rfl, hQ, hq⟩ := rm0_2 l s _ hw tables_1 i0 i1 i2 i3 w1 w2 wz s.heap s.heap.size (Nat.le_refl _) Ex1 Ex2 St1 St2 Stz hn3 hwz p e ha hc hk s m _ below hf ((Spec.applies_iff_loose hf).mp happ).1 ⟨rfl, State.Warmed39.refl s, rfl⟩ trivial
    obtain ⟨hv1, N⟩ := hQ
    rw [own_law2] at hv1
    subst hv1
    refine ⟨n, _, h1, h2, h3, hpost _ _ _ _ _ _ ⟨Cond.after_iff.mpr rfl, Cond.after_iff.mpr (eq_i res_at (Term.int_eval (1)) rfl), trivial⟩ ⟨hq.1, hq.2.1, hq.2.2.1, (hq.2.2.2.sift fun y hy => Or.inr (N y hy)).mono (by decide) (by decide)⟩⟩
theorem main_1_1 : Claimed_1_1 := comes_1 fun _ _ _ _ _ _ h hF => ⟨h.1, hF⟩
theorem main_1_2 : Claimed_1_2 := comes_1 fun _ _ _ _ _ _ h hF => ⟨h.2.1, hF⟩
end Jvm.Pilot.@@N@@
namespace Jvm.Pilot.@@N@@
open Jvm Jvm.ClassFile Sem Op Lib Jvm.Free Jvm.Stand Jvm.Pilot.@@N@@.Jvm.D
/-! MADE BY PROGRAM (witnessworld.py) out of the Statement's table words and the real class files: 23 classes; the members and pool entries that the words name. The judged class is class 1, her method 3. -/
namespace start1
open Jvm.ClassFile
def u (s : String) : CpInfo := .utf8 (stringToUtf16 s)
/-- a pool by its gaps: so many unusable entries, then the entry; so many at the end -/
def gap : Nat → List CpInfo → List CpInfo
  | 0, r => r
  | n + 1, r => .unusable :: gap n r
def poolList (es : List (Nat × CpInfo)) (last : Nat) : List CpInfo := es.foldr (fun e r => gap e.1 (e.2 :: r)) (gap last [])
def pool (es : List (Nat × CpInfo)) (last : Nat) : Array CpInfo := ⟨poolList es last⟩
def fileOf (pool : Array CpInfo) (this : Nat) (attrs : Array Attribute := #[]) (ms : Array MethodInfo := #[]) (fl : Nat := 33) (sup : Nat := 0) (ifs : Array Nat := #[]) (fds : Array FieldInfo := #[]) : ClassFile where
  minorVersion := 0
  majorVersion := 65
  constantPool := pool
  accessFlags := fl
  thisClass := this
  superClass := sup
  interfaces := ifs
  fields := fds
  methods := ms
  attributes := attrs
def plain (name : String) (sup : Option ClassId) : Class where
  name := name
  kind := .ordinary
  loader := none
  accessFlags := 33
  super := sup
  interfaces := #[]
  cf := none
  fields := #[]
  methods := #[]
  instanceTypes := #[]
  staticTypes := #[]
  resolved := #[]
  callSites := []
  init := .initialized
  statics := none
  mirror := none

def pool0 : Array CpInfo := pool [(5, u "<init>"), (0, u "()V"), (1, .class_ 10), (1, u "java/lang/Object")] 113

def k0c0 : Code := { maxStack := 0, maxLocals := 1, code := object_method_1_code, exceptionTable := #[], attributes := #[] }
def k0m0 : Method := { name := "<init>", desc := "()V", sig := { parameters := [], returnType := none }, accessFlags := 1, code := some k0c0 }
/-- java/lang/Object -/
def k0 : Class := { plain "java/lang/Object" none with
  accessFlags := 33
  interfaces := #[]
  cf := some (fileOf pool0 8 #[] #[{ accessFlags := 1, nameIndex := 5, descriptorIndex := 6, attributes := #[] }] 33 0 #[] #[])
  fields := #[]
  methods := #[k0m0]
  instanceTypes := #[]
  staticTypes := #[]
  resolved := Array.replicate 124 none
  statics := none }

def pool1 : Array CpInfo := pool [(2, .class_ 4), (1, u "java/lang/Object"), (0, u "<init>"), (0, u "()V"), (0, .fieldref 8 9), (0, .class_ 10), (0, .nameAndType 11 12), (0, u "com/example/vendsettle/vendsettle/Processor$Reason"), (0, u "ALREADY_COMPLETED"), (0, u "Lcom/example/vendsettle/vendsettle/Processor$Reason;"), (0, .fieldref 8 14), (0, .nameAndType 15 12), (0, u "NOT_FOUND"), (0, .class_ 17), (0, u "java/lang/String"), (0, .methodref 16 19), (0, .nameAndType 5 20), (0, u "([C)V"), (0, .integer 2147483647), (0, .methodref 23 24), (0, .class_ 25), (0, .nameAndType 26 27), (0, u "com/example/vendsettle/vendsettle/StatusIsSuccessPinLaw"), (0, u "messageOf"), (0, u "(III)Ljava/lang/String;"), (0, .methodref 23 29), (0, .nameAndType 30 31), (0, u "reasonOf"), (0, u "(I)Lcom/example/vendsettle/vendsettle/Processor$Reason;"), (0, .class_ 33), (0, u "com/example/vendsettle/vendsettle/Processor$Status"), (0, .methodref 32 35), (0, .nameAndType 5 36), (0, u "(ILjava/lang/String;Lcom/example/vendsettle/vendsettle/Processor$Reason;)V"), (0, .methodref 32 38), (0, .nameAndType 39 40), (0, u "isSuccess"), (0, u "()Z"), (3, u "law"), (0, u "(IIII)Z")] 7

def k1m0 : Method := { name := "<init>", desc := "()V", sig := { parameters := [], returnType := none }, accessFlags := 2, code := none }
def k1c1 : Code := { maxStack := 2, maxLocals := 1, code := method_2_code, exceptionTable := #[], attributes := #[] }
def k1m1 : Method := { name := "reasonOf", desc := "(I)Lcom/example/vendsettle/vendsettle/Processor$Reason;", sig := { parameters := [.int], returnType := some (.object "com/example/vendsettle/vendsettle/Processor$Reason") }, accessFlags := 10, code := some k1c1 }
def k1c2 : Code := { maxStack := 4, maxLocals := 4, code := method_3_code, exceptionTable := #[], attributes := #[] }
def k1m2 : Method := { name := "messageOf", desc := "(III)Ljava/lang/String;", sig := { parameters := [.int, .int, .int], returnType := some (.object "java/lang/String") }, accessFlags := 10, code := some k1c2 }
def k1c3 : Code := { maxStack := 5, maxLocals := 11, code := code, exceptionTable := #[], attributes := #[] }
def k1m3 : Method := { name := "law", desc := "(IIII)Z", sig := { parameters := [.int, .int, .int, .int], returnType := some .boolean }, accessFlags := 9, code := some k1c3 }
/-- com/example/vendsettle/vendsettle/StatusIsSuccessPinLaw -/
def k1 : Class := { plain "com/example/vendsettle/vendsettle/StatusIsSuccessPinLaw" (some 0) with
  accessFlags := 49
  interfaces := #[]
  cf := some (fileOf pool1 23 #[] #[{ accessFlags := 2, nameIndex := 5, descriptorIndex := 6, attributes := #[] }, { accessFlags := 10, nameIndex := 30, descriptorIndex := 31, attributes := #[] }, { accessFlags := 10, nameIndex := 26, descriptorIndex := 27, attributes := #[] }, { accessFlags := 9, nameIndex := 44, descriptorIndex := 45, attributes := #[] }] 49 2 #[] #[])
  fields := #[]
  methods := #[k1m0, k1m1, k1m2, k1m3]
  instanceTypes := #[]
  staticTypes := #[]
  resolved := Array.replicate 53 none
  statics := none }

def pool2 : Array CpInfo := pool [(1, .class_ 2), (0, u "java/io/Serializable"), (0, .class_ 4), (0, u "java/lang/Object")] 2

/-- java/io/Serializable -/
def k2 : Class := { plain "java/io/Serializable" (some 0) with
  accessFlags := 1537
  interfaces := #[]
  cf := some (fileOf pool2 1 #[] #[] 1537 3 #[] #[])
  fields := #[]
  methods := #[]
  instanceTypes := #[]
  staticTypes := #[]
  resolved := Array.replicate 7 none
  statics := none }

def pool3 : Array CpInfo := pool [(1, .class_ 2), (0, u "java/lang/Comparable"), (0, .class_ 4), (0, u "java/lang/Object")] 7

/-- java/lang/Comparable -/
def k3 : Class := { plain "java/lang/Comparable" (some 0) with
  accessFlags := 1537
  interfaces := #[]
  cf := some (fileOf pool3 1 #[] #[] 1537 3 #[] #[])
  fields := #[]
  methods := #[]
  instanceTypes := #[]
  staticTypes := #[]
  resolved := Array.replicate 12 none
  statics := none }

def pool4 : Array CpInfo := pool [(2, .class_ 4), (1, u "java/lang/CharSequence"), (42, .class_ 48), (0, u "java/lang/CharSequence$1CodePointIterator"), (10, .class_ 60), (0, u "java/lang/CharSequence$1CharIterator"), (5, .class_ 67), (0, u "java/lang/Object")] 63

/-- java/lang/CharSequence -/
def k4 : Class := { plain "java/lang/CharSequence" (some 0) with
  accessFlags := 1537
  interfaces := #[]
  cf := some (fileOf pool4 2 #[.nestMembers #[47, 59]] #[] 1537 66 #[] #[])
  fields := #[]
  methods := #[]
  instanceTypes := #[]
  staticTypes := #[]
  resolved := Array.replicate 131 none
  statics := none }

def pool5 : Array CpInfo := pool [(1, .class_ 2), (0, u "java/lang/constant/Constable"), (0, .class_ 4), (0, u "java/lang/Object")] 6

/-- java/lang/constant/Constable -/
def k5 : Class := { plain "java/lang/constant/Constable" (some 0) with
  accessFlags := 1537
  interfaces := #[]
  cf := some (fileOf pool5 1 #[] #[] 1537 3 #[] #[])
  fields := #[]
  methods := #[]
  instanceTypes := #[]
  staticTypes := #[]
  resolved := Array.replicate 11 none
  statics := none }

def pool6 : Array CpInfo := pool [(1, .class_ 2), (0, u "java/lang/constant/ConstantDesc"), (0, .class_ 4), (0, u "java/lang/Object")] 32

/-- java/lang/constant/ConstantDesc -/
def k6 : Class := { plain "java/lang/constant/ConstantDesc" (some 0) with
  accessFlags := 1537
  interfaces := #[]
  cf := some (fileOf pool6 1 #[] #[] 1537 3 #[] #[])
  fields := #[]
  methods := #[]
  instanceTypes := #[]
  staticTypes := #[]
  resolved := Array.replicate 37 none
  statics := none }

def pool7 : Array CpInfo := pool [(1, .methodref 2 3), (0, .class_ 4), (0, .nameAndType 5 6), (0, u "java/lang/Object"), (0, u "<init>"), (0, u "()V"), (0, .string 8), (0, u ""), (0, .fieldref 10 11), (0, .class_ 12), (0, .nameAndType 13 14), (0, u "java/lang/String"), (0, u "value"), (0, u "[B"), (0, .fieldref 10 16), (0, .nameAndType 17 18), (0, u "coder"), (0, u "B"), (2, u "hash"), (0, u "I"), (2, u "hashIsZero"), (0, u "Z"), (0, .methodref 10 28), (0, .nameAndType 5 29), (0, u "([CIILjava/lang/Void;)V"), (8, .fieldref 10 39), (0, .nameAndType 40 26), (0, u "COMPACT_STRINGS"), (1, .class_ 44), (1, u "java/lang/StringUTF16"), (0, u "compress"), (1, .methodref 42 48), (0, .nameAndType 49 50), (0, u "coderFromArrayLen"), (0, u "([BI)B"), (126, .methodref 42 178), (0, .nameAndType 45 179), (0, u "([CII)[B"), (395, .class_ 576), (0, u "java/lang/CharSequence"), (22, u "CASE_INSENSITIVE_ORDER"), (0, u "Ljava/util/Comparator;"), (409, u "([C)V"), (90, u "serialPersistentFields"), (0, u "[Ljava/io/ObjectStreamField;"), (0, .class_ 1104), (0, u "java/lang/String$CaseInsensitiveComparator"), (1, .class_ 1107), (0, u "java/io/Serializable"), (0, .class_ 1109), (0, u "java/lang/Comparable"), (0, .class_ 1111), (0, u "java/lang/constant/Constable"), (0, .class_ 1113), (0, u "java/lang/constant/ConstantDesc"), (2, u "serialVersionUID"), (0, u "J"), (3, u "REPL"), (0, u "C"), (2, u "LATIN1"), (1, u "UTF16")] 323

def k7m0 : Method := { name := "<init>", desc := "()V", sig := { parameters := [], returnType := none }, accessFlags := 1, code := none }
def k7c1 : Code := { maxStack := 5, maxLocals := 2, code := jdk_42_method_3_code, exceptionTable := #[], attributes := #[] }
def k7m1 : Method := { name := "<init>", desc := "([C)V", sig := { parameters := [(.array .char)], returnType := none }, accessFlags := 1, code := some k7c1 }
def k7c2 : Code := { maxStack := 4, maxLocals := 6, code := jdk_42_method_149_code, exceptionTable := #[], attributes := #[] }
def k7m2 : Method := { name := "<init>", desc := "([CIILjava/lang/Void;)V", sig := { parameters := [(.array .char), .int, .int, (.object "java/lang/Void")], returnType := none }, accessFlags := 2, code := some k7c2 }
/-- java/lang/String -/
def k7 : Class := { plain "java/lang/String" (some 0) with
  accessFlags := 49
  interfaces := #[2, 3, 4, 5, 6]
  cf := some (fileOf pool7 10 #[.nestMembers #[1103]] #[{ accessFlags := 1, nameIndex := 5, descriptorIndex := 6, attributes := #[] }, { accessFlags := 1, nameIndex := 5, descriptorIndex := 1010, attributes := #[] }, { accessFlags := 2, nameIndex := 5, descriptorIndex := 29, attributes := #[] }] 49 2 #[1106, 1108, 575, 1110, 1112] #[{ accessFlags := 18, nameIndex := 13, descriptorIndex := 14, attributes := #[] }, { accessFlags := 18, nameIndex := 17, descriptorIndex := 18, attributes := #[] }, { accessFlags := 2, nameIndex := 21, descriptorIndex := 22, attributes := #[] }, { accessFlags := 2, nameIndex := 25, descriptorIndex := 26, attributes := #[] }, { accessFlags := 26, nameIndex := 1116, descriptorIndex := 1117, attributes := #[] }, { accessFlags := 24, nameIndex := 40, descriptorIndex := 26, attributes := #[] }, { accessFlags := 26, nameIndex := 1101, descriptorIndex := 1102, attributes := #[] }, { accessFlags := 26, nameIndex := 1121, descriptorIndex := 1122, attributes := #[] }, { accessFlags := 25, nameIndex := 599, descriptorIndex := 600, attributes := #[] }, { accessFlags := 24, nameIndex := 1125, descriptorIndex := 18, attributes := #[] }, { accessFlags := 24, nameIndex := 1127, descriptorIndex := 18, attributes := #[] }])
  fields := #[{ name := "value", type := (.array .byte), accessFlags := 18, slot := 0, constantValue := 0 }, { name := "coder", type := .byte, accessFlags := 18, slot := 1, constantValue := 0 }, { name := "hash", type := .int, accessFlags := 2, slot := 2, constantValue := 0 }, { name := "hashIsZero", type := .boolean, accessFlags := 2, slot := 3, constantValue := 0 }, { name := "serialVersionUID", type := .long, accessFlags := 26, slot := 0, constantValue := 0 }, { name := "COMPACT_STRINGS", type := .boolean, accessFlags := 24, slot := 1, constantValue := 0 }, { name := "serialPersistentFields", type := (.array (.object "java/io/ObjectStreamField")), accessFlags := 26, slot := 2, constantValue := 0 }, { name := "REPL", type := .char, accessFlags := 26, slot := 3, constantValue := 0 }, { name := "CASE_INSENSITIVE_ORDER", type := (.object "java/util/Comparator"), accessFlags := 25, slot := 4, constantValue := 0 }, { name := "LATIN1", type := .byte, accessFlags := 24, slot := 5, constantValue := 0 }, { name := "UTF16", type := .byte, accessFlags := 24, slot := 6, constantValue := 0 }]
  methods := #[k7m0, k7m1, k7m2]
  instanceTypes := #[(.array .byte), .byte, .int, .boolean]
  staticTypes := #[.long, .boolean, (.array (.object "java/io/ObjectStreamField")), .char, (.object "java/util/Comparator"), .byte, .byte]
  resolved := Array.replicate 1451 none
  statics := some 0 }

def pool8 : Array CpInfo := pool [(2, .class_ 4), (1, u "java/lang/Enum"), (0, u "name"), (0, u "Ljava/lang/String;"), (2, u "ordinal"), (0, u "I"), (1, .class_ 14), (1, u "java/lang/Object"), (4, u "hash"), (86, .class_ 108), (1, u "java/lang/Enum$EnumDesc"), (2, .class_ 112), (0, u "java/lang/constant/Constable"), (0, .class_ 114), (0, u "java/lang/Comparable"), (0, .class_ 116), (0, u "java/io/Serializable")] 87

/-- java/lang/Enum -/
def k8 : Class := { plain "java/lang/Enum" (some 0) with
  accessFlags := 1057
  interfaces := #[5, 3, 2]
  cf := some (fileOf pool8 2 #[.nestMembers #[106]] #[] 1057 12 #[111, 113, 115] #[{ accessFlags := 18, nameIndex := 5, descriptorIndex := 6, attributes := #[] }, { accessFlags := 18, nameIndex := 9, descriptorIndex := 10, attributes := #[] }, { accessFlags := 2, nameIndex := 19, descriptorIndex := 10, attributes := #[] }])
  fields := #[{ name := "name", type := (.object "java/lang/String"), accessFlags := 18, slot := 0, constantValue := 0 }, { name := "ordinal", type := .int, accessFlags := 18, slot := 1, constantValue := 0 }, { name := "hash", type := .int, accessFlags := 2, slot := 2, constantValue := 0 }]
  methods := #[]
  instanceTypes := #[(.object "java/lang/String"), .int, .int]
  staticTypes := #[]
  resolved := Array.replicate 204 none
  statics := none }

def pool9 : Array CpInfo := pool [(1, .class_ 2), (0, u "com/example/vendsettle/vendsettle/Processor$Reason"), (2, u "ALREADY_COMPLETED"), (0, u "Lcom/example/vendsettle/vendsettle/Processor$Reason;"), (2, u "NOT_FOUND"), (2, u "$VALUES"), (0, u "[Lcom/example/vendsettle/vendsettle/Processor$Reason;"), (6, .class_ 22), (1, u "java/lang/Enum"), (8, u "text"), (0, u "Ljava/lang/String;"), (74, .class_ 108), (0, u "com/example/vendsettle/vendsettle/Processor")] 21

/-- com/example/vendsettle/vendsettle/Processor$Reason -/
def k9 : Class := { plain "com/example/vendsettle/vendsettle/Processor$Reason" (some 8) with
  accessFlags := 16433
  interfaces := #[]
  cf := some (fileOf pool9 1 #[.nestHost 107] #[] 16433 20 #[] #[{ accessFlags := 16409, nameIndex := 5, descriptorIndex := 6, attributes := #[] }, { accessFlags := 16409, nameIndex := 9, descriptorIndex := 6, attributes := #[] }, { accessFlags := 18, nameIndex := 31, descriptorIndex := 32, attributes := #[] }, { accessFlags := 4122, nameIndex := 12, descriptorIndex := 13, attributes := #[] }])
  fields := #[{ name := "ALREADY_COMPLETED", type := (.object "com/example/vendsettle/vendsettle/Processor$Reason"), accessFlags := 16409, slot := 0, constantValue := 0 }, { name := "NOT_FOUND", type := (.object "com/example/vendsettle/vendsettle/Processor$Reason"), accessFlags := 16409, slot := 1, constantValue := 0 }, { name := "text", type := (.object "java/lang/String"), accessFlags := 18, slot := 3, constantValue := 0 }, { name := "$VALUES", type := (.array (.object "com/example/vendsettle/vendsettle/Processor$Reason")), accessFlags := 4122, slot := 2, constantValue := 0 }]
  methods := #[]
  instanceTypes := #[(.object "java/lang/String"), .int, .int, (.object "java/lang/String")]
  staticTypes := #[(.object "com/example/vendsettle/vendsettle/Processor$Reason"), (.object "com/example/vendsettle/vendsettle/Processor$Reason"), (.array (.object "com/example/vendsettle/vendsettle/Processor$Reason"))]
  resolved := Array.replicate 130 none
  statics := some 1 }

def pool10 : Array CpInfo := pool [(1, .methodref 2 3), (0, .class_ 4), (0, .nameAndType 5 6), (0, u "java/lang/Object"), (0, u "<init>"), (0, u "()V"), (0, .class_ 8), (0, u "java/lang/Record")] 13

def k10c0 : Code := { maxStack := 1, maxLocals := 1, code := jdk_30_method_1_code, exceptionTable := #[], attributes := #[] }
def k10m0 : Method := { name := "<init>", desc := "()V", sig := { parameters := [], returnType := none }, accessFlags := 4, code := some k10c0 }
/-- java/lang/Record -/
def k10 : Class := { plain "java/lang/Record" (some 0) with
  accessFlags := 1057
  interfaces := #[]
  cf := some (fileOf pool10 7 #[] #[{ accessFlags := 4, nameIndex := 5, descriptorIndex := 6, attributes := #[] }] 1057 2 #[] #[])
  fields := #[]
  methods := #[k10m0]
  instanceTypes := #[]
  staticTypes := #[]
  resolved := Array.replicate 22 none
  statics := none }

def pool11 : Array CpInfo := pool [(1, .methodref 2 3), (0, .class_ 4), (0, .nameAndType 5 6), (0, u "java/lang/Record"), (0, u "<init>"), (0, u "()V"), (0, .fieldref 8 9), (0, .class_ 10), (0, .nameAndType 11 12), (0, u "com/example/vendsettle/vendsettle/Processor$Status"), (0, u "errorCode"), (0, u "I"), (0, .fieldref 8 14), (0, .nameAndType 15 16), (0, u "statusMessage"), (0, u "Ljava/lang/String;"), (0, .fieldref 8 18), (0, .nameAndType 19 20), (0, u "reason"), (0, u "Lcom/example/vendsettle/vendsettle/Processor$Reason;"), (14, u "(ILjava/lang/String;Lcom/example/vendsettle/vendsettle/Processor$Reason;)V"), (40, u "SUCCESS"), (0, u "Lcom/example/vendsettle/vendsettle/Processor$Status;"), (0, u "AUTHENTICATION_FAILED"), (2, u "SETTLEMENT_FAILED"), (1, u "CANCEL_FAILED"), (1, u "NOT_CONFIGURED"), (1, u "NOT_READ"), (12, u "isSuccess"), (0, u "()Z"), (8, .class_ 111), (0, u "com/example/vendsettle/vendsettle/Processor")] 34

def k11c0 : Code := { maxStack := 2, maxLocals := 4, code := prog_32_method_2_code, exceptionTable := #[], attributes := #[] }
def k11m0 : Method := { name := "<init>", desc := "(ILjava/lang/String;Lcom/example/vendsettle/vendsettle/Processor$Reason;)V", sig := { parameters := [.int, (.object "java/lang/String"), (.object "com/example/vendsettle/vendsettle/Processor$Reason")], returnType := none }, accessFlags := 1, code := some k11c0 }
def k11c1 : Code := { maxStack := 1, maxLocals := 1, code := prog_32_method_6_code, exceptionTable := #[], attributes := #[] }
def k11m1 : Method := { name := "isSuccess", desc := "()Z", sig := { parameters := [], returnType := some .boolean }, accessFlags := 0, code := some k11c1 }
/-- com/example/vendsettle/vendsettle/Processor$Status -/
def k11 : Class := { plain "com/example/vendsettle/vendsettle/Processor$Status" (some 10) with
  accessFlags := 49
  interfaces := #[]
  cf := some (fileOf pool11 8 #[.nestHost 110] #[{ accessFlags := 1, nameIndex := 5, descriptorIndex := 35, attributes := #[] }, { accessFlags := 0, nameIndex := 100, descriptorIndex := 101, attributes := #[] }] 49 2 #[] #[{ accessFlags := 18, nameIndex := 11, descriptorIndex := 12, attributes := #[] }, { accessFlags := 18, nameIndex := 15, descriptorIndex := 16, attributes := #[] }, { accessFlags := 18, nameIndex := 19, descriptorIndex := 20, attributes := #[] }, { accessFlags := 24, nameIndex := 76, descriptorIndex := 77, attributes := #[] }, { accessFlags := 24, nameIndex := 78, descriptorIndex := 12, attributes := #[] }, { accessFlags := 24, nameIndex := 81, descriptorIndex := 12, attributes := #[] }, { accessFlags := 24, nameIndex := 83, descriptorIndex := 12, attributes := #[] }, { accessFlags := 24, nameIndex := 85, descriptorIndex := 12, attributes := #[] }, { accessFlags := 24, nameIndex := 87, descriptorIndex := 12, attributes := #[] }])
  fields := #[{ name := "errorCode", type := .int, accessFlags := 18, slot := 0, constantValue := 0 }, { name := "statusMessage", type := (.object "java/lang/String"), accessFlags := 18, slot := 1, constantValue := 0 }, { name := "reason", type := (.object "com/example/vendsettle/vendsettle/Processor$Reason"), accessFlags := 18, slot := 2, constantValue := 0 }, { name := "SUCCESS", type := (.object "com/example/vendsettle/vendsettle/Processor$Status"), accessFlags := 24, slot := 0, constantValue := 0 }, { name := "AUTHENTICATION_FAILED", type := .int, accessFlags := 24, slot := 1, constantValue := 0 }, { name := "SETTLEMENT_FAILED", type := .int, accessFlags := 24, slot := 2, constantValue := 0 }, { name := "CANCEL_FAILED", type := .int, accessFlags := 24, slot := 3, constantValue := 0 }, { name := "NOT_CONFIGURED", type := .int, accessFlags := 24, slot := 4, constantValue := 0 }, { name := "NOT_READ", type := .int, accessFlags := 24, slot := 5, constantValue := 0 }]
  methods := #[k11m0, k11m1]
  instanceTypes := #[.int, (.object "java/lang/String"), (.object "com/example/vendsettle/vendsettle/Processor$Reason")]
  staticTypes := #[(.object "com/example/vendsettle/vendsettle/Processor$Status"), .int, .int, .int, .int, .int]
  resolved := Array.replicate 146 none
  statics := none }

def pool12 : Array CpInfo := pool [(6, .class_ 8), (1, u "java/lang/Object"), (0, u "<init>"), (0, u "()V"), (1, .class_ 14), (1, u "java/lang/StringUTF16"), (31, u "$assertionsDisabled"), (0, u "Z"), (13, u "HI_BYTE_SHIFT"), (0, u "I"), (2, u "LO_BYTE_SHIFT"), (49, .methodref 12 116), (0, .nameAndType 117 118), (0, u "compress"), (0, u "([CI[BII)I"), (3, u "([CII)[B"), (138, u "coderFromArrayLen"), (0, u "([BI)B"), (106, .class_ 371), (1, u "java/lang/StringUTF16$LinesSpliterator"), (58, u "MAX_LENGTH"), (196, .class_ 628), (0, u "java/lang/StringUTF16$CodePointsSpliterator"), (0, .class_ 630), (0, u "java/lang/StringUTF16$CharsSpliterator")] 4

def k12m0 : Method := { name := "<init>", desc := "()V", sig := { parameters := [], returnType := none }, accessFlags := 0, code := none }
def k12c1 : Code := { maxStack := 2, maxLocals := 2, code := jdk_52_method_15_code, exceptionTable := #[], attributes := #[] }
def k12m1 : Method := { name := "coderFromArrayLen", desc := "([BI)B", sig := { parameters := [(.array .byte), .int], returnType := some .byte }, accessFlags := 8, code := some k12c1 }
def k12c2 : Code := { maxStack := 5, maxLocals := 6, code := jdk_52_method_16_code, exceptionTable := #[], attributes := #[] }
def k12m2 : Method := { name := "compress", desc := "([CII)[B", sig := { parameters := [(.array .char), .int, .int], returnType := some (.array .byte) }, accessFlags := 9, code := some k12c2 }
def k12c3 : Code := { maxStack := 3, maxLocals := 7, code := jdk_52_method_21_code, exceptionTable := #[], attributes := #[] }
def k12m3 : Method := { name := "compress", desc := "([CI[BII)I", sig := { parameters := [(.array .char), .int, (.array .byte), .int, .int], returnType := some .int }, accessFlags := 9, code := some k12c3 }
/-- java/lang/StringUTF16 -/
def k12 : Class := { plain "java/lang/StringUTF16" (some 0) with
  accessFlags := 48
  interfaces := #[]
  cf := some (fileOf pool12 12 #[.nestMembers #[627, 629, 369]] #[{ accessFlags := 0, nameIndex := 9, descriptorIndex := 10, attributes := #[] }, { accessFlags := 8, nameIndex := 261, descriptorIndex := 262, attributes := #[] }, { accessFlags := 9, nameIndex := 117, descriptorIndex := 122, attributes := #[] }, { accessFlags := 9, nameIndex := 117, descriptorIndex := 118, attributes := #[] }] 48 6 #[] #[{ accessFlags := 26, nameIndex := 61, descriptorIndex := 62, attributes := #[] }, { accessFlags := 26, nameIndex := 65, descriptorIndex := 62, attributes := #[] }, { accessFlags := 24, nameIndex := 430, descriptorIndex := 62, attributes := #[] }, { accessFlags := 4120, nameIndex := 46, descriptorIndex := 47, attributes := #[] }])
  fields := #[{ name := "HI_BYTE_SHIFT", type := .int, accessFlags := 26, slot := 0, constantValue := 0 }, { name := "LO_BYTE_SHIFT", type := .int, accessFlags := 26, slot := 1, constantValue := 0 }, { name := "MAX_LENGTH", type := .int, accessFlags := 24, slot := 2, constantValue := 0 }, { name := "$assertionsDisabled", type := .boolean, accessFlags := 4120, slot := 3, constantValue := 0 }]
  methods := #[k12m0, k12m1, k12m2, k12m3]
  instanceTypes := #[]
  staticTypes := #[.int, .int, .int, .boolean]
  resolved := Array.replicate 635 none
  statics := none }

def pool13 : Array CpInfo := pool [(4, .class_ 6), (1, u "java/lang/Object"), (0, u "<init>"), (0, u "()V"), (5, .class_ 16), (1, u "java/lang/StringLatin1"), (104, u "$assertionsDisabled"), (0, u "Z"), (98, .class_ 223), (1, u "java/lang/StringLatin1$LinesSpliterator"), (166, .class_ 391), (0, u "java/lang/StringLatin1$CharsSpliterator")] 3

def k13m0 : Method := { name := "<init>", desc := "()V", sig := { parameters := [], returnType := none }, accessFlags := 0, code := none }
/-- java/lang/StringLatin1 -/
def k13 : Class := { plain "java/lang/StringLatin1" (some 0) with
  accessFlags := 48
  interfaces := #[]
  cf := some (fileOf pool13 14 #[.nestMembers #[390, 221]] #[{ accessFlags := 0, nameIndex := 7, descriptorIndex := 8, attributes := #[] }] 48 4 #[] #[{ accessFlags := 4120, nameIndex := 121, descriptorIndex := 122, attributes := #[] }])
  fields := #[{ name := "$assertionsDisabled", type := .boolean, accessFlags := 4120, slot := 0, constantValue := 0 }]
  methods := #[k13m0]
  instanceTypes := #[]
  staticTypes := #[.boolean]
  resolved := Array.replicate 395 none
  statics := none }

def pool14 : Array CpInfo := pool [(2, .class_ 4), (1, u "java/lang/Object"), (0, u "<init>"), (0, u "()V"), (17, .class_ 26), (1, u "jdk/internal/util/Preconditions"), (28, .class_ 56), (0, u "jdk/internal/util/Preconditions$4"), (57, .class_ 115), (0, u "jdk/internal/util/Preconditions$1"), (7, u "SIOOBE_FORMATTER"), (0, u "Ljava/util/function/BiFunction;"), (0, .class_ 126), (0, u "jdk/internal/util/Preconditions$2"), (3, u "AIOOBE_FORMATTER"), (0, .class_ 132), (0, u "jdk/internal/util/Preconditions$3"), (3, u "IOOBE_FORMATTER")] 57

def k14m0 : Method := { name := "<init>", desc := "()V", sig := { parameters := [], returnType := none }, accessFlags := 1, code := none }
/-- jdk/internal/util/Preconditions -/
def k14 : Class := { plain "jdk/internal/util/Preconditions" (some 0) with
  accessFlags := 33
  interfaces := #[]
  cf := some (fileOf pool14 24 #[.nestMembers #[55, 131, 125, 114]] #[{ accessFlags := 1, nameIndex := 5, descriptorIndex := 6, attributes := #[] }] 33 2 #[] #[{ accessFlags := 25, nameIndex := 123, descriptorIndex := 124, attributes := #[] }, { accessFlags := 25, nameIndex := 130, descriptorIndex := 124, attributes := #[] }, { accessFlags := 25, nameIndex := 136, descriptorIndex := 124, attributes := #[] }])
  fields := #[{ name := "SIOOBE_FORMATTER", type := (.object "java/util/function/BiFunction"), accessFlags := 25, slot := 0, constantValue := 0 }, { name := "AIOOBE_FORMATTER", type := (.object "java/util/function/BiFunction"), accessFlags := 25, slot := 1, constantValue := 0 }, { name := "IOOBE_FORMATTER", type := (.object "java/util/function/BiFunction"), accessFlags := 25, slot := 2, constantValue := 0 }]
  methods := #[k14m0]
  instanceTypes := #[]
  staticTypes := #[(.object "java/util/function/BiFunction"), (.object "java/util/function/BiFunction"), (.object "java/util/function/BiFunction")]
  resolved := Array.replicate 194 none
  statics := some 2 }

def pool15 : Array CpInfo := pool [(9, u "<init>"), (6, .class_ 18), (1, u "java/lang/Object"), (0, u "()V"), (1, .class_ 23), (1, u "jdk/internal/util/ArraysSupport"), (0, u "LOG2_ARRAY_LONG_INDEX_SCALE"), (0, u "I"), (2, u "U"), (0, u "Ljdk/internal/misc/Unsafe;"), (8, u "BIG_ENDIAN"), (0, u "Z"), (8, u "LOG2_BYTE_BIT_SIZE"), (4, u "LOG2_ARRAY_INT_INDEX_SCALE"), (54, u "JLA"), (0, u "Ljdk/internal/access/JavaLangAccess;"), (11, u "LOG2_ARRAY_BOOLEAN_INDEX_SCALE"), (9, u "LOG2_ARRAY_BYTE_INDEX_SCALE"), (5, u "LOG2_ARRAY_CHAR_INDEX_SCALE"), (5, u "LOG2_ARRAY_SHORT_INDEX_SCALE"), (18, u "LOG2_ARRAY_FLOAT_INDEX_SCALE"), (24, u "LOG2_ARRAY_DOUBLE_INDEX_SCALE"), (89, u "T_BOOLEAN"), (2, u "T_CHAR"), (1, u "T_FLOAT"), (1, u "T_DOUBLE"), (1, u "T_BYTE"), (1, u "T_SHORT"), (1, u "T_INT"), (1, u "T_LONG"), (1, u "SOFT_MAX_ARRAY_LENGTH")] 83

def k15m0 : Method := { name := "<init>", desc := "()V", sig := { parameters := [], returnType := none }, accessFlags := 2, code := none }
/-- jdk/internal/util/ArraysSupport -/
def k15 : Class := { plain "jdk/internal/util/ArraysSupport" (some 0) with
  accessFlags := 33
  interfaces := #[]
  cf := some (fileOf pool15 21 #[] #[{ accessFlags := 2, nameIndex := 9, descriptorIndex := 19, attributes := #[] }] 33 16 #[] #[{ accessFlags := 24, nameIndex := 28, descriptorIndex := 29, attributes := #[] }, { accessFlags := 26, nameIndex := 38, descriptorIndex := 39, attributes := #[] }, { accessFlags := 25, nameIndex := 121, descriptorIndex := 25, attributes := #[] }, { accessFlags := 25, nameIndex := 131, descriptorIndex := 25, attributes := #[] }, { accessFlags := 25, nameIndex := 137, descriptorIndex := 25, attributes := #[] }, { accessFlags := 25, nameIndex := 143, descriptorIndex := 25, attributes := #[] }, { accessFlags := 25, nameIndex := 53, descriptorIndex := 25, attributes := #[] }, { accessFlags := 25, nameIndex := 24, descriptorIndex := 25, attributes := #[] }, { accessFlags := 25, nameIndex := 162, descriptorIndex := 25, attributes := #[] }, { accessFlags := 25, nameIndex := 187, descriptorIndex := 25, attributes := #[] }, { accessFlags := 26, nameIndex := 48, descriptorIndex := 25, attributes := #[] }, { accessFlags := 25, nameIndex := 277, descriptorIndex := 25, attributes := #[] }, { accessFlags := 25, nameIndex := 280, descriptorIndex := 25, attributes := #[] }, { accessFlags := 25, nameIndex := 282, descriptorIndex := 25, attributes := #[] }, { accessFlags := 25, nameIndex := 284, descriptorIndex := 25, attributes := #[] }, { accessFlags := 25, nameIndex := 286, descriptorIndex := 25, attributes := #[] }, { accessFlags := 25, nameIndex := 288, descriptorIndex := 25, attributes := #[] }, { accessFlags := 25, nameIndex := 290, descriptorIndex := 25, attributes := #[] }, { accessFlags := 25, nameIndex := 292, descriptorIndex := 25, attributes := #[] }, { accessFlags := 26, nameIndex := 108, descriptorIndex := 109, attributes := #[] }, { accessFlags := 25, nameIndex := 294, descriptorIndex := 25, attributes := #[] }])
  fields := #[{ name := "U", type := (.object "jdk/internal/misc/Unsafe"), accessFlags := 24, slot := 0, constantValue := 0 }, { name := "BIG_ENDIAN", type := .boolean, accessFlags := 26, slot := 1, constantValue := 0 }, { name := "LOG2_ARRAY_BOOLEAN_INDEX_SCALE", type := .int, accessFlags := 25, slot := 2, constantValue := 0 }, { name := "LOG2_ARRAY_BYTE_INDEX_SCALE", type := .int, accessFlags := 25, slot := 3, constantValue := 0 }, { name := "LOG2_ARRAY_CHAR_INDEX_SCALE", type := .int, accessFlags := 25, slot := 4, constantValue := 0 }, { name := "LOG2_ARRAY_SHORT_INDEX_SCALE", type := .int, accessFlags := 25, slot := 5, constantValue := 0 }, { name := "LOG2_ARRAY_INT_INDEX_SCALE", type := .int, accessFlags := 25, slot := 6, constantValue := 0 }, { name := "LOG2_ARRAY_LONG_INDEX_SCALE", type := .int, accessFlags := 25, slot := 7, constantValue := 0 }, { name := "LOG2_ARRAY_FLOAT_INDEX_SCALE", type := .int, accessFlags := 25, slot := 8, constantValue := 0 }, { name := "LOG2_ARRAY_DOUBLE_INDEX_SCALE", type := .int, accessFlags := 25, slot := 9, constantValue := 0 }, { name := "LOG2_BYTE_BIT_SIZE", type := .int, accessFlags := 26, slot := 10, constantValue := 0 }, { name := "T_BOOLEAN", type := .int, accessFlags := 25, slot := 11, constantValue := 0 }, { name := "T_CHAR", type := .int, accessFlags := 25, slot := 12, constantValue := 0 }, { name := "T_FLOAT", type := .int, accessFlags := 25, slot := 13, constantValue := 0 }, { name := "T_DOUBLE", type := .int, accessFlags := 25, slot := 14, constantValue := 0 }, { name := "T_BYTE", type := .int, accessFlags := 25, slot := 15, constantValue := 0 }, { name := "T_SHORT", type := .int, accessFlags := 25, slot := 16, constantValue := 0 }, { name := "T_INT", type := .int, accessFlags := 25, slot := 17, constantValue := 0 }, { name := "T_LONG", type := .int, accessFlags := 25, slot := 18, constantValue := 0 }, { name := "JLA", type := (.object "jdk/internal/access/JavaLangAccess"), accessFlags := 26, slot := 19, constantValue := 0 }, { name := "SOFT_MAX_ARRAY_LENGTH", type := .int, accessFlags := 25, slot := 20, constantValue := 0 }]
  methods := #[k15m0]
  instanceTypes := #[]
  staticTypes := #[(.object "jdk/internal/misc/Unsafe"), .boolean, .int, .int, .int, .int, .int, .int, .int, .int, .int, .int, .int, .int, .int, .int, .int, .int, .int, (.object "jdk/internal/access/JavaLangAccess"), .int]
  resolved := Array.replicate 378 none
  statics := none }

def pool16 : Array CpInfo := pool [(1, u "java/lang/Cloneable"), (0, .class_ 1), (0, u "java/lang/Object"), (0, .class_ 3)] 3

/-- java/lang/Cloneable -/
def k16 : Class := { plain "java/lang/Cloneable" (some 0) with
  accessFlags := 1537
  interfaces := #[]
  cf := some (fileOf pool16 2 #[] #[] 1537 4 #[] #[])
  fields := #[]
  methods := #[]
  instanceTypes := #[]
  staticTypes := #[]
  resolved := Array.replicate 8 none
  statics := none }

/-- the primitive byte -/
def k17 : Class := { plain "byte" none with kind := .primitive 'B', accessFlags := 0x411 }
/-- [B -/
def k18 : Class := { plain "[B" (some 0) with kind := .array 17 .byte, interfaces := #[16, 2], accessFlags := 1041 }

/-- the primitive char -/
def k19 : Class := { plain "char" none with kind := .primitive 'C', accessFlags := 0x411 }
/-- [C -/
def k20 : Class := { plain "[C" (some 0) with kind := .array 19 .char, interfaces := #[16, 2], accessFlags := 1041 }

/-- the primitive int -/
def k21 : Class := { plain "int" none with kind := .primitive 'I', accessFlags := 0x411 }
/-- [I -/
def k22 : Class := { plain "[I" (some 0) with kind := .array 21 .int, interfaces := #[16, 2], accessFlags := 1041 }

def heap : Heap := #[{ cls := 7, slots := #[.long 0, .int 1, .null, .int 0, .null, .int 0, .int 0], vm := .statics 7 },
  { cls := 9, slots := #[.ref 3, .ref 4, .null], vm := .statics 9 },
  { cls := 14, slots := #[.null, .null, .null], vm := .statics 14 },
  { cls := 9, slots := #[.null, .int 0, .int 0, .null], vm := .none },
  { cls := 9, slots := #[.null, .int 1, .int 0, .null], vm := .none }]
def classes : Array Class := #[k0, k1, k2, k3, k4, k5, k6, k7, k8, k9, k10, k11, k12, k13, k14, k15, k16, k17, k18, k19, k20, k21, k22]
def interned : List (Array UInt16 × Addr) := []
def slotsUsed : Nat := 21
def theMethod : MethodId := ⟨1, 3⟩
def args0 : Array Value := #[.int 5, .int 3, .int 2, .int 1]
def aboutOver (below : List Frame) : State where
  vm := { classes := classes, interned := interned.toArray }
  heap := heap
  slotsUsed := slotsUsed
  threads := #[{ frames := .invoking theMethod args0 :: below }]
def below0 : List Frame := [.native { method := ⟨0, 0⟩, args := #[] }]
def about1 : State := aboutOver below0
def p0 : Program := .bare "" "" ""
def e0 : Env := launch0.env 0 0 0
theorem w_frames : about1.frames = Frame.invoking theMethod args0 :: below0 := rfl
set_option maxRecDepth 65536 in
theorem w_args : argsFit about1.vm theMethod args0 = true := by decide +kernel
set_option maxRecDepth 65536 in
theorem w_heap : heapFits about1 = true := by decide +kernel
set_option maxRecDepth 65536 in
theorem w_runnable : about1.curStatus? = some .runnable := by decide +kernel
set_option maxRecDepth 65536 in
theorem w_alone : about1.alone = true := by decide +kernel
set_option maxRecDepth 65536 in
theorem w_named : about1.methodNamed? x = some theMethod := by decide +kernel
set_option maxRecDepth 65536 in
theorem w_hears : about1.hears theMethod below0 = true := by decide +kernel
set_option maxRecDepth 65536 in
theorem w_ripe : about1.ripe theMethod args0 below0 = true := by decide +kernel
theorem w_running : about1.status = .running := rfl
set_option maxRecDepth 65536 in
theorem w_room : about1.hasRoom e0.platform room_1 = true :=
  launch0.hasRoom_least _ room_1 (by decide +kernel) (by decide +kernel) (by decide +kernel) (by decide +kernel) (by decide +kernel) (by decide +kernel)
theorem allAtoms_all (ts : List Jvm.Cond) (a : Array Jvm.Value) (st : Jvm.State) : (allAtoms ts).before a st = ts.all (fun c => c.before a st) := by
  induction ts with
  | nil => rfl
  | cons c t ih =>
    show (Jvm.Cond.and c (allAtoms t)).before a st = _
    rw [Jvm.Cond.before_and, ih, List.all_cons]
def words1 : List Jvm.Cond := Jvm.Cond.code x code maxLocals ret :: tables_1
/-- a 'code' word, met by the world's own term for the bytes: nothing is compared byte by byte -/
theorem code_word {y : MethodName} {bytes : ByteArray} {mx : Nat} {rt : Option FieldType} {a : Array Value} {s : State} {m : MethodId} {meth : Method} {c : Code} (h1 : s.methodNamed? y = some m) (h2 : s.vm.method? m = some meth) (h3 : meth.code = some c) (h4 : c.code = bytes)
    (h5 : (c.maxLocals == mx && c.exceptionTable.isEmpty && decide (c.maxStack ≤ mostOperands) && decide (meth.sig.returnType = rt) && !meth.locks && decide (parseMethodDescriptor y.desc = some meth.sig)) = true) : (Jvm.Cond.code y bytes mx rt).before a s = true := by
  simp only [Bool.and_eq_true, beq_iff_eq, Bool.not_eq_true', decide_eq_true_eq] at h5
  obtain ⟨⟨⟨⟨⟨g1, g2⟩, g3⟩, g4⟩, g5⟩, g6⟩ := h5
  simp [Cond.before, Cond.holds, Cond.value, h1, h2, h3, h4, g1, g2, g3, g4, g5, g6]
def isCode : Jvm.Cond → Bool
  | .code _ _ _ _ => true
  | _ => false
theorem all_split {L : List Jvm.Cond} {P : Jvm.Cond → Bool} (h1 : L.all (fun c => isCode c || P c) = true) (h2 : ∀ c ∈ L.filter isCode, P c = true) : L.all P = true := by
  refine List.all_eq_true.mpr fun c hc => ?_
  have h := List.all_eq_true.mp h1 c hc
  rcases Bool.eq_false_or_eq_true (isCode c) with hi | hi
  · exact h2 c (List.mem_filter.mpr ⟨hc, hi⟩)
  · simpa [hi] using h
set_option maxRecDepth 65536 in
theorem w_c0 : (Jvm.Cond.code x code maxLocals ret).before args0 about1 = true := code_word (m := ⟨1, 3⟩) (meth := k1m3) (c := k1c3) (by decide +kernel) rfl rfl rfl (by decide +kernel)
set_option maxRecDepth 65536 in
theorem w_c1 : (Jvm.Cond.code ({ cls := "com/example/vendsettle/vendsettle/StatusIsSuccessPinLaw", name := "messageOf", desc := "(III)Ljava/lang/String;" } : Jvm.MethodName) method_3_code (4 : Nat) (Option.some (Jvm.ClassFile.FieldType.object "java/lang/String"))).before args0 about1 = true := code_word (m := ⟨1, 2⟩) (meth := k1m2) (c := k1c2) (by decide +kernel) rfl rfl rfl (by decide +kernel)
set_option maxRecDepth 65536 in
theorem w_c2 : (Jvm.Cond.code ({ cls := "java/lang/String", name := "<init>", desc := "([C)V" } : Jvm.MethodName) jdk_42_method_3_code (2 : Nat) (Option.none : Option Jvm.ClassFile.FieldType)).before args0 about1 = true := code_word (m := ⟨7, 1⟩) (meth := k7m1) (c := k7c1) (by decide +kernel) rfl rfl rfl (by decide +kernel)
set_option maxRecDepth 65536 in
theorem w_c3 : (Jvm.Cond.code ({ cls := "java/lang/String", name := "<init>", desc := "([CIILjava/lang/Void;)V" } : Jvm.MethodName) jdk_42_method_149_code (6 : Nat) (Option.none : Option Jvm.ClassFile.FieldType)).before args0 about1 = true := code_word (m := ⟨7, 2⟩) (meth := k7m2) (c := k7c2) (by decide +kernel) rfl rfl rfl (by decide +kernel)
set_option maxRecDepth 65536 in
theorem w_c4 : (Jvm.Cond.code ({ cls := "java/lang/Object", name := "<init>", desc := "()V" } : Jvm.MethodName) object_method_1_code (1 : Nat) (Option.none : Option Jvm.ClassFile.FieldType)).before args0 about1 = true := code_word (m := ⟨0, 0⟩) (meth := k0m0) (c := k0c0) (by decide +kernel) rfl rfl rfl (by decide +kernel)
set_option maxRecDepth 65536 in
theorem w_c5 : (Jvm.Cond.code ({ cls := "com/example/vendsettle/vendsettle/StatusIsSuccessPinLaw", name := "reasonOf", desc := "(I)Lcom/example/vendsettle/vendsettle/Processor$Reason;" } : Jvm.MethodName) method_2_code (1 : Nat) (Option.some (Jvm.ClassFile.FieldType.object "com/example/vendsettle/vendsettle/Processor$Reason"))).before args0 about1 = true := code_word (m := ⟨1, 1⟩) (meth := k1m1) (c := k1c1) (by decide +kernel) rfl rfl rfl (by decide +kernel)
set_option maxRecDepth 65536 in
theorem w_c6 : (Jvm.Cond.code ({ cls := "com/example/vendsettle/vendsettle/Processor$Status", name := "<init>", desc := "(ILjava/lang/String;Lcom/example/vendsettle/vendsettle/Processor$Reason;)V" } : Jvm.MethodName) prog_32_method_2_code (4 : Nat) (Option.none : Option Jvm.ClassFile.FieldType)).before args0 about1 = true := code_word (m := ⟨11, 0⟩) (meth := k11m0) (c := k11c0) (by decide +kernel) rfl rfl rfl (by decide +kernel)
set_option maxRecDepth 65536 in
theorem w_c7 : (Jvm.Cond.code ({ cls := "java/lang/Record", name := "<init>", desc := "()V" } : Jvm.MethodName) jdk_30_method_1_code (1 : Nat) (Option.none : Option Jvm.ClassFile.FieldType)).before args0 about1 = true := code_word (m := ⟨10, 0⟩) (meth := k10m0) (c := k10c0) (by decide +kernel) rfl rfl rfl (by decide +kernel)
set_option maxRecDepth 65536 in
theorem w_c8 : (Jvm.Cond.code ({ cls := "com/example/vendsettle/vendsettle/Processor$Status", name := "isSuccess", desc := "()Z" } : Jvm.MethodName) prog_32_method_6_code (1 : Nat) (Option.some Jvm.ClassFile.FieldType.boolean)).before args0 about1 = true := code_word (m := ⟨11, 1⟩) (meth := k11m1) (c := k11c1) (by decide +kernel) rfl rfl rfl (by decide +kernel)
set_option maxRecDepth 65536 in
theorem w_c9 : (Jvm.Cond.code ({ cls := "java/lang/StringUTF16", name := "compress", desc := "([CII)[B" } : Jvm.MethodName) jdk_52_method_16_code (6 : Nat) (Option.some (Jvm.ClassFile.FieldType.array Jvm.ClassFile.FieldType.byte))).before args0 about1 = true := code_word (m := ⟨12, 2⟩) (meth := k12m2) (c := k12c2) (by decide +kernel) rfl rfl rfl (by decide +kernel)
set_option maxRecDepth 65536 in
theorem w_c10 : (Jvm.Cond.code ({ cls := "java/lang/StringUTF16", name := "compress", desc := "([CI[BII)I" } : Jvm.MethodName) jdk_52_method_21_code (7 : Nat) (Option.some Jvm.ClassFile.FieldType.int)).before args0 about1 = true := code_word (m := ⟨12, 3⟩) (meth := k12m3) (c := k12c3) (by decide +kernel) rfl rfl rfl (by decide +kernel)
set_option maxRecDepth 65536 in
theorem w_c11 : (Jvm.Cond.code ({ cls := "java/lang/StringUTF16", name := "coderFromArrayLen", desc := "([BI)B" } : Jvm.MethodName) jdk_52_method_15_code (2 : Nat) (Option.some Jvm.ClassFile.FieldType.byte)).before args0 about1 = true := code_word (m := ⟨12, 1⟩) (meth := k12m1) (c := k12c1) (by decide +kernel) rfl rfl rfl (by decide +kernel)
def codes1 : List Jvm.Cond := [Jvm.Cond.code x code maxLocals ret, Jvm.Cond.code ({ cls := "com/example/vendsettle/vendsettle/StatusIsSuccessPinLaw", name := "messageOf", desc := "(III)Ljava/lang/String;" } : Jvm.MethodName) method_3_code (4 : Nat) (Option.some (Jvm.ClassFile.FieldType.object "java/lang/String")), Jvm.Cond.code ({ cls := "java/lang/String", name := "<init>", desc := "([C)V" } : Jvm.MethodName) jdk_42_method_3_code (2 : Nat) (Option.none : Option Jvm.ClassFile.FieldType), Jvm.Cond.code ({ cls := "java/lang/String", name := "<init>", desc := "([CIILjava/lang/Void;)V" } : Jvm.MethodName) jdk_42_method_149_code (6 : Nat) (Option.none : Option Jvm.ClassFile.FieldType), Jvm.Cond.code ({ cls := "java/lang/Object", name := "<init>", desc := "()V" } : Jvm.MethodName) object_method_1_code (1 : Nat) (Option.none : Option Jvm.ClassFile.FieldType), Jvm.Cond.code ({ cls := "com/example/vendsettle/vendsettle/StatusIsSuccessPinLaw", name := "reasonOf", desc := "(I)Lcom/example/vendsettle/vendsettle/Processor$Reason;" } : Jvm.MethodName) method_2_code (1 : Nat) (Option.some (Jvm.ClassFile.FieldType.object "com/example/vendsettle/vendsettle/Processor$Reason")), Jvm.Cond.code ({ cls := "com/example/vendsettle/vendsettle/Processor$Status", name := "<init>", desc := "(ILjava/lang/String;Lcom/example/vendsettle/vendsettle/Processor$Reason;)V" } : Jvm.MethodName) prog_32_method_2_code (4 : Nat) (Option.none : Option Jvm.ClassFile.FieldType), Jvm.Cond.code ({ cls := "java/lang/Record", name := "<init>", desc := "()V" } : Jvm.MethodName) jdk_30_method_1_code (1 : Nat) (Option.none : Option Jvm.ClassFile.FieldType), Jvm.Cond.code ({ cls := "com/example/vendsettle/vendsettle/Processor$Status", name := "isSuccess", desc := "()Z" } : Jvm.MethodName) prog_32_method_6_code (1 : Nat) (Option.some Jvm.ClassFile.FieldType.boolean), Jvm.Cond.code ({ cls := "java/lang/StringUTF16", name := "compress", desc := "([CII)[B" } : Jvm.MethodName) jdk_52_method_16_code (6 : Nat) (Option.some (Jvm.ClassFile.FieldType.array Jvm.ClassFile.FieldType.byte)), Jvm.Cond.code ({ cls := "java/lang/StringUTF16", name := "compress", desc := "([CI[BII)I" } : Jvm.MethodName) jdk_52_method_21_code (7 : Nat) (Option.some Jvm.ClassFile.FieldType.int), Jvm.Cond.code ({ cls := "java/lang/StringUTF16", name := "coderFromArrayLen", desc := "([BI)B" } : Jvm.MethodName) jdk_52_method_15_code (2 : Nat) (Option.some Jvm.ClassFile.FieldType.byte)]
set_option maxRecDepth 65536 in
theorem codes_eq : words1.filter isCode = codes1 := rfl
theorem w_codes : ∀ c ∈ words1.filter isCode, c.before args0 about1 = true := by
  rw [codes_eq]
  intro c hc
  simp only [codes1, List.mem_cons, List.not_mem_nil, or_false] at hc
  rcases hc with rfl | rfl | rfl | rfl | rfl | rfl | rfl | rfl | rfl | rfl | rfl | rfl
  · exact w_c0
  · exact w_c1
  · exact w_c2
  · exact w_c3
  · exact w_c4
  · exact w_c5
  · exact w_c6
  · exact w_c7
  · exact w_c8
  · exact w_c9
  · exact w_c10
  · exact w_c11
set_option maxRecDepth 65536 in
theorem w_t1 : (words1.take 24).all (fun c => isCode c || c.before args0 about1) = true := by decide +kernel
set_option maxRecDepth 65536 in
theorem w_t2 : ((words1.drop 24).take 24).all (fun c => isCode c || c.before args0 about1) = true := by decide +kernel
set_option maxRecDepth 65536 in
theorem w_t3 : ((words1.drop 24).drop 24).all (fun c => isCode c || c.before args0 about1) = true := by decide +kernel
theorem w_tables : (allAtoms (Jvm.Cond.code x code maxLocals ret :: tables_1)).before args0 about1 = true := by
  rw [allAtoms_all]
  show words1.all (fun c => c.before args0 about1) = true
  refine all_split ?_ w_codes
  rw [← List.take_append_drop 24 words1, List.all_append, w_t1, ← List.take_append_drop 24 (words1.drop 24), List.all_append, w_t2, w_t3]
  rfl
set_option maxRecDepth 65536 in
theorem w_rest : rest_1_c.before args0 about1 = true := by decide +kernel
set_option maxRecDepth 65536 in
theorem w_case : (Jvm.Cond.and given_1 narrow_1).before args0 about1 = true := by decide +kernel
set_option maxRecDepth 65536 in
theorem w_consts : constsHeld consts_1 about1 := Jvm.Lit.constsHeldB_iff.mp (by decide +kernel)
theorem w_applies : (headSpec (Jvm.Cond.code x code maxLocals ret :: tables_1) room_1).applies x e0.platform about1 = true :=
  (Spec.applies_iff w_frames).mpr ⟨w_running, w_runnable, w_alone, w_named, w_hears, w_ripe, w_room, w_tables⟩
theorem atStart : AtStart classFile x code maxLocals ret World_1 tables_1 room_1 Calls_1 rest_1 Pre_1 launch0 p0 e0 about1 theMethod args0 below0 :=
  ⟨lists_1, trivial, launch0.admits_env _ _ _, launch0.least_env, fairChoices_fair.cas, fairChoices_fair.clock, w_frames, w_args, w_heap, w_applies, ⟨w_consts, trivial⟩, w_rest, w_case⟩
end start1
theorem witness_1 : WitnessClaimed_1 := ⟨start1.p0, start1.e0, start1.about1, start1.theMethod, start1.args0, start1.below0, start1.atStart⟩
end Jvm.Pilot.@@N@@
