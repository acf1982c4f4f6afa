import JvmDerived
import JvmDerived.Pilot.@@N@@Statement
import JvmDerived.Pilot.@@N@@Code
set_option linter.unusedVariables false
set_option linter.unusedSimpArgs false
namespace Jvm.RoadKit
open Sem ClassFile Op Lib Jvm.Stand Jvm.Free Jvm.LawKit
section New
variable {p : Program} {l : Launch} {e : Env} {R : Room} {s : State} {m : MethodId} {args : Array Value} {below : List Frame} {meth : Method} {c : Code} {T : State} {locs : List Loc} {cells slots : Nat}
theorem retI (X : Stand p l e R s m args below meth c T locs cells slots) (hx : p.tables.exec = Jvm.exec) {pc : Nat} {Ls : Array Slot} {z : Int32} {rest : List Value} (hret : meth.sig.returnType = some .int) (hd : decode c.code pc = .ok (.ireturn, 1)) {fs : List Frame}
    (hl : ∀ (f : JFrame) (acts : List Action), f.method = m → f.locked = none → f.entered = [] → (doReturn e (T.setTop f) acts (some (.int z))).1 = T.setFrames fs) : Steps p.tables e below (T.setTop (mkF m pc Ls (.int z :: rest))) (T.setFrames fs) := by
  have hm' : T.vm.method? m = some meth := X.method'
  have hn : narrow .int (.int z) = .int z := rfl
  show Steps p.tables e below (T.setTop { method := m, pc := pc, locals := Ls, stack := _ :: rest, locked := none }) _
  jvm_step X.here [X.here.top, hx, hd, hm', hret, hn]
  first | (intro acts; rw [hl _ acts rfl rfl rfl]) | rw [hl _ _ rfl rfl rfl]
  exact Steps.refl _
end New
end Jvm.RoadKit
namespace Jvm.Pilot.@@N@@
open Jvm Jvm.ClassFile Sem Op Lib Jvm.Free Jvm.Stand Jvm.LawKit Jvm.RoadKit Bundle Jvm.Pilot.@@N@@.Jvm.D
/-! own_x1: one plain instruction over locals and stack, as a function; own_blk: a stretch of them in one row -/
def own_x1 : Instr → Nat → Array Slot → List Value → Option (Array Slot × List Value)
  | .iload_n k, 1, Ls, st => match Ls[k.val]? with | some (.val (.int x)) => some (Ls, .int x :: st) | _ => none
  | .iload k, 2, Ls, st => match Ls[k]? with | some (.val (.int x)) => some (Ls, .int x :: st) | _ => none
  | .lload_n k, 1, Ls, st => match Ls[k.val]? with | some (.val (.long x)) => some (Ls, .long x :: st) | _ => none
  | .lload k, 2, Ls, st => match Ls[k]? with | some (.val (.long x)) => some (Ls, .long x :: st) | _ => none
  | .aload_n k, 1, Ls, st => match Ls[k.val]? with | some (.val (.ref x)) => some (Ls, .ref x :: st) | some (.val .null) => some (Ls, .null :: st) | _ => none
  | .aload k, 2, Ls, st => match Ls[k]? with | some (.val (.ref x)) => some (Ls, .ref x :: st) | some (.val .null) => some (Ls, .null :: st) | _ => none
  | .istore_n k, 1, Ls, .int x :: st => match storeLocals Ls k.val (.int x) with | some L => some (L, st) | none => none
  | .istore k, 2, Ls, .int x :: st => match storeLocals Ls k (.int x) with | some L => some (L, st) | none => none
  | .lstore_n k, 1, Ls, .long x :: st => match storeLocals Ls k.val (.long x) with | some L => some (L, st) | none => none
  | .lstore k, 2, Ls, .long x :: st => match storeLocals Ls k (.long x) with | some L => some (L, st) | none => none
  | .astore_n k, 1, Ls, .ref x :: st => match storeLocals Ls k.val (.ref x) with | some L => some (L, st) | none => none
  | .astore k, 2, Ls, .ref x :: st => match storeLocals Ls k (.ref x) with | some L => some (L, st) | none => none
  | .iconst i, 1, Ls, st => some (Ls, .int (Int32.ofInt i) :: st)
  | .bipush i, 2, Ls, st => some (Ls, .int (Int8.ofInt i).toInt32 :: st)
  | .sipush i, 3, Ls, st => some (Ls, .int (Int16.ofInt i).toInt32 :: st)
  | .lconst k, 1, Ls, st => some (Ls, .long (Int64.ofNat k) :: st)
  | .aconst_null, 1, Ls, st => some (Ls, .null :: st)
  | .iadd, 1, Ls, .int y :: .int x :: st => some (Ls, .int (x + y) :: st)
  | .isub, 1, Ls, .int y :: .int x :: st => some (Ls, .int (x - y) :: st)
  | .imul, 1, Ls, .int y :: .int x :: st => some (Ls, .int (x * y) :: st)
  | .iand, 1, Ls, .int y :: .int x :: st => some (Ls, .int (x &&& y) :: st)
  | .ior, 1, Ls, .int y :: .int x :: st => some (Ls, .int (x ||| y) :: st)
  | .ixor, 1, Ls, .int y :: .int x :: st => some (Ls, .int (x ^^^ y) :: st)
  | .ishl, 1, Ls, .int y :: .int x :: st => some (Ls, .int (x <<< (y &&& 31)) :: st)
  | .ishr, 1, Ls, .int y :: .int x :: st => some (Ls, .int (x >>> (y &&& 31)) :: st)
  | .iushr, 1, Ls, .int y :: .int x :: st => some (Ls, .int ((x.toUInt32 >>> (y &&& 31).toUInt32).toInt32) :: st)
  | .ladd, 1, Ls, .long y :: .long x :: st => some (Ls, .long (x + y) :: st)
  | .lsub, 1, Ls, .long y :: .long x :: st => some (Ls, .long (x - y) :: st)
  | .lmul, 1, Ls, .long y :: .long x :: st => some (Ls, .long (x * y) :: st)
  | .land, 1, Ls, .long y :: .long x :: st => some (Ls, .long (x &&& y) :: st)
  | .lor, 1, Ls, .long y :: .long x :: st => some (Ls, .long (x ||| y) :: st)
  | .lxor, 1, Ls, .long y :: .long x :: st => some (Ls, .long (x ^^^ y) :: st)
  | .lushr, 1, Ls, .int y :: .long x :: st => some (Ls, .long ((x.toUInt64 >>> (y &&& 0x3f).toInt64.toUInt64).toInt64) :: st)
  | .ineg, 1, Ls, .int x :: st => some (Ls, .int (-x) :: st)
  | .i2l, 1, Ls, .int x :: st => some (Ls, .long x.toInt64 :: st)
  | .i2b, 1, Ls, .int x :: st => some (Ls, .int x.toInt8.toInt32 :: st)
  | .i2c, 1, Ls, .int x :: st => some (Ls, .int x.toUInt32.toUInt16.toUInt32.toInt32 :: st)
  | .i2s, 1, Ls, .int x :: st => some (Ls, .int x.toInt16.toInt32 :: st)
  | .lcmp, 1, Ls, .long y :: .long x :: st => some (Ls, .int (lcmpW x y) :: st)
  | .dup, 1, Ls, .int x :: st => some (Ls, .int x :: .int x :: st)
  | .dup, 1, Ls, .ref x :: st => some (Ls, .ref x :: .ref x :: st)
  | .iinc k i, 3, Ls, st => match Ls[k]? with | some (.val (.int x)) => (match storeLocals Ls k (.int (x + Int32.ofInt i)) with | some L => some (L, st) | none => none) | _ => none
  | _, _, _, _ => none
section OwnBlk
variable {p : Program} {l : Launch} {e : Env} {R : Room} {s : State} {m : MethodId} {args : Array Value} {below : List Frame} {meth : Method} {c : Code} {T target : State} {locs : List Loc} {cells slots : Nat}
set_option maxHeartbeats 4000000 in
theorem own_x1_ok (X : Stand p l e R s m args below meth c T locs cells slots) (hx : p.tables.exec = Jvm.exec) {i : Instr} {len pc : Nat} {Ls Ls' : Array Slot} {st st' : List Value} (hd : decode c.code pc = .ok (i, len)) (h : own_x1 i len Ls st = some (Ls', st'))
    (k : Steps p.tables e below (T.setTop (mkF m (pc + len) Ls' st')) target) : Steps p.tables e below (T.setTop (mkF m pc Ls st)) target := by
  unfold own_x1 at h
  split at h
  all_goals (try (split at h))
  all_goals (try (split at h))
  all_goals (try (cases h; done))
  all_goals (cases h)
  all_goals first
    | exact XS.iloadN X.here hx rfl hd (by assumption) k
    | exact XS.iload X.here hx rfl hd (by assumption) k
    | exact XS.lloadN X.here hx rfl hd (by assumption) k
    | exact XS.lload X.here hx rfl hd (by assumption) k
    | exact XS.aloadN X.here hx rfl hd (by assumption) rfl k
    | exact XS.aload X.here hx rfl hd (by assumption) rfl k
    | exact XS.istoreN X.here hx rfl hd rfl (by assumption) k
    | exact XS.istore X.here hx rfl hd rfl (by assumption) k
    | exact XS.lstoreN X.here hx rfl hd rfl (by assumption) k
    | exact XS.lstore X.here hx rfl hd rfl (by assumption) k
    | exact XS.astoreN X.here hx rfl hd rfl rfl (by assumption) k
    | exact XS.astore X.here hx rfl hd rfl rfl (by assumption) k
    | exact XS.iconst X.here hx rfl hd k
    | exact XS.bipush X.here hx rfl hd k
    | exact XS.sipush X.here hx rfl hd k
    | exact XS.lconst X.here hx rfl hd k
    | exact XS.aconstNull X.here hx rfl hd k
    | exact XS.iadd X.here hx rfl hd rfl k
    | exact XS.isub X.here hx rfl hd rfl k
    | exact XS.imul X.here hx rfl hd rfl k
    | exact XS.iand X.here hx rfl hd rfl k
    | exact XS.ior X.here hx rfl hd rfl k
    | exact XS.ixor X.here hx rfl hd rfl k
    | exact XS.ishl X.here hx rfl hd rfl k
    | exact XS.ishr X.here hx rfl hd rfl k
    | exact XS.iushr X.here hx rfl hd rfl k
    | exact XS.ladd X.here hx rfl hd rfl k
    | exact XS.lsub X.here hx rfl hd rfl k
    | exact XS.lmul X.here hx rfl hd rfl k
    | exact XS.land X.here hx rfl hd rfl k
    | exact XS.lor X.here hx rfl hd rfl k
    | exact XS.lxor X.here hx rfl hd rfl k
    | exact XS.lushr X.here hx rfl hd rfl k
    | exact XS.ineg X.here hx rfl hd rfl k
    | exact XS.i2l X.here hx rfl hd rfl k
    | exact XS.i2b X.here hx rfl hd rfl k
    | exact XS.i2c X.here hx rfl hd rfl k
    | exact XS.i2s X.here hx rfl hd rfl k
    | exact XS.lcmp X.here hx rfl hd rfl k
    | exact XS.dup X.here hx rfl hd rfl rfl k
    | exact XS.iinc X.here hx rfl hd (by assumption) (by assumption) k
/-- a stretch: each row's pc, instruction and length; a 'goto' among them goes where its row says -/
def own_xs : List (Nat × Instr × Nat) → Nat → Array Slot → List Value → Option (Nat × Array Slot × List Value)
  | [], pc, Ls, st => some (pc, Ls, st)
  | (q, .goto o, 3) :: is, pc, Ls, st => if q = pc then own_xs is ((pc : Int) + o).toNat Ls st else none
  | (q, i, len) :: is, pc, Ls, st => if q = pc then (match own_x1 i len Ls st with | some (L, t) => own_xs is (pc + len) L t | none => none) else none
def own_dec (b : ByteArray) (is : List (Nat × Instr × Nat)) : Bool := is.all fun r => (match decode b r.1 with | .ok (i, n) => decide (i = r.2.1) && decide (n = r.2.2) | .error _ => false) && (match r.2.1 with | .goto o => decide (0 ≤ (r.1 : Int) + o) | _ => true)
theorem own_blk (X : Stand p l e R s m args below meth c T locs cells slots) (hx : p.tables.exec = Jvm.exec) : ∀ (is : List (Nat × Instr × Nat)) {pc pc' : Nat} {Ls Ls' : Array Slot} {st st' : List Value}, own_dec c.code is = true → own_xs is pc Ls st = some (pc', Ls', st') →
    Steps p.tables e below (T.setTop (mkF m pc' Ls' st')) target → Steps p.tables e below (T.setTop (mkF m pc Ls st)) target := by
  intro is
  induction is with
  | nil => intro pc pc' Ls Ls' st st' _ h k; simp only [own_xs] at h; cases h; exact k
  | cons r is ih =>
    intro pc pc' Ls Ls' st st' hd h k
    simp only [own_dec, List.all_cons, Bool.and_eq_true] at hd
    obtain ⟨⟨h1, h2⟩, h3⟩ := hd
    obtain ⟨q, i, len⟩ := r
    have hdec : decode c.code q = .ok (i, len) := by
      revert h1
      dsimp only
      cases decode c.code q with
      | error _ => intro h; cases h
      | ok v => obtain ⟨i', n'⟩ := v; intro h; simp only [Bool.and_eq_true, decide_eq_true_eq] at h; obtain ⟨rfl, rfl⟩ := h; rfl
    have h3' : own_dec c.code is = true := h3
    unfold own_xs at h
    split at h
    · cases ‹_ :: _ = []›
    · rename_i e1
      cases e1
      split at h
      · rename_i e2
        subst e2
        exact XS.goto X.here hx rfl rfl hdec (by simpa using h2) rfl (ih h3' h k)
      · cases h
    · rename_i e1
      cases e1
      split at h
      · rename_i e2
        subst e2
        split at h
        · rename_i e3
          exact own_x1_ok X hx hdec e3 (ih h3' h k)
        · cases h
      · cases h
theorem own_hb {c : Code} {b : ByteArray} {is : List (Nat × Instr × Nat)} (h : c.code = b) (h2 : own_dec b is = true) : own_dec c.code is = true := h ▸ h2
end OwnBlk
/-! the three calls by contract, each as one 'obtain' (over the library's callS, specialBack, virtualBack and backOf) -/
section OwnCall
variable {p : Program} {l : Launch} {e : Env} {R : Room} {s : State} {m : MethodId} {args : Array Value} {below : List Frame} {meth : Method} {c : Code} {T : State} {locs : List Loc} {cells slots : Nat} {Z : State} {a0 : Array Value} {h : Heap}
theorem own_callS (X : Stand p l e R s m args below meth c T locs cells slots) (hx : p.tables.exec = Jvm.exec) (hZ : Z.Warmed39 s.vm) {own : String} {index : Nat} {y : MethodName} {bytes : ByteArray} {maxL : Nat} {ret : Option FieldType} {rm : Room} {Q : Option Value → Heap → List Loc → Prop}
    (hown : s.vm.findClass own = some m.cls) (w1 : (Jvm.Cond.methodLink own index y).before a0 Z = true) (w2 : (Jvm.Cond.static y).before a0 Z = true) (w3 : (Jvm.Cond.initialized y.cls).before a0 Z = true) (w4 : (Jvm.Cond.code y bytes maxL ret).before a0 Z = true)
    (hy : y.cls ≠ "java/lang/invoke/MethodHandle" ∧ y.cls ≠ "java/lang/invoke/VarHandle") {W : Nat} {argsL rest : List Value}
    (hM : MetFree l y (head1 [Jvm.Cond.code y bytes maxL ret] rm) (fun a U => a = argsL.toArray ∧ Z.Warmed39 U.vm ∧ U.heap = h) (fun _ _ _ _ _ => True) (fun _ U o U' => ∃ v L, o = .returned v ∧ Q v U'.heap L ∧ FrameEnd U o U' L rm.cells rm.slots))
    (hf : rm.frames + 1 ≤ R.frames) (hl : W + (maxL + 11) + rm.locals ≤ R.locals) {c' s' : Nat} (hc' : cells + rm.cells = c') (hs' : slots + rm.slots = s') (hc : c' ≤ R.cells) (hs : s' ≤ R.slots) (eT : T.heap = h)
    {g : JFrame} (hg : g.method = m) (hsize : g.locals.size = c.maxLocals) (hlen : ∀ sig, parseMethodDescriptor y.desc = some sig → argsL.length = sig.parameters.length) (hstack : g.stack = argsL.reverse ++ rest) (hW : 2 * g.monitorRoom + (rest.map fun v => v.category).sum ≤ W) (hdg : decode c.code g.pc = .ok (.invokestatic index, 3)) :
    ∃ (v : Option Value) (T' : State) (L : List Loc), Stand p l e R s m args below meth c T' (locs ++ L) c' s' ∧ Q v T'.heap L ∧ ∀ target, Steps p.tables e below (T'.setTop { g with pc := g.pc + 3, stack := v.toList ++ rest }) target → Steps p.tables e below (T.setTop g) target := by
  subst hc' hs'
  obtain ⟨v, vm₁, ⟨T', L', k', n'⟩, -, X', ⟨L, hQ, e1, e2, e3⟩, st⟩ := Jvm.LawKit.callS X hx hown (mvT hZ w1) (mvT hZ w2) (mvT hZ w3) (mvT hZ w4) hy (backOf (W := W) hM hZ w4 w3 hf hl) hg hsize hlen hstack hW hdg (fun _ _ => ⟨rfl, eT, hc, hs⟩)
  dsimp only [Pt.U, Pt.locs, Pt.cells, Pt.slots] at X' e1 e2 e3 st hQ
  subst e1 e2 e3
  exact ⟨v, T', L, X', hQ, st⟩
theorem own_callI (X : Stand p l e R s m args below meth c T locs cells slots) (hx : p.tables.exec = Jvm.exec) (hZ : Z.Warmed39 s.vm) {own : String} {index : Nat} {y : MethodName} (hy1 : y.name = "<init>") {bytes : ByteArray} {maxL : Nat} {rm : Room} {Q : Option Value → Heap → List Loc → Prop}
    (hown : s.vm.findClass own = some m.cls) (w1 : (Jvm.Cond.methodLink own index y).before a0 Z = true) (w2 : (Jvm.Cond.instanceMethod y).before a0 Z = true) (w3 : (Jvm.Cond.initialized y.cls).before a0 Z = true) (w4 : (Jvm.Cond.code y bytes maxL none).before a0 Z = true)
    (hy : y.cls ≠ "java/lang/invoke/MethodHandle" ∧ y.cls ≠ "java/lang/invoke/VarHandle") {W : Nat} {a : Addr} {argsL rest : List Value}
    (hM : MetFree l y (head1 [Jvm.Cond.code y bytes maxL none] rm) (fun b U => b = (.ref a :: argsL).toArray ∧ Z.Warmed39 U.vm ∧ U.heap = h) (fun _ _ _ _ _ => True) (fun _ U o U' => ∃ v L, o = .returned v ∧ Q v U'.heap L ∧ FrameEnd U o U' L rm.cells rm.slots))
    (hf : rm.frames + 1 ≤ R.frames) (hl : W + (maxL + 11) + rm.locals ≤ R.locals) {c' s' : Nat} (hc' : cells + rm.cells = c') (hs' : slots + rm.slots = s') (hc : c' ≤ R.cells) (hs : s' ≤ R.slots) (eT : T.heap = h)
    {g : JFrame} (hg : g.method = m) (hsize : g.locals.size = c.maxLocals) (hlen : ∀ sig, parseMethodDescriptor y.desc = some sig → argsL.length = sig.parameters.length) (hstack : g.stack = argsL.reverse ++ .ref a :: rest) (hW : 2 * g.monitorRoom + (rest.map fun v => v.category).sum ≤ W) (hdg : decode c.code g.pc = .ok (.invokespecial index, 3)) :
    ∃ (v : Option Value) (T' : State) (L : List Loc), Stand p l e R s m args below meth c T' (locs ++ L) c' s' ∧ Q v T'.heap L ∧ ∀ target, Steps p.tables e below (T'.setTop { g with pc := g.pc + 3, stack := v.toList ++ rest }) target → Steps p.tables e below (T.setTop g) target := by
  subst hc' hs'
  obtain ⟨v, vm₁, ⟨T', L', k', n'⟩, -, X', ⟨L, hQ, e1, e2, e3⟩, st⟩ := X.specialBack hx hy1 hown (mvT hZ w1) (mvT hZ w2) (mvT hZ w4) hy (backOf (W := W) hM hZ w4 w3 hf hl) hg hsize (Steps.refl _) (a := a) hlen hstack hW hdg (fun _ _ => ⟨rfl, eT, hc, hs⟩)
  dsimp only [Pt.U, Pt.locs, Pt.cells, Pt.slots] at X' e1 e2 e3 st hQ
  subst e1 e2 e3
  exact ⟨v, T', L, X', hQ, fun target k => st.trans k⟩
theorem own_callV (X : Stand p l e R s m args below meth c T locs cells slots) (hx : p.tables.exec = Jvm.exec) (hZ : Z.Warmed39 s.vm) {own C : String} {index : Nat} {y : MethodName} {bytes : ByteArray} {maxL : Nat} {ret : Option FieldType} {rm : Room} {Q : Option Value → Heap → List Loc → Prop}
    (hown : s.vm.findClass own = some m.cls) (w1 : (Jvm.Cond.methodLink own index y).before a0 Z = true) (w5 : (Jvm.Cond.declares y).before a0 Z = true) (w6 : (Jvm.Cond.selects C y y).before a0 Z = true) (w2 : (Jvm.Cond.instanceMethod y).before a0 Z = true) (w3 : (Jvm.Cond.initialized y.cls).before a0 Z = true) (w4 : (Jvm.Cond.code y bytes maxL ret).before a0 Z = true)
    (hy : y.cls ≠ "java/lang/invoke/MethodHandle" ∧ y.cls ≠ "java/lang/invoke/VarHandle") {W : Nat} {a : Addr} (E : Exa Z h a C) {argsL rest : List Value}
    (hM : MetFree l y (head1 [Jvm.Cond.code y bytes maxL ret] rm) (fun b U => b = (.ref a :: argsL).toArray ∧ Z.Warmed39 U.vm ∧ U.heap = h) (fun _ _ _ _ _ => True) (fun _ U o U' => ∃ v L, o = .returned v ∧ Q v U'.heap L ∧ FrameEnd U o U' L rm.cells rm.slots))
    (hf : rm.frames + 1 ≤ R.frames) (hl : W + (maxL + 11) + rm.locals ≤ R.locals) {c' s' : Nat} (hc' : cells + rm.cells = c') (hs' : slots + rm.slots = s') (hc : c' ≤ R.cells) (hs : s' ≤ R.slots) (eT : T.heap = h)
    {g : JFrame} (hg : g.method = m) (hsize : g.locals.size = c.maxLocals) (hlen : ∀ sig, parseMethodDescriptor y.desc = some sig → argsL.length = sig.parameters.length) (hstack : g.stack = argsL.reverse ++ .ref a :: rest) (hW : 2 * g.monitorRoom + (rest.map fun v => v.category).sum ≤ W) (hdg : decode c.code g.pc = .ok (.invokevirtual index, 3)) :
    ∃ (v : Option Value) (T' : State) (L : List Loc), Stand p l e R s m args below meth c T' (locs ++ L) c' s' ∧ Q v T'.heap L ∧ ∀ target, Steps p.tables e below (T'.setTop { g with pc := g.pc + 3, stack := v.toList ++ rest }) target → Steps p.tables e below (T.setTop g) target := by
  subst hc' hs'
  obtain ⟨cB, kB, q1, q2, q3⟩ := isOf hZ eT E
  obtain ⟨v, vm₁, ⟨T', L', k', n'⟩, -, X', ⟨L, hQ, e1, e2, e3⟩, st⟩ := X.virtualBack hx (z := y) hown (mvT hZ w1) (mvT hZ w5) (notFace_of_selects (args := #[]) (mvT hZ w6)) (mvT hZ w6) (mvT hZ w2) hy (backOf (W := W) hM hZ w4 w3 hf hl) q1 q3 hg hsize (Steps.refl _) hlen hstack hW hdg (fun _ _ => ⟨rfl, eT, hc, hs⟩)
  dsimp only [Pt.U, Pt.locs, Pt.cells, Pt.slots] at X' e1 e2 e3 st hQ
  subst e1 e2 e3
  exact ⟨v, T', L, X', hQ, fun target k => st.trans k⟩
end OwnCall
theorem own_small {n : Nat} (P : Int32 → Prop) (h : ∀ i : Fin n, P (Int32.ofNat i.1)) {x : Int32} (h0 : ¬ x < 0) (h1 : x.toInt < n) : P x := by
  have e0 : (0 : Int32).toInt = 0 := by decide
  have hx : Int32.ofNat x.toNatClampNeg = x := (back32 h0).1
  have hp : 0 ≤ x.toInt := by rw [Int32.lt_iff_toInt_lt] at h0; omega
  have hlt : x.toNatClampNeg < n := by
    show x.toInt.toNat < n
    omega
  have q := h ⟨x.toNatClampNeg, hlt⟩
  rw [← hx]; exact q
theorem d2_0 : decode method_2_code 0 = .ok (.iload_n 0, 1) := by decide +kernel
theorem d2_1 : decode method_2_code 1 = .ok (.bipush 8, 2) := by decide +kernel
theorem d2_3 : decode method_2_code 3 = .ok (.if_icmp .ne 6, 3) := by decide +kernel
theorem d2_6 : decode method_2_code 6 = .ok (.bipush 98, 2) := by decide +kernel
theorem d2_8 : decode method_2_code 8 = .ok (.ireturn, 1) := by decide +kernel
theorem d2_9 : decode method_2_code 9 = .ok (.iload_n 0, 1) := by decide +kernel
theorem d2_10 : decode method_2_code 10 = .ok (.bipush 9, 2) := by decide +kernel
theorem d2_12 : decode method_2_code 12 = .ok (.if_icmp .ne 6, 3) := by decide +kernel
theorem d2_15 : decode method_2_code 15 = .ok (.bipush 116, 2) := by decide +kernel
theorem d2_17 : decode method_2_code 17 = .ok (.ireturn, 1) := by decide +kernel
theorem d2_18 : decode method_2_code 18 = .ok (.iload_n 0, 1) := by decide +kernel
theorem d2_19 : decode method_2_code 19 = .ok (.bipush 10, 2) := by decide +kernel
theorem d2_21 : decode method_2_code 21 = .ok (.if_icmp .ne 6, 3) := by decide +kernel
theorem d2_24 : decode method_2_code 24 = .ok (.bipush 110, 2) := by decide +kernel
theorem d2_26 : decode method_2_code 26 = .ok (.ireturn, 1) := by decide +kernel
theorem d2_27 : decode method_2_code 27 = .ok (.iload_n 0, 1) := by decide +kernel
theorem d2_28 : decode method_2_code 28 = .ok (.bipush 12, 2) := by decide +kernel
theorem d2_30 : decode method_2_code 30 = .ok (.if_icmp .ne 6, 3) := by decide +kernel
theorem d2_33 : decode method_2_code 33 = .ok (.bipush 102, 2) := by decide +kernel
theorem d2_35 : decode method_2_code 35 = .ok (.ireturn, 1) := by decide +kernel
theorem d2_36 : decode method_2_code 36 = .ok (.iload_n 0, 1) := by decide +kernel
theorem d2_37 : decode method_2_code 37 = .ok (.bipush 13, 2) := by decide +kernel
theorem d2_39 : decode method_2_code 39 = .ok (.if_icmp .ne 6, 3) := by decide +kernel
theorem d2_42 : decode method_2_code 42 = .ok (.bipush 114, 2) := by decide +kernel
theorem d2_44 : decode method_2_code 44 = .ok (.ireturn, 1) := by decide +kernel
theorem d2_45 : decode method_2_code 45 = .ok (.iconst 0, 1) := by decide +kernel
theorem d2_46 : decode method_2_code 46 = .ok (.ireturn, 1) := by decide +kernel
theorem pn_2 : plainName "com/example/endcon/endcon/rules/LineTextEscapePinLaw" = true := by first | (simp [plainName, overriddenIn]; done) | decide +kernel
theorem ef_2 (m : MethodId) (x0 : Int32) : entryFrame m #[(.int x0)] 1 = mkF m 0 #[.val (.int x0)] [] := by first | (simp [entryFrame, mkF, argsToLocals, Value.category]; done) | rfl
def bl2_0_2 : List (Nat × Instr × Nat) := [(0, .iload_n 0, 1), (1, .bipush 8, 2)]
theorem bd2_0_2 : own_dec method_2_code bl2_0_2 = true := by decide +kernel
def bl2_6_1 : List (Nat × Instr × Nat) := [(6, .bipush 98, 2)]
theorem bd2_6_1 : own_dec method_2_code bl2_6_1 = true := by decide +kernel
def bl2_9_2 : List (Nat × Instr × Nat) := [(9, .iload_n 0, 1), (10, .bipush 9, 2)]
theorem bd2_9_2 : own_dec method_2_code bl2_9_2 = true := by decide +kernel
def bl2_15_1 : List (Nat × Instr × Nat) := [(15, .bipush 116, 2)]
theorem bd2_15_1 : own_dec method_2_code bl2_15_1 = true := by decide +kernel
def bl2_18_2 : List (Nat × Instr × Nat) := [(18, .iload_n 0, 1), (19, .bipush 10, 2)]
theorem bd2_18_2 : own_dec method_2_code bl2_18_2 = true := by decide +kernel
def bl2_24_1 : List (Nat × Instr × Nat) := [(24, .bipush 110, 2)]
theorem bd2_24_1 : own_dec method_2_code bl2_24_1 = true := by decide +kernel
def bl2_27_2 : List (Nat × Instr × Nat) := [(27, .iload_n 0, 1), (28, .bipush 12, 2)]
theorem bd2_27_2 : own_dec method_2_code bl2_27_2 = true := by decide +kernel
def bl2_33_1 : List (Nat × Instr × Nat) := [(33, .bipush 102, 2)]
theorem bd2_33_1 : own_dec method_2_code bl2_33_1 = true := by decide +kernel
def bl2_36_2 : List (Nat × Instr × Nat) := [(36, .iload_n 0, 1), (37, .bipush 13, 2)]
theorem bd2_36_2 : own_dec method_2_code bl2_36_2 = true := by decide +kernel
def bl2_42_1 : List (Nat × Instr × Nat) := [(42, .bipush 114, 2)]
theorem bd2_42_1 : own_dec method_2_code bl2_42_1 = true := by decide +kernel
def bl2_45_1 : List (Nat × Instr × Nat) := [(45, .iconst 0, 1)]
theorem bd2_45_1 : own_dec method_2_code bl2_45_1 = true := by decide +kernel

def f2 (p1 : Int32) : Int32 := (if p1 = (8 : Int32) then (98 : Int32) else (if p1 = (9 : Int32) then (116 : Int32) else (if p1 = (10 : Int32) then (110 : Int32) else (if p1 = (12 : Int32) then (102 : Int32) else (if p1 = (13 : Int32) then (114 : Int32) else (0 : Int32))))))
def Q2 (Z : State) (p1 : Int32) (h0 : Heap) (n0 : Nat) (v : Option Value) (h : Heap) (L : List Loc) : Prop := v = some (.int (f2 p1)) ∧ Fr n0 L ∧ h = h0
set_option maxRecDepth 65536 in
set_option maxHeartbeats 40000000 in
theorem rm2 (l : Launch) (Z : State) (a0 : Array Value) (hw : ∀ d ∈ tables_1, d.before a0 Z = true) (ws : List Jvm.Cond) (p1 : Int32) (h0 : Heap) (n0 : Nat) (Z0 : n0 ≤ h0.size) :
    MetFree l (⟨"com/example/endcon/endcon/rules/LineTextEscapePinLaw", "shortForm", "(I)I"⟩ : MethodName) (head1 (Jvm.Cond.code (⟨"com/example/endcon/endcon/rules/LineTextEscapePinLaw", "shortForm", "(I)I"⟩ : MethodName) method_2_code 1 (some .int) :: ws) ({ frames := 0, cells := 0, slots := 0, locals := 0 } : Room)) (fun a U => a = #[(.int p1)] ∧ Z.Warmed39 U.vm ∧ U.heap = h0) (fun _ _ _ _ _ => True) (fun _ U o U' => ∃ v L, o = .returned v ∧ Q2 Z p1 h0 n0 v U'.heap L ∧ FrameEnd U o U' L ({ frames := 0, cells := 0, slots := 0, locals := 0 } : Room).cells ({ frames := 0, cells := 0, slots := 0, locals := 0 } : Room).slots) := by
  refine MetFree.of_bodySF (plainFor_of_name pn_2) hisR ?_
  intro p e s m args below meth c s₁ Bd hml0 hP hK
  obtain ⟨rfl, hZ, hh⟩ := hP
  have hx := Bd.exec
  have hby := Bd.bytes
  have hml : c.maxLocals = 1 := hml0
  have hown : s.vm.findClass "com/example/endcon/endcon/rules/LineTextEscapePinLaw" = some m.cls := findClass_of_methodNamed Bd.named
  have hnm := (name_of_methodNamed Bd.named Bd.method).1
  have X0 : Stand p l e ({ frames := 0, cells := 0, slots := 0, locals := 0 } : Room) s m #[(.int p1)] below meth c s₁ [] 0 0 := Stand.of_body Bd
  have e0 : s₁.heap = h0 := by rw [← hh, Bd.state]; rfl
  have N0 := Fr.nil n0
  have pre0 : ∀ t, Steps p.tables e below (s₁.setTop (mkF m 0 #[.val (.int p1)] [])) t → Steps p.tables e below (s₁.setTop (entryFrame m #[(.int p1)] 1)) t := fun t k => castTop (ef_2 m p1) k
  have pre1 : ∀ t, Steps p.tables e below (s₁.setTop (mkF m 3 #[.val (.int p1)] [(.int (8 : Int32)), (.int p1)])) t → Steps p.tables e below (s₁.setTop (entryFrame m #[(.int p1)] 1)) t := fun t kt => by
    refine pre0 _ ?_
    show Steps p.tables e below (s₁.setTop (mkF m 0 #[.val (.int p1)] [])) _
    refine own_blk X0 hx bl2_0_2 (own_hb hby bd2_0_2) (pc' := 3) (Ls' := #[.val (.int p1)]) (st' := [(.int (8 : Int32)), (.int p1)]) rfl ?_
    exact kt
  by_cases hc2 : p1 = (8 : Int32)
  · obtain ⟨fs, hr, hrun, hended, hW, hsame⟩ := X0.leave (v := some (.int (98 : Int32))) (fun h => by rw [Bd.returns] at h; cases h)
    refine ⟨_, _, pre1 _ ?_, hrun, hended, _, _, rfl, ?_, ⟨_, rfl⟩, hW, hsame.mono (by decide) (by decide)⟩
    · show Steps p.tables e below (s₁.setTop (mkF m 3 #[.val (.int p1)] [(.int (8 : Int32)), (.int p1)])) _
      refine XS.icmpNo X0.here hx rfl (hb hby d2_3) rfl (teq hc2).2 ?_
      show Steps p.tables e below (s₁.setTop (mkF m 6 #[.val (.int p1)] [])) _
      refine own_blk X0 hx bl2_6_1 (own_hb hby bd2_6_1) (pc' := 8) (Ls' := #[.val (.int p1)]) (st' := [(.int (98 : Int32))]) rfl ?_
      exact retI X0 hx Bd.returns (hb hby d2_8) hr
    · show Q2 Z p1 h0 n0 _ s₁.heap _
      rw [e0]
      exact ⟨by rw [f2, if_pos hc2], N0, rfl⟩
  · have pre3 : ∀ t, Steps p.tables e below (s₁.setTop (mkF m 12 #[.val (.int p1)] [(.int (9 : Int32)), (.int p1)])) t → Steps p.tables e below (s₁.setTop (entryFrame m #[(.int p1)] 1)) t := fun t kt => by
      refine pre1 _ ?_
      show Steps p.tables e below (s₁.setTop (mkF m 3 #[.val (.int p1)] [(.int (8 : Int32)), (.int p1)])) _
      refine XS.icmpYes X0.here hx rfl (pc0 := 3) (pc' := 9) rfl (hb hby d2_3) rfl (feq hc2).2 (by decide) (by decide) ?_
      show Steps p.tables e below (s₁.setTop (mkF m 9 #[.val (.int p1)] [])) _
      refine own_blk X0 hx bl2_9_2 (own_hb hby bd2_9_2) (pc' := 12) (Ls' := #[.val (.int p1)]) (st' := [(.int (9 : Int32)), (.int p1)]) rfl ?_
      exact kt
    by_cases hc4 : p1 = (9 : Int32)
    · obtain ⟨fs, hr, hrun, hended, hW, hsame⟩ := X0.leave (v := some (.int (116 : Int32))) (fun h => by rw [Bd.returns] at h; cases h)
      refine ⟨_, _, pre3 _ ?_, hrun, hended, _, _, rfl, ?_, ⟨_, rfl⟩, hW, hsame.mono (by decide) (by decide)⟩
      · show Steps p.tables e below (s₁.setTop (mkF m 12 #[.val (.int p1)] [(.int (9 : Int32)), (.int p1)])) _
        refine XS.icmpNo X0.here hx rfl (hb hby d2_12) rfl (teq hc4).2 ?_
        show Steps p.tables e below (s₁.setTop (mkF m 15 #[.val (.int p1)] [])) _
        refine own_blk X0 hx bl2_15_1 (own_hb hby bd2_15_1) (pc' := 17) (Ls' := #[.val (.int p1)]) (st' := [(.int (116 : Int32))]) rfl ?_
        exact retI X0 hx Bd.returns (hb hby d2_17) hr
      · show Q2 Z p1 h0 n0 _ s₁.heap _
        rw [e0]
        exact ⟨by rw [f2, if_neg hc2, if_pos hc4], N0, rfl⟩
    · have pre5 : ∀ t, Steps p.tables e below (s₁.setTop (mkF m 21 #[.val (.int p1)] [(.int (10 : Int32)), (.int p1)])) t → Steps p.tables e below (s₁.setTop (entryFrame m #[(.int p1)] 1)) t := fun t kt => by
        refine pre3 _ ?_
        show Steps p.tables e below (s₁.setTop (mkF m 12 #[.val (.int p1)] [(.int (9 : Int32)), (.int p1)])) _
        refine XS.icmpYes X0.here hx rfl (pc0 := 12) (pc' := 18) rfl (hb hby d2_12) rfl (feq hc4).2 (by decide) (by decide) ?_
        show Steps p.tables e below (s₁.setTop (mkF m 18 #[.val (.int p1)] [])) _
        refine own_blk X0 hx bl2_18_2 (own_hb hby bd2_18_2) (pc' := 21) (Ls' := #[.val (.int p1)]) (st' := [(.int (10 : Int32)), (.int p1)]) rfl ?_
        exact kt
      by_cases hc6 : p1 = (10 : Int32)
      · obtain ⟨fs, hr, hrun, hended, hW, hsame⟩ := X0.leave (v := some (.int (110 : Int32))) (fun h => by rw [Bd.returns] at h; cases h)
        refine ⟨_, _, pre5 _ ?_, hrun, hended, _, _, rfl, ?_, ⟨_, rfl⟩, hW, hsame.mono (by decide) (by decide)⟩
        · show Steps p.tables e below (s₁.setTop (mkF m 21 #[.val (.int p1)] [(.int (10 : Int32)), (.int p1)])) _
          refine XS.icmpNo X0.here hx rfl (hb hby d2_21) rfl (teq hc6).2 ?_
          show Steps p.tables e below (s₁.setTop (mkF m 24 #[.val (.int p1)] [])) _
          refine own_blk X0 hx bl2_24_1 (own_hb hby bd2_24_1) (pc' := 26) (Ls' := #[.val (.int p1)]) (st' := [(.int (110 : Int32))]) rfl ?_
          exact retI X0 hx Bd.returns (hb hby d2_26) hr
        · show Q2 Z p1 h0 n0 _ s₁.heap _
          rw [e0]
          exact ⟨by rw [f2, if_neg hc2, if_neg hc4, if_pos hc6], N0, rfl⟩
      · have pre7 : ∀ t, Steps p.tables e below (s₁.setTop (mkF m 30 #[.val (.int p1)] [(.int (12 : Int32)), (.int p1)])) t → Steps p.tables e below (s₁.setTop (entryFrame m #[(.int p1)] 1)) t := fun t kt => by
          refine pre5 _ ?_
          show Steps p.tables e below (s₁.setTop (mkF m 21 #[.val (.int p1)] [(.int (10 : Int32)), (.int p1)])) _
          refine XS.icmpYes X0.here hx rfl (pc0 := 21) (pc' := 27) rfl (hb hby d2_21) rfl (feq hc6).2 (by decide) (by decide) ?_
          show Steps p.tables e below (s₁.setTop (mkF m 27 #[.val (.int p1)] [])) _
          refine own_blk X0 hx bl2_27_2 (own_hb hby bd2_27_2) (pc' := 30) (Ls' := #[.val (.int p1)]) (st' := [(.int (12 : Int32)), (.int p1)]) rfl ?_
          exact kt
        by_cases hc8 : p1 = (12 : Int32)
        · obtain ⟨fs, hr, hrun, hended, hW, hsame⟩ := X0.leave (v := some (.int (102 : Int32))) (fun h => by rw [Bd.returns] at h; cases h)
          refine ⟨_, _, pre7 _ ?_, hrun, hended, _, _, rfl, ?_, ⟨_, rfl⟩, hW, hsame.mono (by decide) (by decide)⟩
          · show Steps p.tables e below (s₁.setTop (mkF m 30 #[.val (.int p1)] [(.int (12 : Int32)), (.int p1)])) _
            refine XS.icmpNo X0.here hx rfl (hb hby d2_30) rfl (teq hc8).2 ?_
            show Steps p.tables e below (s₁.setTop (mkF m 33 #[.val (.int p1)] [])) _
            refine own_blk X0 hx bl2_33_1 (own_hb hby bd2_33_1) (pc' := 35) (Ls' := #[.val (.int p1)]) (st' := [(.int (102 : Int32))]) rfl ?_
            exact retI X0 hx Bd.returns (hb hby d2_35) hr
          · show Q2 Z p1 h0 n0 _ s₁.heap _
            rw [e0]
            exact ⟨by rw [f2, if_neg hc2, if_neg hc4, if_neg hc6, if_pos hc8], N0, rfl⟩
        · have pre9 : ∀ t, Steps p.tables e below (s₁.setTop (mkF m 39 #[.val (.int p1)] [(.int (13 : Int32)), (.int p1)])) t → Steps p.tables e below (s₁.setTop (entryFrame m #[(.int p1)] 1)) t := fun t kt => by
            refine pre7 _ ?_
            show Steps p.tables e below (s₁.setTop (mkF m 30 #[.val (.int p1)] [(.int (12 : Int32)), (.int p1)])) _
            refine XS.icmpYes X0.here hx rfl (pc0 := 30) (pc' := 36) rfl (hb hby d2_30) rfl (feq hc8).2 (by decide) (by decide) ?_
            show Steps p.tables e below (s₁.setTop (mkF m 36 #[.val (.int p1)] [])) _
            refine own_blk X0 hx bl2_36_2 (own_hb hby bd2_36_2) (pc' := 39) (Ls' := #[.val (.int p1)]) (st' := [(.int (13 : Int32)), (.int p1)]) rfl ?_
            exact kt
          by_cases hc10 : p1 = (13 : Int32)
          · obtain ⟨fs, hr, hrun, hended, hW, hsame⟩ := X0.leave (v := some (.int (114 : Int32))) (fun h => by rw [Bd.returns] at h; cases h)
            refine ⟨_, _, pre9 _ ?_, hrun, hended, _, _, rfl, ?_, ⟨_, rfl⟩, hW, hsame.mono (by decide) (by decide)⟩
            · show Steps p.tables e below (s₁.setTop (mkF m 39 #[.val (.int p1)] [(.int (13 : Int32)), (.int p1)])) _
              refine XS.icmpNo X0.here hx rfl (hb hby d2_39) rfl (teq hc10).2 ?_
              show Steps p.tables e below (s₁.setTop (mkF m 42 #[.val (.int p1)] [])) _
              refine own_blk X0 hx bl2_42_1 (own_hb hby bd2_42_1) (pc' := 44) (Ls' := #[.val (.int p1)]) (st' := [(.int (114 : Int32))]) rfl ?_
              exact retI X0 hx Bd.returns (hb hby d2_44) hr
            · show Q2 Z p1 h0 n0 _ s₁.heap _
              rw [e0]
              exact ⟨by rw [f2, if_neg hc2, if_neg hc4, if_neg hc6, if_neg hc8, if_pos hc10], N0, rfl⟩
          · obtain ⟨fs, hr, hrun, hended, hW, hsame⟩ := X0.leave (v := some (.int (0 : Int32))) (fun h => by rw [Bd.returns] at h; cases h)
            refine ⟨_, _, pre9 _ ?_, hrun, hended, _, _, rfl, ?_, ⟨_, rfl⟩, hW, hsame.mono (by decide) (by decide)⟩
            · show Steps p.tables e below (s₁.setTop (mkF m 39 #[.val (.int p1)] [(.int (13 : Int32)), (.int p1)])) _
              refine XS.icmpYes X0.here hx rfl (pc0 := 39) (pc' := 45) rfl (hb hby d2_39) rfl (feq hc10).2 (by decide) (by decide) ?_
              show Steps p.tables e below (s₁.setTop (mkF m 45 #[.val (.int p1)] [])) _
              refine own_blk X0 hx bl2_45_1 (own_hb hby bd2_45_1) (pc' := 46) (Ls' := #[.val (.int p1)]) (st' := [(.int (0 : Int32))]) rfl ?_
              exact retI X0 hx Bd.returns (hb hby d2_46) hr
            · show Q2 Z p1 h0 n0 _ s₁.heap _
              rw [e0]
              exact ⟨by rw [f2, if_neg hc2, if_neg hc4, if_neg hc6, if_neg hc8, if_neg hc10], N0, rfl⟩
theorem d4_0 : decode method_3_code 0 = .ok (.iload_n 0, 1) := by decide +kernel
theorem d4_1 : decode method_3_code 1 = .ok (.bipush 10, 2) := by decide +kernel
theorem d4_3 : decode method_3_code 3 = .ok (.if_icmp .ge 8, 3) := by decide +kernel
theorem d4_6 : decode method_3_code 6 = .ok (.bipush 48, 2) := by decide +kernel
theorem d4_8 : decode method_3_code 8 = .ok (.iload_n 0, 1) := by decide +kernel
theorem d4_9 : decode method_3_code 9 = .ok (.iadd, 1) := by decide +kernel
theorem d4_10 : decode method_3_code 10 = .ok (.ireturn, 1) := by decide +kernel
theorem d4_11 : decode method_3_code 11 = .ok (.bipush 97, 2) := by decide +kernel
theorem d4_13 : decode method_3_code 13 = .ok (.iload_n 0, 1) := by decide +kernel
theorem d4_14 : decode method_3_code 14 = .ok (.bipush 10, 2) := by decide +kernel
theorem d4_16 : decode method_3_code 16 = .ok (.isub, 1) := by decide +kernel
theorem d4_17 : decode method_3_code 17 = .ok (.iadd, 1) := by decide +kernel
theorem d4_18 : decode method_3_code 18 = .ok (.ireturn, 1) := by decide +kernel
theorem pn_4 : plainName "com/example/endcon/endcon/rules/LineTextEscapePinLaw" = true := by first | (simp [plainName, overriddenIn]; done) | decide +kernel
theorem ef_4 (m : MethodId) (x0 : Int32) : entryFrame m #[(.int x0)] 1 = mkF m 0 #[.val (.int x0)] [] := by first | (simp [entryFrame, mkF, argsToLocals, Value.category]; done) | rfl
def bl4_0_2 : List (Nat × Instr × Nat) := [(0, .iload_n 0, 1), (1, .bipush 10, 2)]
theorem bd4_0_2 : own_dec method_3_code bl4_0_2 = true := by decide +kernel
def bl4_6_3 : List (Nat × Instr × Nat) := [(6, .bipush 48, 2), (8, .iload_n 0, 1), (9, .iadd, 1)]
theorem bd4_6_3 : own_dec method_3_code bl4_6_3 = true := by decide +kernel
def bl4_11_5 : List (Nat × Instr × Nat) := [(11, .bipush 97, 2), (13, .iload_n 0, 1), (14, .bipush 10, 2), (16, .isub, 1), (17, .iadd, 1)]
theorem bd4_11_5 : own_dec method_3_code bl4_11_5 = true := by decide +kernel

def f4 (p1 : Int32) : Int32 := (if p1 < (10 : Int32) then ((48 : Int32) + p1) else ((97 : Int32) + (p1 - (10 : Int32))))
def Q4 (Z : State) (p1 : Int32) (h0 : Heap) (n0 : Nat) (v : Option Value) (h : Heap) (L : List Loc) : Prop := v = some (.int (f4 p1)) ∧ Fr n0 L ∧ h = h0
set_option maxRecDepth 65536 in
set_option maxHeartbeats 40000000 in
theorem rm4 (l : Launch) (Z : State) (a0 : Array Value) (hw : ∀ d ∈ tables_1, d.before a0 Z = true) (ws : List Jvm.Cond) (p1 : Int32) (h0 : Heap) (n0 : Nat) (Z0 : n0 ≤ h0.size) :
    MetFree l (⟨"com/example/endcon/endcon/rules/LineTextEscapePinLaw", "hex", "(I)I"⟩ : MethodName) (head1 (Jvm.Cond.code (⟨"com/example/endcon/endcon/rules/LineTextEscapePinLaw", "hex", "(I)I"⟩ : MethodName) method_3_code 1 (some .int) :: ws) ({ frames := 0, cells := 0, slots := 0, locals := 0 } : Room)) (fun a U => a = #[(.int p1)] ∧ Z.Warmed39 U.vm ∧ U.heap = h0) (fun _ _ _ _ _ => True) (fun _ U o U' => ∃ v L, o = .returned v ∧ Q4 Z p1 h0 n0 v U'.heap L ∧ FrameEnd U o U' L ({ frames := 0, cells := 0, slots := 0, locals := 0 } : Room).cells ({ frames := 0, cells := 0, slots := 0, locals := 0 } : Room).slots) := by
  refine MetFree.of_bodySF (plainFor_of_name pn_4) hisR ?_
  intro p e s m args below meth c s₁ Bd hml0 hP hK
  obtain ⟨rfl, hZ, hh⟩ := hP
  have hx := Bd.exec
  have hby := Bd.bytes
  have hml : c.maxLocals = 1 := hml0
  have hown : s.vm.findClass "com/example/endcon/endcon/rules/LineTextEscapePinLaw" = some m.cls := findClass_of_methodNamed Bd.named
  have hnm := (name_of_methodNamed Bd.named Bd.method).1
  have X0 : Stand p l e ({ frames := 0, cells := 0, slots := 0, locals := 0 } : Room) s m #[(.int p1)] below meth c s₁ [] 0 0 := Stand.of_body Bd
  have e0 : s₁.heap = h0 := by rw [← hh, Bd.state]; rfl
  have N0 := Fr.nil n0
  have pre0 : ∀ t, Steps p.tables e below (s₁.setTop (mkF m 0 #[.val (.int p1)] [])) t → Steps p.tables e below (s₁.setTop (entryFrame m #[(.int p1)] 1)) t := fun t k => castTop (ef_4 m p1) k
  have pre1 : ∀ t, Steps p.tables e below (s₁.setTop (mkF m 3 #[.val (.int p1)] [(.int (10 : Int32)), (.int p1)])) t → Steps p.tables e below (s₁.setTop (entryFrame m #[(.int p1)] 1)) t := fun t kt => by
    refine pre0 _ ?_
    show Steps p.tables e below (s₁.setTop (mkF m 0 #[.val (.int p1)] [])) _
    refine own_blk X0 hx bl4_0_2 (own_hb hby bd4_0_2) (pc' := 3) (Ls' := #[.val (.int p1)]) (st' := [(.int (10 : Int32)), (.int p1)]) rfl ?_
    exact kt
  by_cases hc2 : p1 < (10 : Int32)
  · obtain ⟨fs, hr, hrun, hended, hW, hsame⟩ := X0.leave (v := some (.int ((48 : Int32) + p1))) (fun h => by rw [Bd.returns] at h; cases h)
    refine ⟨_, _, pre1 _ ?_, hrun, hended, _, _, rfl, ?_, ⟨_, rfl⟩, hW, hsame.mono (by decide) (by decide)⟩
    · show Steps p.tables e below (s₁.setTop (mkF m 3 #[.val (.int p1)] [(.int (10 : Int32)), (.int p1)])) _
      refine XS.icmpNo X0.here hx rfl (hb hby d4_3) rfl (tlt hc2).2.1 ?_
      show Steps p.tables e below (s₁.setTop (mkF m 6 #[.val (.int p1)] [])) _
      refine own_blk X0 hx bl4_6_3 (own_hb hby bd4_6_3) (pc' := 10) (Ls' := #[.val (.int p1)]) (st' := [(.int ((48 : Int32) + p1))]) rfl ?_
      exact retI X0 hx Bd.returns (hb hby d4_10) hr
    · show Q4 Z p1 h0 n0 _ s₁.heap _
      rw [e0]
      exact ⟨by rw [f4, if_pos hc2], N0, rfl⟩
  · obtain ⟨fs, hr, hrun, hended, hW, hsame⟩ := X0.leave (v := some (.int ((97 : Int32) + (p1 - (10 : Int32))))) (fun h => by rw [Bd.returns] at h; cases h)
    refine ⟨_, _, pre1 _ ?_, hrun, hended, _, _, rfl, ?_, ⟨_, rfl⟩, hW, hsame.mono (by decide) (by decide)⟩
    · show Steps p.tables e below (s₁.setTop (mkF m 3 #[.val (.int p1)] [(.int (10 : Int32)), (.int p1)])) _
      refine XS.icmpYes X0.here hx rfl (pc0 := 3) (pc' := 11) rfl (hb hby d4_3) rfl (flt hc2).2.1 (by decide) (by decide) ?_
      show Steps p.tables e below (s₁.setTop (mkF m 11 #[.val (.int p1)] [])) _
      refine own_blk X0 hx bl4_11_5 (own_hb hby bd4_11_5) (pc' := 18) (Ls' := #[.val (.int p1)]) (st' := [(.int ((97 : Int32) + (p1 - (10 : Int32))))]) rfl ?_
      exact retI X0 hx Bd.returns (hb hby d4_18) hr
    · show Q4 Z p1 h0 n0 _ s₁.heap _
      rw [e0]
      exact ⟨by rw [f4, if_neg hc2], N0, rfl⟩
theorem d3_0 : decode method_4_code 0 = .ok (.iload_n 0, 1) := by decide +kernel
theorem d3_1 : decode method_4_code 1 = .ok (.iload_n 1, 1) := by decide +kernel
theorem d3_2 : decode method_4_code 2 = .ok (.if_icmp .ge 5, 3) := by decide +kernel
theorem d3_5 : decode method_4_code 5 = .ok (.iload_n 3, 1) := by decide +kernel
theorem d3_6 : decode method_4_code 6 = .ok (.ireturn, 1) := by decide +kernel
theorem d3_7 : decode method_4_code 7 = .ok (.iload_n 2, 1) := by decide +kernel
theorem d3_8 : decode method_4_code 8 = .ok (.invokestatic 7, 3) := by decide +kernel
theorem d3_11 : decode method_4_code 11 = .ok (.istore 4, 2) := by decide +kernel
theorem d3_13 : decode method_4_code 13 = .ok (.iload 4, 2) := by decide +kernel
theorem d3_15 : decode method_4_code 15 = .ok (.ifCond .eq 7, 3) := by decide +kernel
theorem d3_18 : decode method_4_code 18 = .ok (.iconst 2, 1) := by decide +kernel
theorem d3_19 : decode method_4_code 19 = .ok (.goto 5, 3) := by decide +kernel
theorem d3_22 : decode method_4_code 22 = .ok (.bipush 6, 2) := by decide +kernel
theorem d3_24 : decode method_4_code 24 = .ok (.istore 5, 2) := by decide +kernel
theorem d3_26 : decode method_4_code 26 = .ok (.iload_n 0, 1) := by decide +kernel
theorem d3_27 : decode method_4_code 27 = .ok (.iload_n 1, 1) := by decide +kernel
theorem d3_28 : decode method_4_code 28 = .ok (.iload 5, 2) := by decide +kernel
theorem d3_30 : decode method_4_code 30 = .ok (.iadd, 1) := by decide +kernel
theorem d3_31 : decode method_4_code 31 = .ok (.if_icmp .lt 5, 3) := by decide +kernel
theorem d3_34 : decode method_4_code 34 = .ok (.iload_n 3, 1) := by decide +kernel
theorem d3_35 : decode method_4_code 35 = .ok (.ireturn, 1) := by decide +kernel
theorem d3_36 : decode method_4_code 36 = .ok (.iload_n 0, 1) := by decide +kernel
theorem d3_37 : decode method_4_code 37 = .ok (.iload_n 1, 1) := by decide +kernel
theorem d3_38 : decode method_4_code 38 = .ok (.isub, 1) := by decide +kernel
theorem d3_39 : decode method_4_code 39 = .ok (.istore 6, 2) := by decide +kernel
theorem d3_41 : decode method_4_code 41 = .ok (.iload 6, 2) := by decide +kernel
theorem d3_43 : decode method_4_code 43 = .ok (.ifCond .ne 6, 3) := by decide +kernel
theorem d3_46 : decode method_4_code 46 = .ok (.bipush 92, 2) := by decide +kernel
theorem d3_48 : decode method_4_code 48 = .ok (.ireturn, 1) := by decide +kernel
theorem d3_49 : decode method_4_code 49 = .ok (.iload 4, 2) := by decide +kernel
theorem d3_51 : decode method_4_code 51 = .ok (.ifCond .eq 7, 3) := by decide +kernel
theorem d3_54 : decode method_4_code 54 = .ok (.iload 4, 2) := by decide +kernel
theorem d3_56 : decode method_4_code 56 = .ok (.i2b, 1) := by decide +kernel
theorem d3_57 : decode method_4_code 57 = .ok (.ireturn, 1) := by decide +kernel
theorem d3_58 : decode method_4_code 58 = .ok (.iload 6, 2) := by decide +kernel
theorem d3_60 : decode method_4_code 60 = .ok (.iconst 1, 1) := by decide +kernel
theorem d3_61 : decode method_4_code 61 = .ok (.if_icmp .ne 6, 3) := by decide +kernel
theorem d3_64 : decode method_4_code 64 = .ok (.bipush 117, 2) := by decide +kernel
theorem d3_66 : decode method_4_code 66 = .ok (.ireturn, 1) := by decide +kernel
theorem d3_67 : decode method_4_code 67 = .ok (.iload_n 2, 1) := by decide +kernel
theorem d3_68 : decode method_4_code 68 = .ok (.iconst 4, 1) := by decide +kernel
theorem d3_69 : decode method_4_code 69 = .ok (.iconst 5, 1) := by decide +kernel
theorem d3_70 : decode method_4_code 70 = .ok (.iload 6, 2) := by decide +kernel
theorem d3_72 : decode method_4_code 72 = .ok (.isub, 1) := by decide +kernel
theorem d3_73 : decode method_4_code 73 = .ok (.imul, 1) := by decide +kernel
theorem d3_74 : decode method_4_code 74 = .ok (.ishr, 1) := by decide +kernel
theorem d3_75 : decode method_4_code 75 = .ok (.bipush 15, 2) := by decide +kernel
theorem d3_77 : decode method_4_code 77 = .ok (.iand, 1) := by decide +kernel
theorem d3_78 : decode method_4_code 78 = .ok (.istore 7, 2) := by decide +kernel
theorem d3_80 : decode method_4_code 80 = .ok (.iload 7, 2) := by decide +kernel
theorem d3_82 : decode method_4_code 82 = .ok (.invokestatic 13, 3) := by decide +kernel
theorem d3_85 : decode method_4_code 85 = .ok (.i2b, 1) := by decide +kernel
theorem d3_86 : decode method_4_code 86 = .ok (.ireturn, 1) := by decide +kernel
theorem pn_3 : plainName "com/example/endcon/endcon/rules/LineTextEscapePinLaw" = true := by first | (simp [plainName, overriddenIn]; done) | decide +kernel
theorem pd_3_1 : parseMethodDescriptor "(I)I" = some ⟨[.int], some .int⟩ := by decide +kernel
theorem ef_3 (m : MethodId) (x0 : Int32) (x1 : Int32) (x2 : Int32) (x3 : Int32) : entryFrame m #[(.int x0), (.int x1), (.int x2), (.int x3)] 8 = mkF m 0 #[.val (.int x0), .val (.int x1), .val (.int x2), .val (.int x3), .unset, .unset, .unset, .unset] [] := by first | (simp [entryFrame, mkF, argsToLocals, Value.category]; done) | rfl
def bl3_0_2 : List (Nat × Instr × Nat) := [(0, .iload_n 0, 1), (1, .iload_n 1, 1)]
theorem bd3_0_2 : own_dec method_4_code bl3_0_2 = true := by decide +kernel
def bl3_5_1 : List (Nat × Instr × Nat) := [(5, .iload_n 3, 1)]
theorem bd3_5_1 : own_dec method_4_code bl3_5_1 = true := by decide +kernel
def bl3_7_1 : List (Nat × Instr × Nat) := [(7, .iload_n 2, 1)]
theorem bd3_7_1 : own_dec method_4_code bl3_7_1 = true := by decide +kernel
def bl3_11_1 : List (Nat × Instr × Nat) := [(11, .istore 4, 2)]
theorem bd3_11_1 : own_dec method_4_code bl3_11_1 = true := by decide +kernel
def bl3_13_1 : List (Nat × Instr × Nat) := [(13, .iload 4, 2)]
theorem bd3_13_1 : own_dec method_4_code bl3_13_1 = true := by decide +kernel
def bl3_22_2 : List (Nat × Instr × Nat) := [(22, .bipush 6, 2), (24, .istore 5, 2)]
theorem bd3_22_2 : own_dec method_4_code bl3_22_2 = true := by decide +kernel
def bl3_26_4 : List (Nat × Instr × Nat) := [(26, .iload_n 0, 1), (27, .iload_n 1, 1), (28, .iload 5, 2), (30, .iadd, 1)]
theorem bd3_26_4 : own_dec method_4_code bl3_26_4 = true := by decide +kernel
def bl3_36_4 : List (Nat × Instr × Nat) := [(36, .iload_n 0, 1), (37, .iload_n 1, 1), (38, .isub, 1), (39, .istore 6, 2)]
theorem bd3_36_4 : own_dec method_4_code bl3_36_4 = true := by decide +kernel
def bl3_41_1 : List (Nat × Instr × Nat) := [(41, .iload 6, 2)]
theorem bd3_41_1 : own_dec method_4_code bl3_41_1 = true := by decide +kernel
def bl3_46_1 : List (Nat × Instr × Nat) := [(46, .bipush 92, 2)]
theorem bd3_46_1 : own_dec method_4_code bl3_46_1 = true := by decide +kernel
def bl3_49_1 : List (Nat × Instr × Nat) := [(49, .iload 4, 2)]
theorem bd3_49_1 : own_dec method_4_code bl3_49_1 = true := by decide +kernel
def bl3_58_2 : List (Nat × Instr × Nat) := [(58, .iload 6, 2), (60, .iconst 1, 1)]
theorem bd3_58_2 : own_dec method_4_code bl3_58_2 = true := by decide +kernel
def bl3_64_1 : List (Nat × Instr × Nat) := [(64, .bipush 117, 2)]
theorem bd3_64_1 : own_dec method_4_code bl3_64_1 = true := by decide +kernel
def bl3_67_10 : List (Nat × Instr × Nat) := [(67, .iload_n 2, 1), (68, .iconst 4, 1), (69, .iconst 5, 1), (70, .iload 6, 2), (72, .isub, 1), (73, .imul, 1), (74, .ishr, 1), (75, .bipush 15, 2), (77, .iand, 1), (78, .istore 7, 2)]
theorem bd3_67_10 : own_dec method_4_code bl3_67_10 = true := by decide +kernel
def bl3_80_1 : List (Nat × Instr × Nat) := [(80, .iload 7, 2)]
theorem bd3_80_1 : own_dec method_4_code bl3_80_1 = true := by decide +kernel
def bl3_85_1 : List (Nat × Instr × Nat) := [(85, .i2b, 1)]
theorem bd3_85_1 : own_dec method_4_code bl3_85_1 = true := by decide +kernel
def bl3_34_1 : List (Nat × Instr × Nat) := [(34, .iload_n 3, 1)]
theorem bd3_34_1 : own_dec method_4_code bl3_34_1 = true := by decide +kernel
def bl3_18_3 : List (Nat × Instr × Nat) := [(18, .iconst 2, 1), (19, .goto 5, 3), (24, .istore 5, 2)]
theorem bd3_18_3 : own_dec method_4_code bl3_18_3 = true := by decide +kernel
def bl3_54_2 : List (Nat × Instr × Nat) := [(54, .iload 4, 2), (56, .i2b, 1)]
theorem bd3_54_2 : own_dec method_4_code bl3_54_2 = true := by decide +kernel

def f3 (p1 : Int32) (p2 : Int32) (p3 : Int32) (p4 : Int32) : Int32 := (if p1 < p2 then (nar .byte p4) else (if (f2 p3) = (0 : Int32) then (if p1 < (p2 + (6 : Int32)) then (if (p1 - p2) = (0 : Int32) then (92 : Int32) else (if (p1 - p2) = (1 : Int32) then (117 : Int32) else (nar .byte ((f4 ((p3 >>> (((4 : Int32) * ((5 : Int32) - (p1 - p2))) &&& 31)) &&& (15 : Int32))).toInt8.toInt32)))) else (nar .byte p4)) else (if p1 < (p2 + (2 : Int32)) then (if (p1 - p2) = (0 : Int32) then (92 : Int32) else (nar .byte ((f2 p3).toInt8.toInt32))) else (nar .byte p4))))
def Q3 (Z : State) (p1 : Int32) (p2 : Int32) (p3 : Int32) (p4 : Int32) (h0 : Heap) (n0 : Nat) (v : Option Value) (h : Heap) (L : List Loc) : Prop := v = some (.int (f3 p1 p2 p3 p4)) ∧ Fr n0 L ∧ h = h0
set_option maxRecDepth 65536 in
set_option maxHeartbeats 40000000 in
theorem rm3 (l : Launch) (Z : State) (a0 : Array Value) (hw : ∀ d ∈ tables_1, d.before a0 Z = true) (ws : List Jvm.Cond) (p1 : Int32) (p2 : Int32) (p3 : Int32) (p4 : Int32) (h0 : Heap) (n0 : Nat) (Z0 : n0 ≤ h0.size) :
    MetFree l (⟨"com/example/endcon/endcon/rules/LineTextEscapePinLaw", "expectedAt", "(IIIB)B"⟩ : MethodName) (head1 (Jvm.Cond.code (⟨"com/example/endcon/endcon/rules/LineTextEscapePinLaw", "expectedAt", "(IIIB)B"⟩ : MethodName) method_4_code 8 (some .byte) :: ws) ({ frames := 1, cells := 0, slots := 0, locals := 12 } : Room)) (fun a U => a = #[(.int p1), (.int p2), (.int p3), (.int p4)] ∧ Z.Warmed39 U.vm ∧ U.heap = h0) (fun _ _ _ _ _ => True) (fun _ U o U' => ∃ v L, o = .returned v ∧ Q3 Z p1 p2 p3 p4 h0 n0 v U'.heap L ∧ FrameEnd U o U' L ({ frames := 1, cells := 0, slots := 0, locals := 12 } : Room).cells ({ frames := 1, cells := 0, slots := 0, locals := 12 } : Room).slots) := by
  refine MetFree.of_bodySF (plainFor_of_name pn_3) hisR ?_
  intro p e s m args below meth c s₁ Bd hml0 hP hK
  obtain ⟨rfl, hZ, hh⟩ := hP
  have hx := Bd.exec
  have hby := Bd.bytes
  have hml : c.maxLocals = 8 := hml0
  have hown : s.vm.findClass "com/example/endcon/endcon/rules/LineTextEscapePinLaw" = some m.cls := findClass_of_methodNamed Bd.named
  have hnm := (name_of_methodNamed Bd.named Bd.method).1
  have X0 : Stand p l e ({ frames := 1, cells := 0, slots := 0, locals := 12 } : Room) s m #[(.int p1), (.int p2), (.int p3), (.int p4)] below meth c s₁ [] 0 0 := Stand.of_body Bd
  have e0 : s₁.heap = h0 := by rw [← hh, Bd.state]; rfl
  have N0 := Fr.nil n0
  have pre0 : ∀ t, Steps p.tables e below (s₁.setTop (mkF m 0 #[.val (.int p1), .val (.int p2), .val (.int p3), .val (.int p4), .unset, .unset, .unset, .unset] [])) t → Steps p.tables e below (s₁.setTop (entryFrame m #[(.int p1), (.int p2), (.int p3), (.int p4)] 8)) t := fun t k => castTop (ef_3 m p1 p2 p3 p4) k
  have pre1 : ∀ t, Steps p.tables e below (s₁.setTop (mkF m 2 #[.val (.int p1), .val (.int p2), .val (.int p3), .val (.int p4), .unset, .unset, .unset, .unset] [(.int p2), (.int p1)])) t → Steps p.tables e below (s₁.setTop (entryFrame m #[(.int p1), (.int p2), (.int p3), (.int p4)] 8)) t := fun t kt => by
    refine pre0 _ ?_
    show Steps p.tables e below (s₁.setTop (mkF m 0 #[.val (.int p1), .val (.int p2), .val (.int p3), .val (.int p4), .unset, .unset, .unset, .unset] [])) _
    refine own_blk X0 hx bl3_0_2 (own_hb hby bd3_0_2) (pc' := 2) (Ls' := #[.val (.int p1), .val (.int p2), .val (.int p3), .val (.int p4), .unset, .unset, .unset, .unset]) (st' := [(.int p2), (.int p1)]) rfl ?_
    exact kt
  by_cases hc2 : p1 < p2
  · obtain ⟨fs, hr, hrun, hended, hW, hsame⟩ := X0.leave (v := some (.int (nar .byte p4))) (fun h => by rw [Bd.returns] at h; cases h)
    refine ⟨_, _, pre1 _ ?_, hrun, hended, _, _, rfl, ?_, ⟨_, rfl⟩, hW, hsame.mono (by decide) (by decide)⟩
    · show Steps p.tables e below (s₁.setTop (mkF m 2 #[.val (.int p1), .val (.int p2), .val (.int p3), .val (.int p4), .unset, .unset, .unset, .unset] [(.int p2), (.int p1)])) _
      refine XS.icmpNo X0.here hx rfl (hb hby d3_2) rfl (tlt hc2).2.1 ?_
      show Steps p.tables e below (s₁.setTop (mkF m 5 #[.val (.int p1), .val (.int p2), .val (.int p3), .val (.int p4), .unset, .unset, .unset, .unset] [])) _
      refine own_blk X0 hx bl3_5_1 (own_hb hby bd3_5_1) (pc' := 6) (Ls' := #[.val (.int p1), .val (.int p2), .val (.int p3), .val (.int p4), .unset, .unset, .unset, .unset]) (st' := [(.int p4)]) rfl ?_
      exact retN X0 hx (t := .byte) Bd.returns (by simp) (hb hby d3_6) hr
    · show Q3 Z p1 p2 p3 p4 h0 n0 _ s₁.heap _
      rw [e0]
      exact ⟨by rw [f3, if_pos hc2], N0, rfl⟩
  · obtain ⟨_, T3, Lc3, X3, hQ3, st3⟩ := own_callS X0 hx hZ (y := (⟨"com/example/endcon/endcon/rules/LineTextEscapePinLaw", "shortForm", "(I)I"⟩ : MethodName)) hown (hw _ (List.mem_of_getElem? (i := 8) rfl)) (hw _ (List.mem_of_getElem? (i := 9) rfl)) (hw _ (List.mem_of_getElem? (i := 10) rfl)) (hw _ (List.mem_of_getElem? (i := 11) rfl)) (by decide) (W := 0) (argsL := [(.int p3)]) (rest := []) (rm2 l Z a0 hw [] p3 h0 n0 Z0 ) (by decide) (by decide) (c' := 0) (s' := 0) rfl rfl (by decide) (by decide) e0 (g := (mkF m 8 #[.val (.int p1), .val (.int p2), .val (.int p3), .val (.int p4), .unset, .unset, .unset, .unset] [(.int p3)])) rfl (by rw [hml]; rfl) (lenOf pd_3_1 rfl) rfl (by show 2 * 0 + _ ≤ _; exact Nat.le_of_eq rfl) (hb hby d3_8)
    obtain ⟨rfl, N3q, e3⟩ := hQ3
    have N3 := Fr.app N0 N3q
    have pre4 : ∀ t, Steps p.tables e below (T3.setTop (mkF m 15 #[.val (.int p1), .val (.int p2), .val (.int p3), .val (.int p4), .val (.int (f2 p3)), .unset, .unset, .unset] [(.int (f2 p3))])) t → Steps p.tables e below (s₁.setTop (entryFrame m #[(.int p1), (.int p2), (.int p3), (.int p4)] 8)) t := fun t kt => by
      refine pre1 _ ?_
      show Steps p.tables e below (s₁.setTop (mkF m 2 #[.val (.int p1), .val (.int p2), .val (.int p3), .val (.int p4), .unset, .unset, .unset, .unset] [(.int p2), (.int p1)])) _
      refine XS.icmpYes X0.here hx rfl (pc0 := 2) (pc' := 7) rfl (hb hby d3_2) rfl (flt hc2).2.1 (by decide) (by decide) ?_
      show Steps p.tables e below (s₁.setTop (mkF m 7 #[.val (.int p1), .val (.int p2), .val (.int p3), .val (.int p4), .unset, .unset, .unset, .unset] [])) _
      refine own_blk X0 hx bl3_7_1 (own_hb hby bd3_7_1) (pc' := 8) (Ls' := #[.val (.int p1), .val (.int p2), .val (.int p3), .val (.int p4), .unset, .unset, .unset, .unset]) (st' := [(.int p3)]) rfl ?_
      refine st3 _ ?_
      show Steps p.tables e below (T3.setTop (mkF m 11 #[.val (.int p1), .val (.int p2), .val (.int p3), .val (.int p4), .unset, .unset, .unset, .unset] [(.int (f2 p3))])) _
      refine own_blk X3 hx bl3_11_1 (own_hb hby bd3_11_1) (pc' := 13) (Ls' := #[.val (.int p1), .val (.int p2), .val (.int p3), .val (.int p4), .val (.int (f2 p3)), .unset, .unset, .unset]) (st' := []) rfl ?_
      refine own_blk X3 hx bl3_13_1 (own_hb hby bd3_13_1) (pc' := 15) (Ls' := #[.val (.int p1), .val (.int p2), .val (.int p3), .val (.int p4), .val (.int (f2 p3)), .unset, .unset, .unset]) (st' := [(.int (f2 p3))]) rfl ?_
      exact kt
    by_cases hc5 : (f2 p3) = (0 : Int32)
    · have pre6 : ∀ t, Steps p.tables e below (T3.setTop (mkF m 31 #[.val (.int p1), .val (.int p2), .val (.int p3), .val (.int p4), .val (.int (f2 p3)), .val (.int (6 : Int32)), .unset, .unset] [(.int (p2 + (6 : Int32))), (.int p1)])) t → Steps p.tables e below (s₁.setTop (entryFrame m #[(.int p1), (.int p2), (.int p3), (.int p4)] 8)) t := fun t kt => by
        refine pre4 _ ?_
        show Steps p.tables e below (T3.setTop (mkF m 15 #[.val (.int p1), .val (.int p2), .val (.int p3), .val (.int p4), .val (.int (f2 p3)), .unset, .unset, .unset] [(.int (f2 p3))])) _
        refine XS.ifYes X3.here hx rfl (pc0 := 15) (pc' := 22) rfl (hb hby d3_15) rfl ((if0 _ _).trans (teq hc5).1) (by decide) (by decide) ?_
        show Steps p.tables e below (T3.setTop (mkF m 22 #[.val (.int p1), .val (.int p2), .val (.int p3), .val (.int p4), .val (.int (f2 p3)), .unset, .unset, .unset] [])) _
        refine own_blk X3 hx bl3_22_2 (own_hb hby bd3_22_2) (pc' := 26) (Ls' := #[.val (.int p1), .val (.int p2), .val (.int p3), .val (.int p4), .val (.int (f2 p3)), .val (.int (6 : Int32)), .unset, .unset]) (st' := []) rfl ?_
        refine own_blk X3 hx bl3_26_4 (own_hb hby bd3_26_4) (pc' := 31) (Ls' := #[.val (.int p1), .val (.int p2), .val (.int p3), .val (.int p4), .val (.int (f2 p3)), .val (.int (6 : Int32)), .unset, .unset]) (st' := [(.int (p2 + (6 : Int32))), (.int p1)]) rfl ?_
        exact kt
      by_cases hc7 : p1 < (p2 + (6 : Int32))
      · have pre8 : ∀ t, Steps p.tables e below (T3.setTop (mkF m 43 #[.val (.int p1), .val (.int p2), .val (.int p3), .val (.int p4), .val (.int (f2 p3)), .val (.int (6 : Int32)), .val (.int (p1 - p2)), .unset] [(.int (p1 - p2))])) t → Steps p.tables e below (s₁.setTop (entryFrame m #[(.int p1), (.int p2), (.int p3), (.int p4)] 8)) t := fun t kt => by
          refine pre6 _ ?_
          show Steps p.tables e below (T3.setTop (mkF m 31 #[.val (.int p1), .val (.int p2), .val (.int p3), .val (.int p4), .val (.int (f2 p3)), .val (.int (6 : Int32)), .unset, .unset] [(.int (p2 + (6 : Int32))), (.int p1)])) _
          refine XS.icmpYes X3.here hx rfl (pc0 := 31) (pc' := 36) rfl (hb hby d3_31) rfl (tlt hc7).1 (by decide) (by decide) ?_
          show Steps p.tables e below (T3.setTop (mkF m 36 #[.val (.int p1), .val (.int p2), .val (.int p3), .val (.int p4), .val (.int (f2 p3)), .val (.int (6 : Int32)), .unset, .unset] [])) _
          refine own_blk X3 hx bl3_36_4 (own_hb hby bd3_36_4) (pc' := 41) (Ls' := #[.val (.int p1), .val (.int p2), .val (.int p3), .val (.int p4), .val (.int (f2 p3)), .val (.int (6 : Int32)), .val (.int (p1 - p2)), .unset]) (st' := []) rfl ?_
          refine own_blk X3 hx bl3_41_1 (own_hb hby bd3_41_1) (pc' := 43) (Ls' := #[.val (.int p1), .val (.int p2), .val (.int p3), .val (.int p4), .val (.int (f2 p3)), .val (.int (6 : Int32)), .val (.int (p1 - p2)), .unset]) (st' := [(.int (p1 - p2))]) rfl ?_
          exact kt
        by_cases hc9 : (p1 - p2) = (0 : Int32)
        · obtain ⟨fs, hr, hrun, hended, hW, hsame⟩ := X3.leave (v := some (.int (92 : Int32))) (fun h => by rw [Bd.returns] at h; cases h)
          refine ⟨_, _, pre8 _ ?_, hrun, hended, _, _, rfl, ?_, ⟨_, rfl⟩, hW, hsame.mono (by decide) (by decide)⟩
          · show Steps p.tables e below (T3.setTop (mkF m 43 #[.val (.int p1), .val (.int p2), .val (.int p3), .val (.int p4), .val (.int (f2 p3)), .val (.int (6 : Int32)), .val (.int (p1 - p2)), .unset] [(.int (p1 - p2))])) _
            refine XS.ifNo X3.here hx rfl (hb hby d3_43) rfl ((if0 _ _).trans (teq hc9).2) ?_
            show Steps p.tables e below (T3.setTop (mkF m 46 #[.val (.int p1), .val (.int p2), .val (.int p3), .val (.int p4), .val (.int (f2 p3)), .val (.int (6 : Int32)), .val (.int (p1 - p2)), .unset] [])) _
            refine own_blk X3 hx bl3_46_1 (own_hb hby bd3_46_1) (pc' := 48) (Ls' := #[.val (.int p1), .val (.int p2), .val (.int p3), .val (.int p4), .val (.int (f2 p3)), .val (.int (6 : Int32)), .val (.int (p1 - p2)), .unset]) (st' := [(.int (92 : Int32))]) rfl ?_
            exact retN X3 hx (t := .byte) Bd.returns (by simp) (hb hby d3_48) hr
          · show Q3 Z p1 p2 p3 p4 h0 n0 _ T3.heap _
            rw [e3]
            exact ⟨by rw [f3, if_neg hc2, if_pos hc5, if_pos hc7, if_pos hc9], N3, rfl⟩
        · have pre10 : ∀ t, Steps p.tables e below (T3.setTop (mkF m 61 #[.val (.int p1), .val (.int p2), .val (.int p3), .val (.int p4), .val (.int (f2 p3)), .val (.int (6 : Int32)), .val (.int (p1 - p2)), .unset] [(.int (1 : Int32)), (.int (p1 - p2))])) t → Steps p.tables e below (s₁.setTop (entryFrame m #[(.int p1), (.int p2), (.int p3), (.int p4)] 8)) t := fun t kt => by
            refine pre8 _ ?_
            show Steps p.tables e below (T3.setTop (mkF m 43 #[.val (.int p1), .val (.int p2), .val (.int p3), .val (.int p4), .val (.int (f2 p3)), .val (.int (6 : Int32)), .val (.int (p1 - p2)), .unset] [(.int (p1 - p2))])) _
            refine XS.ifYes X3.here hx rfl (pc0 := 43) (pc' := 49) rfl (hb hby d3_43) rfl ((if0 _ _).trans (feq hc9).2) (by decide) (by decide) ?_
            show Steps p.tables e below (T3.setTop (mkF m 49 #[.val (.int p1), .val (.int p2), .val (.int p3), .val (.int p4), .val (.int (f2 p3)), .val (.int (6 : Int32)), .val (.int (p1 - p2)), .unset] [])) _
            refine own_blk X3 hx bl3_49_1 (own_hb hby bd3_49_1) (pc' := 51) (Ls' := #[.val (.int p1), .val (.int p2), .val (.int p3), .val (.int p4), .val (.int (f2 p3)), .val (.int (6 : Int32)), .val (.int (p1 - p2)), .unset]) (st' := [(.int (f2 p3))]) rfl ?_
            refine XS.ifYes X3.here hx rfl (pc0 := 51) (pc' := 58) rfl (hb hby d3_51) rfl ((if0 _ _).trans (teq hc5).1) (by decide) (by decide) ?_
            show Steps p.tables e below (T3.setTop (mkF m 58 #[.val (.int p1), .val (.int p2), .val (.int p3), .val (.int p4), .val (.int (f2 p3)), .val (.int (6 : Int32)), .val (.int (p1 - p2)), .unset] [])) _
            refine own_blk X3 hx bl3_58_2 (own_hb hby bd3_58_2) (pc' := 61) (Ls' := #[.val (.int p1), .val (.int p2), .val (.int p3), .val (.int p4), .val (.int (f2 p3)), .val (.int (6 : Int32)), .val (.int (p1 - p2)), .unset]) (st' := [(.int (1 : Int32)), (.int (p1 - p2))]) rfl ?_
            exact kt
          by_cases hc11 : (p1 - p2) = (1 : Int32)
          · obtain ⟨fs, hr, hrun, hended, hW, hsame⟩ := X3.leave (v := some (.int (117 : Int32))) (fun h => by rw [Bd.returns] at h; cases h)
            refine ⟨_, _, pre10 _ ?_, hrun, hended, _, _, rfl, ?_, ⟨_, rfl⟩, hW, hsame.mono (by decide) (by decide)⟩
            · show Steps p.tables e below (T3.setTop (mkF m 61 #[.val (.int p1), .val (.int p2), .val (.int p3), .val (.int p4), .val (.int (f2 p3)), .val (.int (6 : Int32)), .val (.int (p1 - p2)), .unset] [(.int (1 : Int32)), (.int (p1 - p2))])) _
              refine XS.icmpNo X3.here hx rfl (hb hby d3_61) rfl (teq hc11).2 ?_
              show Steps p.tables e below (T3.setTop (mkF m 64 #[.val (.int p1), .val (.int p2), .val (.int p3), .val (.int p4), .val (.int (f2 p3)), .val (.int (6 : Int32)), .val (.int (p1 - p2)), .unset] [])) _
              refine own_blk X3 hx bl3_64_1 (own_hb hby bd3_64_1) (pc' := 66) (Ls' := #[.val (.int p1), .val (.int p2), .val (.int p3), .val (.int p4), .val (.int (f2 p3)), .val (.int (6 : Int32)), .val (.int (p1 - p2)), .unset]) (st' := [(.int (117 : Int32))]) rfl ?_
              exact retN X3 hx (t := .byte) Bd.returns (by simp) (hb hby d3_66) hr
            · show Q3 Z p1 p2 p3 p4 h0 n0 _ T3.heap _
              rw [e3]
              exact ⟨by rw [f3, if_neg hc2, if_pos hc5, if_pos hc7, if_neg hc9, if_pos hc11], N3, rfl⟩
          · obtain ⟨_, T12, Lc12, X12, hQ12, st12⟩ := own_callS X3 hx hZ (y := (⟨"com/example/endcon/endcon/rules/LineTextEscapePinLaw", "hex", "(I)I"⟩ : MethodName)) hown (hw _ (List.mem_of_getElem? (i := 15) rfl)) (hw _ (List.mem_of_getElem? (i := 16) rfl)) (hw _ (List.mem_of_getElem? (i := 10) rfl)) (hw _ (List.mem_of_getElem? (i := 17) rfl)) (by decide) (W := 0) (argsL := [(.int ((p3 >>> (((4 : Int32) * ((5 : Int32) - (p1 - p2))) &&& 31)) &&& (15 : Int32)))]) (rest := []) (rm4 l Z a0 hw [] ((p3 >>> (((4 : Int32) * ((5 : Int32) - (p1 - p2))) &&& 31)) &&& (15 : Int32)) h0 n0 Z0 ) (by decide) (by decide) (c' := 0) (s' := 0) rfl rfl (by decide) (by decide) e3 (g := (mkF m 82 #[.val (.int p1), .val (.int p2), .val (.int p3), .val (.int p4), .val (.int (f2 p3)), .val (.int (6 : Int32)), .val (.int (p1 - p2)), .val (.int ((p3 >>> (((4 : Int32) * ((5 : Int32) - (p1 - p2))) &&& 31)) &&& (15 : Int32)))] [(.int ((p3 >>> (((4 : Int32) * ((5 : Int32) - (p1 - p2))) &&& 31)) &&& (15 : Int32)))])) rfl (by rw [hml]; rfl) (lenOf pd_3_1 rfl) rfl (by show 2 * 0 + _ ≤ _; exact Nat.le_of_eq rfl) (hb hby d3_82)
            obtain ⟨rfl, N12q, e12⟩ := hQ12
            have N12 := Fr.app N3 N12q
            obtain ⟨fs, hr, hrun, hended, hW, hsame⟩ := X12.leave (v := some (.int (nar .byte ((f4 ((p3 >>> (((4 : Int32) * ((5 : Int32) - (p1 - p2))) &&& 31)) &&& (15 : Int32))).toInt8.toInt32)))) (fun h => by rw [Bd.returns] at h; cases h)
            refine ⟨_, _, pre10 _ ?_, hrun, hended, _, _, rfl, ?_, ⟨_, rfl⟩, hW, hsame.mono (by decide) (by decide)⟩
            · show Steps p.tables e below (T3.setTop (mkF m 61 #[.val (.int p1), .val (.int p2), .val (.int p3), .val (.int p4), .val (.int (f2 p3)), .val (.int (6 : Int32)), .val (.int (p1 - p2)), .unset] [(.int (1 : Int32)), (.int (p1 - p2))])) _
              refine XS.icmpYes X3.here hx rfl (pc0 := 61) (pc' := 67) rfl (hb hby d3_61) rfl (feq hc11).2 (by decide) (by decide) ?_
              show Steps p.tables e below (T3.setTop (mkF m 67 #[.val (.int p1), .val (.int p2), .val (.int p3), .val (.int p4), .val (.int (f2 p3)), .val (.int (6 : Int32)), .val (.int (p1 - p2)), .unset] [])) _
              refine own_blk X3 hx bl3_67_10 (own_hb hby bd3_67_10) (pc' := 80) (Ls' := #[.val (.int p1), .val (.int p2), .val (.int p3), .val (.int p4), .val (.int (f2 p3)), .val (.int (6 : Int32)), .val (.int (p1 - p2)), .val (.int ((p3 >>> (((4 : Int32) * ((5 : Int32) - (p1 - p2))) &&& 31)) &&& (15 : Int32)))]) (st' := []) rfl ?_
              refine own_blk X3 hx bl3_80_1 (own_hb hby bd3_80_1) (pc' := 82) (Ls' := #[.val (.int p1), .val (.int p2), .val (.int p3), .val (.int p4), .val (.int (f2 p3)), .val (.int (6 : Int32)), .val (.int (p1 - p2)), .val (.int ((p3 >>> (((4 : Int32) * ((5 : Int32) - (p1 - p2))) &&& 31)) &&& (15 : Int32)))]) (st' := [(.int ((p3 >>> (((4 : Int32) * ((5 : Int32) - (p1 - p2))) &&& 31)) &&& (15 : Int32)))]) rfl ?_
              refine st12 _ ?_
              show Steps p.tables e below (T12.setTop (mkF m 85 #[.val (.int p1), .val (.int p2), .val (.int p3), .val (.int p4), .val (.int (f2 p3)), .val (.int (6 : Int32)), .val (.int (p1 - p2)), .val (.int ((p3 >>> (((4 : Int32) * ((5 : Int32) - (p1 - p2))) &&& 31)) &&& (15 : Int32)))] [(.int (f4 ((p3 >>> (((4 : Int32) * ((5 : Int32) - (p1 - p2))) &&& 31)) &&& (15 : Int32))))])) _
              refine own_blk X12 hx bl3_85_1 (own_hb hby bd3_85_1) (pc' := 86) (Ls' := #[.val (.int p1), .val (.int p2), .val (.int p3), .val (.int p4), .val (.int (f2 p3)), .val (.int (6 : Int32)), .val (.int (p1 - p2)), .val (.int ((p3 >>> (((4 : Int32) * ((5 : Int32) - (p1 - p2))) &&& 31)) &&& (15 : Int32)))]) (st' := [(.int ((f4 ((p3 >>> (((4 : Int32) * ((5 : Int32) - (p1 - p2))) &&& 31)) &&& (15 : Int32))).toInt8.toInt32))]) rfl ?_
              exact retN X12 hx (t := .byte) Bd.returns (by simp) (hb hby d3_86) hr
            · show Q3 Z p1 p2 p3 p4 h0 n0 _ T12.heap _
              rw [e12]
              exact ⟨by rw [f3, if_neg hc2, if_pos hc5, if_pos hc7, if_neg hc9, if_neg hc11], N12, rfl⟩
      · obtain ⟨fs, hr, hrun, hended, hW, hsame⟩ := X3.leave (v := some (.int (nar .byte p4))) (fun h => by rw [Bd.returns] at h; cases h)
        refine ⟨_, _, pre6 _ ?_, hrun, hended, _, _, rfl, ?_, ⟨_, rfl⟩, hW, hsame.mono (by decide) (by decide)⟩
        · show Steps p.tables e below (T3.setTop (mkF m 31 #[.val (.int p1), .val (.int p2), .val (.int p3), .val (.int p4), .val (.int (f2 p3)), .val (.int (6 : Int32)), .unset, .unset] [(.int (p2 + (6 : Int32))), (.int p1)])) _
          refine XS.icmpNo X3.here hx rfl (hb hby d3_31) rfl (flt hc7).1 ?_
          show Steps p.tables e below (T3.setTop (mkF m 34 #[.val (.int p1), .val (.int p2), .val (.int p3), .val (.int p4), .val (.int (f2 p3)), .val (.int (6 : Int32)), .unset, .unset] [])) _
          refine own_blk X3 hx bl3_34_1 (own_hb hby bd3_34_1) (pc' := 35) (Ls' := #[.val (.int p1), .val (.int p2), .val (.int p3), .val (.int p4), .val (.int (f2 p3)), .val (.int (6 : Int32)), .unset, .unset]) (st' := [(.int p4)]) rfl ?_
          exact retN X3 hx (t := .byte) Bd.returns (by simp) (hb hby d3_35) hr
        · show Q3 Z p1 p2 p3 p4 h0 n0 _ T3.heap _
          rw [e3]
          exact ⟨by rw [f3, if_neg hc2, if_pos hc5, if_neg hc7], N3, rfl⟩
    · have pre13 : ∀ t, Steps p.tables e below (T3.setTop (mkF m 31 #[.val (.int p1), .val (.int p2), .val (.int p3), .val (.int p4), .val (.int (f2 p3)), .val (.int (2 : Int32)), .unset, .unset] [(.int (p2 + (2 : Int32))), (.int p1)])) t → Steps p.tables e below (s₁.setTop (entryFrame m #[(.int p1), (.int p2), (.int p3), (.int p4)] 8)) t := fun t kt => by
        refine pre4 _ ?_
        show Steps p.tables e below (T3.setTop (mkF m 15 #[.val (.int p1), .val (.int p2), .val (.int p3), .val (.int p4), .val (.int (f2 p3)), .unset, .unset, .unset] [(.int (f2 p3))])) _
        refine XS.ifNo X3.here hx rfl (hb hby d3_15) rfl ((if0 _ _).trans (feq hc5).1) ?_
        show Steps p.tables e below (T3.setTop (mkF m 18 #[.val (.int p1), .val (.int p2), .val (.int p3), .val (.int p4), .val (.int (f2 p3)), .unset, .unset, .unset] [])) _
        refine own_blk X3 hx bl3_18_3 (own_hb hby bd3_18_3) (pc' := 26) (Ls' := #[.val (.int p1), .val (.int p2), .val (.int p3), .val (.int p4), .val (.int (f2 p3)), .val (.int (2 : Int32)), .unset, .unset]) (st' := []) rfl ?_
        refine own_blk X3 hx bl3_26_4 (own_hb hby bd3_26_4) (pc' := 31) (Ls' := #[.val (.int p1), .val (.int p2), .val (.int p3), .val (.int p4), .val (.int (f2 p3)), .val (.int (2 : Int32)), .unset, .unset]) (st' := [(.int (p2 + (2 : Int32))), (.int p1)]) rfl ?_
        exact kt
      by_cases hc14 : p1 < (p2 + (2 : Int32))
      · have pre15 : ∀ t, Steps p.tables e below (T3.setTop (mkF m 43 #[.val (.int p1), .val (.int p2), .val (.int p3), .val (.int p4), .val (.int (f2 p3)), .val (.int (2 : Int32)), .val (.int (p1 - p2)), .unset] [(.int (p1 - p2))])) t → Steps p.tables e below (s₁.setTop (entryFrame m #[(.int p1), (.int p2), (.int p3), (.int p4)] 8)) t := fun t kt => by
          refine pre13 _ ?_
          show Steps p.tables e below (T3.setTop (mkF m 31 #[.val (.int p1), .val (.int p2), .val (.int p3), .val (.int p4), .val (.int (f2 p3)), .val (.int (2 : Int32)), .unset, .unset] [(.int (p2 + (2 : Int32))), (.int p1)])) _
          refine XS.icmpYes X3.here hx rfl (pc0 := 31) (pc' := 36) rfl (hb hby d3_31) rfl (tlt hc14).1 (by decide) (by decide) ?_
          show Steps p.tables e below (T3.setTop (mkF m 36 #[.val (.int p1), .val (.int p2), .val (.int p3), .val (.int p4), .val (.int (f2 p3)), .val (.int (2 : Int32)), .unset, .unset] [])) _
          refine own_blk X3 hx bl3_36_4 (own_hb hby bd3_36_4) (pc' := 41) (Ls' := #[.val (.int p1), .val (.int p2), .val (.int p3), .val (.int p4), .val (.int (f2 p3)), .val (.int (2 : Int32)), .val (.int (p1 - p2)), .unset]) (st' := []) rfl ?_
          refine own_blk X3 hx bl3_41_1 (own_hb hby bd3_41_1) (pc' := 43) (Ls' := #[.val (.int p1), .val (.int p2), .val (.int p3), .val (.int p4), .val (.int (f2 p3)), .val (.int (2 : Int32)), .val (.int (p1 - p2)), .unset]) (st' := [(.int (p1 - p2))]) rfl ?_
          exact kt
        by_cases hc16 : (p1 - p2) = (0 : Int32)
        · obtain ⟨fs, hr, hrun, hended, hW, hsame⟩ := X3.leave (v := some (.int (92 : Int32))) (fun h => by rw [Bd.returns] at h; cases h)
          refine ⟨_, _, pre15 _ ?_, hrun, hended, _, _, rfl, ?_, ⟨_, rfl⟩, hW, hsame.mono (by decide) (by decide)⟩
          · show Steps p.tables e below (T3.setTop (mkF m 43 #[.val (.int p1), .val (.int p2), .val (.int p3), .val (.int p4), .val (.int (f2 p3)), .val (.int (2 : Int32)), .val (.int (p1 - p2)), .unset] [(.int (p1 - p2))])) _
            refine XS.ifNo X3.here hx rfl (hb hby d3_43) rfl ((if0 _ _).trans (teq hc16).2) ?_
            show Steps p.tables e below (T3.setTop (mkF m 46 #[.val (.int p1), .val (.int p2), .val (.int p3), .val (.int p4), .val (.int (f2 p3)), .val (.int (2 : Int32)), .val (.int (p1 - p2)), .unset] [])) _
            refine own_blk X3 hx bl3_46_1 (own_hb hby bd3_46_1) (pc' := 48) (Ls' := #[.val (.int p1), .val (.int p2), .val (.int p3), .val (.int p4), .val (.int (f2 p3)), .val (.int (2 : Int32)), .val (.int (p1 - p2)), .unset]) (st' := [(.int (92 : Int32))]) rfl ?_
            exact retN X3 hx (t := .byte) Bd.returns (by simp) (hb hby d3_48) hr
          · show Q3 Z p1 p2 p3 p4 h0 n0 _ T3.heap _
            rw [e3]
            exact ⟨by rw [f3, if_neg hc2, if_neg hc5, if_pos hc14, if_pos hc16], N3, rfl⟩
        · obtain ⟨fs, hr, hrun, hended, hW, hsame⟩ := X3.leave (v := some (.int (nar .byte ((f2 p3).toInt8.toInt32)))) (fun h => by rw [Bd.returns] at h; cases h)
          refine ⟨_, _, pre15 _ ?_, hrun, hended, _, _, rfl, ?_, ⟨_, rfl⟩, hW, hsame.mono (by decide) (by decide)⟩
          · show Steps p.tables e below (T3.setTop (mkF m 43 #[.val (.int p1), .val (.int p2), .val (.int p3), .val (.int p4), .val (.int (f2 p3)), .val (.int (2 : Int32)), .val (.int (p1 - p2)), .unset] [(.int (p1 - p2))])) _
            refine XS.ifYes X3.here hx rfl (pc0 := 43) (pc' := 49) rfl (hb hby d3_43) rfl ((if0 _ _).trans (feq hc16).2) (by decide) (by decide) ?_
            show Steps p.tables e below (T3.setTop (mkF m 49 #[.val (.int p1), .val (.int p2), .val (.int p3), .val (.int p4), .val (.int (f2 p3)), .val (.int (2 : Int32)), .val (.int (p1 - p2)), .unset] [])) _
            refine own_blk X3 hx bl3_49_1 (own_hb hby bd3_49_1) (pc' := 51) (Ls' := #[.val (.int p1), .val (.int p2), .val (.int p3), .val (.int p4), .val (.int (f2 p3)), .val (.int (2 : Int32)), .val (.int (p1 - p2)), .unset]) (st' := [(.int (f2 p3))]) rfl ?_
            refine XS.ifNo X3.here hx rfl (hb hby d3_51) rfl ((if0 _ _).trans (feq hc5).1) ?_
            show Steps p.tables e below (T3.setTop (mkF m 54 #[.val (.int p1), .val (.int p2), .val (.int p3), .val (.int p4), .val (.int (f2 p3)), .val (.int (2 : Int32)), .val (.int (p1 - p2)), .unset] [])) _
            refine own_blk X3 hx bl3_54_2 (own_hb hby bd3_54_2) (pc' := 57) (Ls' := #[.val (.int p1), .val (.int p2), .val (.int p3), .val (.int p4), .val (.int (f2 p3)), .val (.int (2 : Int32)), .val (.int (p1 - p2)), .unset]) (st' := [(.int ((f2 p3).toInt8.toInt32))]) rfl ?_
            exact retN X3 hx (t := .byte) Bd.returns (by simp) (hb hby d3_57) hr
          · show Q3 Z p1 p2 p3 p4 h0 n0 _ T3.heap _
            rw [e3]
            exact ⟨by rw [f3, if_neg hc2, if_neg hc5, if_pos hc14, if_neg hc16], N3, rfl⟩
      · obtain ⟨fs, hr, hrun, hended, hW, hsame⟩ := X3.leave (v := some (.int (nar .byte p4))) (fun h => by rw [Bd.returns] at h; cases h)
        refine ⟨_, _, pre13 _ ?_, hrun, hended, _, _, rfl, ?_, ⟨_, rfl⟩, hW, hsame.mono (by decide) (by decide)⟩
        · show Steps p.tables e below (T3.setTop (mkF m 31 #[.val (.int p1), .val (.int p2), .val (.int p3), .val (.int p4), .val (.int (f2 p3)), .val (.int (2 : Int32)), .unset, .unset] [(.int (p2 + (2 : Int32))), (.int p1)])) _
          refine XS.icmpNo X3.here hx rfl (hb hby d3_31) rfl (flt hc14).1 ?_
          show Steps p.tables e below (T3.setTop (mkF m 34 #[.val (.int p1), .val (.int p2), .val (.int p3), .val (.int p4), .val (.int (f2 p3)), .val (.int (2 : Int32)), .unset, .unset] [])) _
          refine own_blk X3 hx bl3_34_1 (own_hb hby bd3_34_1) (pc' := 35) (Ls' := #[.val (.int p1), .val (.int p2), .val (.int p3), .val (.int p4), .val (.int (f2 p3)), .val (.int (2 : Int32)), .unset, .unset]) (st' := [(.int p4)]) rfl ?_
          exact retN X3 hx (t := .byte) Bd.returns (by simp) (hb hby d3_35) hr
        · show Q3 Z p1 p2 p3 p4 h0 n0 _ T3.heap _
          rw [e3]
          exact ⟨by rw [f3, if_neg hc2, if_neg hc5, if_neg hc14], N3, rfl⟩
def own_tab (j : Int32) : Int32 := if j < 10 then j + 48 else j + 87
theorem own_out8_13 {x : Int32} (h8 : ¬ x = 8) (h9 : ¬ x = 9) (h10 : ¬ x = 10) (h11 : ¬ x = 11) (h12 : ¬ x = 12) (h13 : ¬ x = 13) : x.toInt < 8 ∨ x.toInt > 13 := by
  have l8 : (8 : Int32).toInt = 8 := by decide
  have l9 : (9 : Int32).toInt = 9 := by decide
  have l10 : (10 : Int32).toInt = 10 := by decide
  have l11 : (11 : Int32).toInt = 11 := by decide
  have l12 : (12 : Int32).toInt = 12 := by decide
  have l13 : (13 : Int32).toInt = 13 := by decide
  simp only [← Int32.toInt_inj, l8, l9, l10, l11, l12, l13] at *
  omega
theorem own_sh12 (x : Int32) (h0 : ¬ x < 0) (h1 : x < 65536) : ¬ (x >>> ((12 : Int32) &&& 31)) < 0 ∧ (x >>> ((12 : Int32) &&& 31)) < 16 := by
  have l0 : (0 : Int32).toInt = 0 := by decide
  have l16 : (16 : Int32).toInt = 16 := by decide
  have l65536 : (65536 : Int32).toInt = 65536 := by decide
  have q := c_ishr x 12 12 (by decide)
  simp only [Int32.lt_iff_toInt_lt, l0, l16, l65536, q] at *
  omega
theorem own_m15 (x : Int32) : ¬ (x &&& (15 : Int32)) < 0 ∧ (x &&& (15 : Int32)) < 16 := by
  have l0 : (0 : Int32).toInt = 0 := by decide
  have l16 : (16 : Int32).toInt = 16 := by decide
  have q := c_mask x 15 4 (by decide) (by decide)
  simp only [Int32.lt_iff_toInt_lt, l0, l16, q] at *
  omega
theorem d1_0 : decode prog_84_method_3_code 0 = .ok (.aload_n 1, 1) := by decide +kernel
theorem d1_1 : decode prog_84_method_3_code 1 = .ok (.iload_n 2, 1) := by decide +kernel
theorem d1_2 : decode prog_84_method_3_code 2 = .ok (.bipush 92, 2) := by decide +kernel
theorem d1_4 : decode prog_84_method_3_code 4 = .ok (.bastore, 1) := by decide +kernel
theorem d1_5 : decode prog_84_method_3_code 5 = .ok (.iload_n 0, 1) := by decide +kernel
theorem d1_6 : decode prog_84_method_3_code 6 = .ok (.tableswitch 63 8 13 #[38, 43, 48, 63, 53, 58], 38) := by decide +kernel
theorem d1_44 : decode prog_84_method_3_code 44 = .ok (.bipush 98, 2) := by decide +kernel
theorem d1_46 : decode prog_84_method_3_code 46 = .ok (.goto 24, 3) := by decide +kernel
theorem d1_49 : decode prog_84_method_3_code 49 = .ok (.bipush 116, 2) := by decide +kernel
theorem d1_51 : decode prog_84_method_3_code 51 = .ok (.goto 19, 3) := by decide +kernel
theorem d1_54 : decode prog_84_method_3_code 54 = .ok (.bipush 110, 2) := by decide +kernel
theorem d1_56 : decode prog_84_method_3_code 56 = .ok (.goto 14, 3) := by decide +kernel
theorem d1_59 : decode prog_84_method_3_code 59 = .ok (.bipush 102, 2) := by decide +kernel
theorem d1_61 : decode prog_84_method_3_code 61 = .ok (.goto 9, 3) := by decide +kernel
theorem d1_64 : decode prog_84_method_3_code 64 = .ok (.bipush 114, 2) := by decide +kernel
theorem d1_66 : decode prog_84_method_3_code 66 = .ok (.goto 4, 3) := by decide +kernel
theorem d1_69 : decode prog_84_method_3_code 69 = .ok (.iconst 0, 1) := by decide +kernel
theorem d1_70 : decode prog_84_method_3_code 70 = .ok (.istore_n 3, 1) := by decide +kernel
theorem d1_71 : decode prog_84_method_3_code 71 = .ok (.iload_n 3, 1) := by decide +kernel
theorem d1_72 : decode prog_84_method_3_code 72 = .ok (.ifCond .eq 17, 3) := by decide +kernel
theorem d1_75 : decode prog_84_method_3_code 75 = .ok (.aload_n 1, 1) := by decide +kernel
theorem d1_76 : decode prog_84_method_3_code 76 = .ok (.iload_n 2, 1) := by decide +kernel
theorem d1_77 : decode prog_84_method_3_code 77 = .ok (.iconst 1, 1) := by decide +kernel
theorem d1_78 : decode prog_84_method_3_code 78 = .ok (.iadd, 1) := by decide +kernel
theorem d1_79 : decode prog_84_method_3_code 79 = .ok (.iload_n 3, 1) := by decide +kernel
theorem d1_80 : decode prog_84_method_3_code 80 = .ok (.bastore, 1) := by decide +kernel
theorem d1_81 : decode prog_84_method_3_code 81 = .ok (.iload_n 2, 1) := by decide +kernel
theorem d1_82 : decode prog_84_method_3_code 82 = .ok (.iconst 2, 1) := by decide +kernel
theorem d1_83 : decode prog_84_method_3_code 83 = .ok (.iadd, 1) := by decide +kernel
theorem d1_84 : decode prog_84_method_3_code 84 = .ok (.istore 4, 2) := by decide +kernel
theorem d1_86 : decode prog_84_method_3_code 86 = .ok (.goto 73, 3) := by decide +kernel
theorem d1_89 : decode prog_84_method_3_code 89 = .ok (.aload_n 1, 1) := by decide +kernel
theorem d1_90 : decode prog_84_method_3_code 90 = .ok (.iload_n 2, 1) := by decide +kernel
theorem d1_91 : decode prog_84_method_3_code 91 = .ok (.iconst 1, 1) := by decide +kernel
theorem d1_92 : decode prog_84_method_3_code 92 = .ok (.iadd, 1) := by decide +kernel
theorem d1_93 : decode prog_84_method_3_code 93 = .ok (.bipush 117, 2) := by decide +kernel
theorem d1_95 : decode prog_84_method_3_code 95 = .ok (.bastore, 1) := by decide +kernel
theorem d1_96 : decode prog_84_method_3_code 96 = .ok (.aload_n 1, 1) := by decide +kernel
theorem d1_97 : decode prog_84_method_3_code 97 = .ok (.iload_n 2, 1) := by decide +kernel
theorem d1_98 : decode prog_84_method_3_code 98 = .ok (.iconst 2, 1) := by decide +kernel
theorem d1_99 : decode prog_84_method_3_code 99 = .ok (.iadd, 1) := by decide +kernel
theorem d1_100 : decode prog_84_method_3_code 100 = .ok (.getstatic 13, 3) := by decide +kernel
theorem d1_103 : decode prog_84_method_3_code 103 = .ok (.iload_n 0, 1) := by decide +kernel
theorem d1_104 : decode prog_84_method_3_code 104 = .ok (.bipush 12, 2) := by decide +kernel
theorem d1_106 : decode prog_84_method_3_code 106 = .ok (.ishr, 1) := by decide +kernel
theorem d1_107 : decode prog_84_method_3_code 107 = .ok (.baload, 1) := by decide +kernel
theorem d1_108 : decode prog_84_method_3_code 108 = .ok (.bastore, 1) := by decide +kernel
theorem d1_109 : decode prog_84_method_3_code 109 = .ok (.aload_n 1, 1) := by decide +kernel
theorem d1_110 : decode prog_84_method_3_code 110 = .ok (.iload_n 2, 1) := by decide +kernel
theorem d1_111 : decode prog_84_method_3_code 111 = .ok (.iconst 3, 1) := by decide +kernel
theorem d1_112 : decode prog_84_method_3_code 112 = .ok (.iadd, 1) := by decide +kernel
theorem d1_113 : decode prog_84_method_3_code 113 = .ok (.getstatic 13, 3) := by decide +kernel
theorem d1_116 : decode prog_84_method_3_code 116 = .ok (.iload_n 0, 1) := by decide +kernel
theorem d1_117 : decode prog_84_method_3_code 117 = .ok (.bipush 8, 2) := by decide +kernel
theorem d1_119 : decode prog_84_method_3_code 119 = .ok (.ishr, 1) := by decide +kernel
theorem d1_120 : decode prog_84_method_3_code 120 = .ok (.bipush 15, 2) := by decide +kernel
theorem d1_122 : decode prog_84_method_3_code 122 = .ok (.iand, 1) := by decide +kernel
theorem d1_123 : decode prog_84_method_3_code 123 = .ok (.baload, 1) := by decide +kernel
theorem d1_124 : decode prog_84_method_3_code 124 = .ok (.bastore, 1) := by decide +kernel
theorem d1_125 : decode prog_84_method_3_code 125 = .ok (.aload_n 1, 1) := by decide +kernel
theorem d1_126 : decode prog_84_method_3_code 126 = .ok (.iload_n 2, 1) := by decide +kernel
theorem d1_127 : decode prog_84_method_3_code 127 = .ok (.iconst 4, 1) := by decide +kernel
theorem d1_128 : decode prog_84_method_3_code 128 = .ok (.iadd, 1) := by decide +kernel
theorem d1_129 : decode prog_84_method_3_code 129 = .ok (.getstatic 13, 3) := by decide +kernel
theorem d1_132 : decode prog_84_method_3_code 132 = .ok (.iload_n 0, 1) := by decide +kernel
theorem d1_133 : decode prog_84_method_3_code 133 = .ok (.iconst 4, 1) := by decide +kernel
theorem d1_134 : decode prog_84_method_3_code 134 = .ok (.ishr, 1) := by decide +kernel
theorem d1_135 : decode prog_84_method_3_code 135 = .ok (.bipush 15, 2) := by decide +kernel
theorem d1_137 : decode prog_84_method_3_code 137 = .ok (.iand, 1) := by decide +kernel
theorem d1_138 : decode prog_84_method_3_code 138 = .ok (.baload, 1) := by decide +kernel
theorem d1_139 : decode prog_84_method_3_code 139 = .ok (.bastore, 1) := by decide +kernel
theorem d1_140 : decode prog_84_method_3_code 140 = .ok (.aload_n 1, 1) := by decide +kernel
theorem d1_141 : decode prog_84_method_3_code 141 = .ok (.iload_n 2, 1) := by decide +kernel
theorem d1_142 : decode prog_84_method_3_code 142 = .ok (.iconst 5, 1) := by decide +kernel
theorem d1_143 : decode prog_84_method_3_code 143 = .ok (.iadd, 1) := by decide +kernel
theorem d1_144 : decode prog_84_method_3_code 144 = .ok (.getstatic 13, 3) := by decide +kernel
theorem d1_147 : decode prog_84_method_3_code 147 = .ok (.iload_n 0, 1) := by decide +kernel
theorem d1_148 : decode prog_84_method_3_code 148 = .ok (.bipush 15, 2) := by decide +kernel
theorem d1_150 : decode prog_84_method_3_code 150 = .ok (.iand, 1) := by decide +kernel
theorem d1_151 : decode prog_84_method_3_code 151 = .ok (.baload, 1) := by decide +kernel
theorem d1_152 : decode prog_84_method_3_code 152 = .ok (.bastore, 1) := by decide +kernel
theorem d1_153 : decode prog_84_method_3_code 153 = .ok (.iload_n 2, 1) := by decide +kernel
theorem d1_154 : decode prog_84_method_3_code 154 = .ok (.bipush 6, 2) := by decide +kernel
theorem d1_156 : decode prog_84_method_3_code 156 = .ok (.iadd, 1) := by decide +kernel
theorem d1_157 : decode prog_84_method_3_code 157 = .ok (.istore 4, 2) := by decide +kernel
theorem d1_159 : decode prog_84_method_3_code 159 = .ok (.iload 4, 2) := by decide +kernel
theorem d1_161 : decode prog_84_method_3_code 161 = .ok (.ireturn, 1) := by decide +kernel
theorem pn_1 : plainName "com/example/endcon/endcon/rules/LineText" = true := by first | (simp [plainName, overriddenIn]; done) | decide +kernel
theorem ef_1 (m : MethodId) (x0 : Int32) (x1 : Addr) (x2 : Int32) : entryFrame m #[(.int x0), (.ref x1), (.int x2)] 5 = mkF m 0 #[.val (.int x0), .val (.ref x1), .val (.int x2), .unset, .unset] [] := by first | (simp [entryFrame, mkF, argsToLocals, Value.category]; done) | rfl
def bl1_0_3 : List (Nat × Instr × Nat) := [(0, .aload_n 1, 1), (1, .iload_n 2, 1), (2, .bipush 92, 2)]
theorem bd1_0_3 : own_dec prog_84_method_3_code bl1_0_3 = true := by decide +kernel
def bl1_5_1 : List (Nat × Instr × Nat) := [(5, .iload_n 0, 1)]
theorem bd1_5_1 : own_dec prog_84_method_3_code bl1_5_1 = true := by decide +kernel
def bl1_44_3 : List (Nat × Instr × Nat) := [(44, .bipush 98, 2), (46, .goto 24, 3), (70, .istore_n 3, 1)]
theorem bd1_44_3 : own_dec prog_84_method_3_code bl1_44_3 = true := by decide +kernel
def bl1_71_1 : List (Nat × Instr × Nat) := [(71, .iload_n 3, 1)]
theorem bd1_71_1 : own_dec prog_84_method_3_code bl1_71_1 = true := by decide +kernel
def bl1_75_5 : List (Nat × Instr × Nat) := [(75, .aload_n 1, 1), (76, .iload_n 2, 1), (77, .iconst 1, 1), (78, .iadd, 1), (79, .iload_n 3, 1)]
theorem bd1_75_5 : own_dec prog_84_method_3_code bl1_75_5 = true := by decide +kernel
def bl1_81_4 : List (Nat × Instr × Nat) := [(81, .iload_n 2, 1), (82, .iconst 2, 1), (83, .iadd, 1), (84, .istore 4, 2)]
theorem bd1_81_4 : own_dec prog_84_method_3_code bl1_81_4 = true := by decide +kernel
def bl1_86_2 : List (Nat × Instr × Nat) := [(86, .goto 73, 3), (159, .iload 4, 2)]
theorem bd1_86_2 : own_dec prog_84_method_3_code bl1_86_2 = true := by decide +kernel
def bl1_49_3 : List (Nat × Instr × Nat) := [(49, .bipush 116, 2), (51, .goto 19, 3), (70, .istore_n 3, 1)]
theorem bd1_49_3 : own_dec prog_84_method_3_code bl1_49_3 = true := by decide +kernel
def bl1_54_3 : List (Nat × Instr × Nat) := [(54, .bipush 110, 2), (56, .goto 14, 3), (70, .istore_n 3, 1)]
theorem bd1_54_3 : own_dec prog_84_method_3_code bl1_54_3 = true := by decide +kernel
def bl1_69_2 : List (Nat × Instr × Nat) := [(69, .iconst 0, 1), (70, .istore_n 3, 1)]
theorem bd1_69_2 : own_dec prog_84_method_3_code bl1_69_2 = true := by decide +kernel
def bl1_89_5 : List (Nat × Instr × Nat) := [(89, .aload_n 1, 1), (90, .iload_n 2, 1), (91, .iconst 1, 1), (92, .iadd, 1), (93, .bipush 117, 2)]
theorem bd1_89_5 : own_dec prog_84_method_3_code bl1_89_5 = true := by decide +kernel
def bl1_96_4 : List (Nat × Instr × Nat) := [(96, .aload_n 1, 1), (97, .iload_n 2, 1), (98, .iconst 2, 1), (99, .iadd, 1)]
theorem bd1_96_4 : own_dec prog_84_method_3_code bl1_96_4 = true := by decide +kernel
def bl1_103_3 : List (Nat × Instr × Nat) := [(103, .iload_n 0, 1), (104, .bipush 12, 2), (106, .ishr, 1)]
theorem bd1_103_3 : own_dec prog_84_method_3_code bl1_103_3 = true := by decide +kernel
def bl1_109_4 : List (Nat × Instr × Nat) := [(109, .aload_n 1, 1), (110, .iload_n 2, 1), (111, .iconst 3, 1), (112, .iadd, 1)]
theorem bd1_109_4 : own_dec prog_84_method_3_code bl1_109_4 = true := by decide +kernel
def bl1_116_5 : List (Nat × Instr × Nat) := [(116, .iload_n 0, 1), (117, .bipush 8, 2), (119, .ishr, 1), (120, .bipush 15, 2), (122, .iand, 1)]
theorem bd1_116_5 : own_dec prog_84_method_3_code bl1_116_5 = true := by decide +kernel
def bl1_125_4 : List (Nat × Instr × Nat) := [(125, .aload_n 1, 1), (126, .iload_n 2, 1), (127, .iconst 4, 1), (128, .iadd, 1)]
theorem bd1_125_4 : own_dec prog_84_method_3_code bl1_125_4 = true := by decide +kernel
def bl1_132_5 : List (Nat × Instr × Nat) := [(132, .iload_n 0, 1), (133, .iconst 4, 1), (134, .ishr, 1), (135, .bipush 15, 2), (137, .iand, 1)]
theorem bd1_132_5 : own_dec prog_84_method_3_code bl1_132_5 = true := by decide +kernel
def bl1_140_4 : List (Nat × Instr × Nat) := [(140, .aload_n 1, 1), (141, .iload_n 2, 1), (142, .iconst 5, 1), (143, .iadd, 1)]
theorem bd1_140_4 : own_dec prog_84_method_3_code bl1_140_4 = true := by decide +kernel
def bl1_147_3 : List (Nat × Instr × Nat) := [(147, .iload_n 0, 1), (148, .bipush 15, 2), (150, .iand, 1)]
theorem bd1_147_3 : own_dec prog_84_method_3_code bl1_147_3 = true := by decide +kernel
def bl1_153_4 : List (Nat × Instr × Nat) := [(153, .iload_n 2, 1), (154, .bipush 6, 2), (156, .iadd, 1), (157, .istore 4, 2)]
theorem bd1_153_4 : own_dec prog_84_method_3_code bl1_153_4 = true := by decide +kernel
def bl1_159_1 : List (Nat × Instr × Nat) := [(159, .iload 4, 2)]
theorem bd1_159_1 : own_dec prog_84_method_3_code bl1_159_1 = true := by decide +kernel
def bl1_59_3 : List (Nat × Instr × Nat) := [(59, .bipush 102, 2), (61, .goto 9, 3), (70, .istore_n 3, 1)]
theorem bd1_59_3 : own_dec prog_84_method_3_code bl1_59_3 = true := by decide +kernel
def bl1_64_3 : List (Nat × Instr × Nat) := [(64, .bipush 114, 2), (66, .goto 4, 3), (70, .istore_n 3, 1)]
theorem bd1_64_3 : own_dec prog_84_method_3_code bl1_64_3 = true := by decide +kernel

def f1_0 (p1 : Int32) (u : Int32) : Int32 := (if p1 = (8 : Int32) then (2 : Int32) else (if p1 = (9 : Int32) then (2 : Int32) else (if p1 = (10 : Int32) then (2 : Int32) else (if p1 = (11 : Int32) then (6 : Int32) else (if p1 = (12 : Int32) then (2 : Int32) else (if p1 = (13 : Int32) then (2 : Int32) else (6 : Int32)))))))
def f1_0_a2_0 (p1 : Int32) (u : Int32) : Int32 := (nar .byte (92 : Int32))
def f1_0_a2_1 (p1 : Int32) (u : Int32) : Int32 := (if p1 = (8 : Int32) then (nar .byte (98 : Int32)) else (if p1 = (9 : Int32) then (nar .byte (116 : Int32)) else (if p1 = (10 : Int32) then (nar .byte (110 : Int32)) else (if p1 = (11 : Int32) then (nar .byte (117 : Int32)) else (if p1 = (12 : Int32) then (nar .byte (102 : Int32)) else (if p1 = (13 : Int32) then (nar .byte (114 : Int32)) else (nar .byte (117 : Int32))))))))
def f1_0_a2_2 (p1 : Int32) (u : Int32) : Int32 := (if p1 = (8 : Int32) then u else (if p1 = (9 : Int32) then u else (if p1 = (10 : Int32) then u else (if p1 = (11 : Int32) then (nar .byte (own_tab (p1 >>> ((12 : Int32) &&& 31)))) else (if p1 = (12 : Int32) then u else (if p1 = (13 : Int32) then u else (nar .byte (own_tab (p1 >>> ((12 : Int32) &&& 31))))))))))
def f1_0_a2_3 (p1 : Int32) (u : Int32) : Int32 := (if p1 = (8 : Int32) then u else (if p1 = (9 : Int32) then u else (if p1 = (10 : Int32) then u else (if p1 = (11 : Int32) then (nar .byte (own_tab ((p1 >>> ((8 : Int32) &&& 31)) &&& (15 : Int32)))) else (if p1 = (12 : Int32) then u else (if p1 = (13 : Int32) then u else (nar .byte (own_tab ((p1 >>> ((8 : Int32) &&& 31)) &&& (15 : Int32))))))))))
def f1_0_a2_4 (p1 : Int32) (u : Int32) : Int32 := (if p1 = (8 : Int32) then u else (if p1 = (9 : Int32) then u else (if p1 = (10 : Int32) then u else (if p1 = (11 : Int32) then (nar .byte (own_tab ((p1 >>> ((4 : Int32) &&& 31)) &&& (15 : Int32)))) else (if p1 = (12 : Int32) then u else (if p1 = (13 : Int32) then u else (nar .byte (own_tab ((p1 >>> ((4 : Int32) &&& 31)) &&& (15 : Int32))))))))))
def f1_0_a2_5 (p1 : Int32) (u : Int32) : Int32 := (if p1 = (8 : Int32) then u else (if p1 = (9 : Int32) then u else (if p1 = (10 : Int32) then u else (if p1 = (11 : Int32) then (nar .byte (own_tab (p1 &&& (15 : Int32)))) else (if p1 = (12 : Int32) then u else (if p1 = (13 : Int32) then u else (nar .byte (own_tab (p1 &&& (15 : Int32))))))))))
def f1_0_a2_6 (p1 : Int32) (u : Int32) : Int32 := u
def f1_0_a2_7 (p1 : Int32) (u : Int32) : Int32 := u
def f1_0_a2_8 (p1 : Int32) (u : Int32) : Int32 := u
def f1_0_a2_9 (p1 : Int32) (u : Int32) : Int32 := u
def Q1_0 (Z : State) (p1 : Int32) (a2 : Addr) (u : Int32) (w1 : Addr) (cl1 : Cell) (k_a2 : ClassId) (h0 : Heap) (n0 : Nat) (v : Option Value) (h : Heap) (L : List Loc) : Prop := v = some (.int (f1_0 p1 u)) ∧ Fr n0 L ∧ Keep h0 h [a2] ∧ Arv Z h a2 k_a2 .byte (10 : Int32) [(.int (f1_0_a2_0 p1 u)), (.int (f1_0_a2_1 p1 u)), (.int (f1_0_a2_2 p1 u)), (.int (f1_0_a2_3 p1 u)), (.int (f1_0_a2_4 p1 u)), (.int (f1_0_a2_5 p1 u)), (.int (f1_0_a2_6 p1 u)), (.int (f1_0_a2_7 p1 u)), (.int (f1_0_a2_8 p1 u)), (.int (f1_0_a2_9 p1 u))] (.int (0 : Int32))
set_option maxRecDepth 65536 in
set_option maxHeartbeats 40000000 in
theorem rm1_0 (l : Launch) (Z : State) (a0 : Array Value) (hw : ∀ d ∈ tables_1, d.before a0 Z = true) (ws : List Jvm.Cond) (p1 : Int32) (a2 : Addr) (u : Int32) (w1 : Addr) (cl1 : Cell) (k_a2 : ClassId) (h0 : Heap) (n0 : Nat) (Z0 : n0 ≤ h0.size) (V_a2 : Arv Z h0 a2 k_a2 .byte (10 : Int32) [(.int u), (.int u), (.int u), (.int u), (.int u), (.int u), (.int u), (.int u), (.int u), (.int u)] (.int (0 : Int32))) (g_a2 : n0 ≤ a2) (S_HEX_DIGITS : Sta Z h0 "com/example/endcon/endcon/rules/LineText" "HEX_DIGITS" "[B" (.ref w1)) (ne_w1_a2 : w1 ≠ a2) (Ar_w1 : Arr Z h0 w1 cl1 .byte) (sz1 : cl1.slots.size = (16 : Int32).toNatClampNeg) (hv : ∀ j : Int32, ¬ j < 0 → j < 16 → cl1.slots[j.toNatClampNeg]? = some (.int (own_tab j))) (hp : ¬ (p1 < 0)) (hp2 : p1 < 65536) :
    MetFree l (⟨"com/example/endcon/endcon/rules/LineText", "escape", "(C[BI)I"⟩ : MethodName) (head1 (Jvm.Cond.code (⟨"com/example/endcon/endcon/rules/LineText", "escape", "(C[BI)I"⟩ : MethodName) prog_84_method_3_code 5 (some .int) :: ws) ({ frames := 0, cells := 0, slots := 0, locals := 0 } : Room)) (fun a U => a = #[(.int p1), (.ref a2), (.int (0 : Int32))] ∧ Z.Warmed39 U.vm ∧ U.heap = h0) (fun _ _ _ _ _ => True) (fun _ U o U' => ∃ v L, o = .returned v ∧ Q1_0 Z p1 a2 u w1 cl1 k_a2 h0 n0 v U'.heap L ∧ FrameEnd U o U' L ({ frames := 0, cells := 0, slots := 0, locals := 0 } : Room).cells ({ frames := 0, cells := 0, slots := 0, locals := 0 } : Room).slots) := by
  refine MetFree.of_bodySF (plainFor_of_name pn_1) hisR ?_
  intro p e s m args below meth c s₁ Bd hml0 hP hK
  obtain ⟨rfl, hZ, hh⟩ := hP
  have hx := Bd.exec
  have hby := Bd.bytes
  have hml : c.maxLocals = 5 := hml0
  have hown : s.vm.findClass "com/example/endcon/endcon/rules/LineText" = some m.cls := findClass_of_methodNamed Bd.named
  have hnm := (name_of_methodNamed Bd.named Bd.method).1
  have X0 : Stand p l e ({ frames := 0, cells := 0, slots := 0, locals := 0 } : Room) s m #[(.int p1), (.ref a2), (.int (0 : Int32))] below meth c s₁ [] 0 0 := Stand.of_body Bd
  have e0 : s₁.heap = h0 := by rw [← hh, Bd.state]; rfl
  have N0 := Fr.nil n0
  have pre0 : ∀ t, Steps p.tables e below (s₁.setTop (mkF m 0 #[.val (.int p1), .val (.ref a2), .val (.int (0 : Int32)), .unset, .unset] [])) t → Steps p.tables e below (s₁.setTop (entryFrame m #[(.int p1), (.ref a2), (.int (0 : Int32))] 5)) t := fun t k => castTop (ef_1 m p1 a2 (0 : Int32)) k
  obtain ⟨cx1, Ar1, qq1, S1, N1_, H1, G1⟩ := id V_a2
  have hin1 : ¬ ((0 : Int32) < 0 ∨ cx1.slots.size ≤ ((0 : Int32)).toNatClampNeg) := inb_of S1 ⟨by decide, by decide⟩
  obtain ⟨T1, h1, X1, e1, W1, st1⟩ := stB X0 hx hZ e0 Ar1 (j := (0 : Int32)) hin1 (g := (mkF m 4 #[.val (.int p1), .val (.ref a2), .val (.int (0 : Int32)), .unset, .unset] [(.int (92 : Int32)), (.int (0 : Int32)), (.ref a2)])) rfl rfl (hb hby d1_4)
  have V1 : Arv Z h1 a2 k_a2 .byte (10 : Int32) [(.int (nar .byte (92 : Int32))), (.int u), (.int u), (.int u), (.int u), (.int u), (.int u), (.int u), (.int u), (.int u)] (.int (0 : Int32)) := Arv.set Ar1 qq1 S1 N1_ H1 G1 (fits_nar_byte _) W1 0 rfl (Nat.le_of_ble_eq_true rfl)
  have zs2 : n0 ≤ h1.size := Nat.le_trans Z0 (Keep.of_wr W1).1
  have kp3 : Keep h0 h1 [a2] := (Keep.refl h0 [a2]).wr W1 (Or.inl (List.mem_of_getElem? (i := 0) rfl))
  have N1 := Fr.snoc X1 N0 g_a2
  have pre4 : ∀ t, Steps p.tables e below (T1.setTop (mkF m 6 #[.val (.int p1), .val (.ref a2), .val (.int (0 : Int32)), .unset, .unset] [(.int p1)])) t → Steps p.tables e below (s₁.setTop (entryFrame m #[(.int p1), (.ref a2), (.int (0 : Int32))] 5)) t := fun t kt => by
    refine pre0 _ ?_
    show Steps p.tables e below (s₁.setTop (mkF m 0 #[.val (.int p1), .val (.ref a2), .val (.int (0 : Int32)), .unset, .unset] [])) _
    refine own_blk X0 hx bl1_0_3 (own_hb hby bd1_0_3) (pc' := 4) (Ls' := #[.val (.int p1), .val (.ref a2), .val (.int (0 : Int32)), .unset, .unset]) (st' := [(.int (92 : Int32)), (.int (0 : Int32)), (.ref a2)]) rfl ?_
    refine st1 _ ?_
    show Steps p.tables e below (T1.setTop (mkF m 5 #[.val (.int p1), .val (.ref a2), .val (.int (0 : Int32)), .unset, .unset] [])) _
    refine own_blk X1 hx bl1_5_1 (own_hb hby bd1_5_1) (pc' := 6) (Ls' := #[.val (.int p1), .val (.ref a2), .val (.int (0 : Int32)), .unset, .unset]) (st' := [(.int p1)]) rfl ?_
    exact kt
  by_cases hc5 : p1 = (8 : Int32)
  · obtain ⟨cx6, Ar6, qq6, S6, N6_, H6, G6⟩ := id V1
    have hin6 : ¬ ((1 : Int32) < 0 ∨ cx6.slots.size ≤ ((1 : Int32)).toNatClampNeg) := inb_of S6 ⟨by decide, by decide⟩
    obtain ⟨T6, h6, X6, e6, W6, st6⟩ := stB X1 hx hZ e1 Ar6 (j := (1 : Int32)) hin6 (g := (mkF m 80 #[.val (.int p1), .val (.ref a2), .val (.int (0 : Int32)), .val (.int (98 : Int32)), .unset] [(.int (98 : Int32)), (.int (1 : Int32)), (.ref a2)])) rfl rfl (hb hby d1_80)
    have V6 : Arv Z h6 a2 k_a2 .byte (10 : Int32) [(.int (nar .byte (92 : Int32))), (.int (nar .byte (98 : Int32))), (.int u), (.int u), (.int u), (.int u), (.int u), (.int u), (.int u), (.int u)] (.int (0 : Int32)) := Arv.set Ar6 qq6 S6 N6_ H6 G6 (fits_nar_byte _) W6 1 rfl (Nat.le_of_ble_eq_true rfl)
    have zs7 : n0 ≤ h6.size := Nat.le_trans zs2 (Keep.of_wr W6).1
    have kp8 : Keep h0 h6 [a2] := kp3.wr W6 (Or.inl (List.mem_of_getElem? (i := 0) rfl))
    have N6 := Fr.snoc X6 N1 g_a2
    obtain ⟨fs, hr, hrun, hended, hW, hsame⟩ := X6.leave (v := some (.int (2 : Int32))) (fun h => by rw [Bd.returns] at h; cases h)
    refine ⟨_, _, pre4 _ ?_, hrun, hended, _, _, rfl, ?_, ⟨_, rfl⟩, hW, hsame.mono (by decide) (by decide)⟩
    · show Steps p.tables e below (T1.setTop (mkF m 6 #[.val (.int p1), .val (.ref a2), .val (.int (0 : Int32)), .unset, .unset] [(.int p1)])) _
      refine XS.tswIn X1.here hx rfl (pc0 := 6) (pc' := 44) (o := 38) rfl (hb hby d1_6) rfl (by rw [hc5]; decide) (by rw [hc5]; rfl) (by decide) (by decide) ?_
      show Steps p.tables e below (T1.setTop (mkF m 44 #[.val (.int p1), .val (.ref a2), .val (.int (0 : Int32)), .unset, .unset] [])) _
      refine own_blk X1 hx bl1_44_3 (own_hb hby bd1_44_3) (pc' := 71) (Ls' := #[.val (.int p1), .val (.ref a2), .val (.int (0 : Int32)), .val (.int (98 : Int32)), .unset]) (st' := []) rfl ?_
      refine own_blk X1 hx bl1_71_1 (own_hb hby bd1_71_1) (pc' := 72) (Ls' := #[.val (.int p1), .val (.ref a2), .val (.int (0 : Int32)), .val (.int (98 : Int32)), .unset]) (st' := [(.int (98 : Int32))]) rfl ?_
      refine XS.ifNo X1.here hx rfl (hb hby d1_72) rfl ((if0 _ _).trans (feq (by decide : ¬ ((98 : Int32) = (0 : Int32)))).1) ?_
      show Steps p.tables e below (T1.setTop (mkF m 75 #[.val (.int p1), .val (.ref a2), .val (.int (0 : Int32)), .val (.int (98 : Int32)), .unset] [])) _
      refine own_blk X1 hx bl1_75_5 (own_hb hby bd1_75_5) (pc' := 80) (Ls' := #[.val (.int p1), .val (.ref a2), .val (.int (0 : Int32)), .val (.int (98 : Int32)), .unset]) (st' := [(.int (98 : Int32)), (.int (1 : Int32)), (.ref a2)]) rfl ?_
      refine st6 _ ?_
      show Steps p.tables e below (T6.setTop (mkF m 81 #[.val (.int p1), .val (.ref a2), .val (.int (0 : Int32)), .val (.int (98 : Int32)), .unset] [])) _
      refine own_blk X6 hx bl1_81_4 (own_hb hby bd1_81_4) (pc' := 86) (Ls' := #[.val (.int p1), .val (.ref a2), .val (.int (0 : Int32)), .val (.int (98 : Int32)), .val (.int (2 : Int32))]) (st' := []) rfl ?_
      refine own_blk X6 hx bl1_86_2 (own_hb hby bd1_86_2) (pc' := 161) (Ls' := #[.val (.int p1), .val (.ref a2), .val (.int (0 : Int32)), .val (.int (98 : Int32)), .val (.int (2 : Int32))]) (st' := [(.int (2 : Int32))]) rfl ?_
      exact retI X6 hx Bd.returns (hb hby d1_161) hr
    · show Q1_0 Z p1 a2 u w1 cl1 k_a2 h0 n0 _ T6.heap _
      rw [e6]
      have lf9 : Arv Z h6 a2 k_a2 .byte (10 : Int32) [(.int (f1_0_a2_0 p1 u)), (.int (f1_0_a2_1 p1 u)), (.int (f1_0_a2_2 p1 u)), (.int (f1_0_a2_3 p1 u)), (.int (f1_0_a2_4 p1 u)), (.int (f1_0_a2_5 p1 u)), (.int (f1_0_a2_6 p1 u)), (.int (f1_0_a2_7 p1 u)), (.int (f1_0_a2_8 p1 u)), (.int (f1_0_a2_9 p1 u))] (.int (0 : Int32)) := by simp only [f1_0_a2_0, f1_0_a2_1, f1_0_a2_2, f1_0_a2_3, f1_0_a2_4, f1_0_a2_5, f1_0_a2_6, f1_0_a2_7, f1_0_a2_8, f1_0_a2_9, if_pos hc5]; exact V6
      exact ⟨by rw [f1_0, if_pos hc5], N6, kp8, lf9⟩
  · by_cases hc10 : p1 = (9 : Int32)
    · obtain ⟨cx11, Ar11, qq11, S11, N11_, H11, G11⟩ := id V1
      have hin11 : ¬ ((1 : Int32) < 0 ∨ cx11.slots.size ≤ ((1 : Int32)).toNatClampNeg) := inb_of S11 ⟨by decide, by decide⟩
      obtain ⟨T11, h11, X11, e11, W11, st11⟩ := stB X1 hx hZ e1 Ar11 (j := (1 : Int32)) hin11 (g := (mkF m 80 #[.val (.int p1), .val (.ref a2), .val (.int (0 : Int32)), .val (.int (116 : Int32)), .unset] [(.int (116 : Int32)), (.int (1 : Int32)), (.ref a2)])) rfl rfl (hb hby d1_80)
      have V11 : Arv Z h11 a2 k_a2 .byte (10 : Int32) [(.int (nar .byte (92 : Int32))), (.int (nar .byte (116 : Int32))), (.int u), (.int u), (.int u), (.int u), (.int u), (.int u), (.int u), (.int u)] (.int (0 : Int32)) := Arv.set Ar11 qq11 S11 N11_ H11 G11 (fits_nar_byte _) W11 1 rfl (Nat.le_of_ble_eq_true rfl)
      have zs12 : n0 ≤ h11.size := Nat.le_trans zs2 (Keep.of_wr W11).1
      have kp13 : Keep h0 h11 [a2] := kp3.wr W11 (Or.inl (List.mem_of_getElem? (i := 0) rfl))
      have N11 := Fr.snoc X11 N1 g_a2
      obtain ⟨fs, hr, hrun, hended, hW, hsame⟩ := X11.leave (v := some (.int (2 : Int32))) (fun h => by rw [Bd.returns] at h; cases h)
      refine ⟨_, _, pre4 _ ?_, hrun, hended, _, _, rfl, ?_, ⟨_, rfl⟩, hW, hsame.mono (by decide) (by decide)⟩
      · show Steps p.tables e below (T1.setTop (mkF m 6 #[.val (.int p1), .val (.ref a2), .val (.int (0 : Int32)), .unset, .unset] [(.int p1)])) _
        refine XS.tswIn X1.here hx rfl (pc0 := 6) (pc' := 49) (o := 43) rfl (hb hby d1_6) rfl (by rw [hc10]; decide) (by rw [hc10]; rfl) (by decide) (by decide) ?_
        show Steps p.tables e below (T1.setTop (mkF m 49 #[.val (.int p1), .val (.ref a2), .val (.int (0 : Int32)), .unset, .unset] [])) _
        refine own_blk X1 hx bl1_49_3 (own_hb hby bd1_49_3) (pc' := 71) (Ls' := #[.val (.int p1), .val (.ref a2), .val (.int (0 : Int32)), .val (.int (116 : Int32)), .unset]) (st' := []) rfl ?_
        refine own_blk X1 hx bl1_71_1 (own_hb hby bd1_71_1) (pc' := 72) (Ls' := #[.val (.int p1), .val (.ref a2), .val (.int (0 : Int32)), .val (.int (116 : Int32)), .unset]) (st' := [(.int (116 : Int32))]) rfl ?_
        refine XS.ifNo X1.here hx rfl (hb hby d1_72) rfl ((if0 _ _).trans (feq (by decide : ¬ ((116 : Int32) = (0 : Int32)))).1) ?_
        show Steps p.tables e below (T1.setTop (mkF m 75 #[.val (.int p1), .val (.ref a2), .val (.int (0 : Int32)), .val (.int (116 : Int32)), .unset] [])) _
        refine own_blk X1 hx bl1_75_5 (own_hb hby bd1_75_5) (pc' := 80) (Ls' := #[.val (.int p1), .val (.ref a2), .val (.int (0 : Int32)), .val (.int (116 : Int32)), .unset]) (st' := [(.int (116 : Int32)), (.int (1 : Int32)), (.ref a2)]) rfl ?_
        refine st11 _ ?_
        show Steps p.tables e below (T11.setTop (mkF m 81 #[.val (.int p1), .val (.ref a2), .val (.int (0 : Int32)), .val (.int (116 : Int32)), .unset] [])) _
        refine own_blk X11 hx bl1_81_4 (own_hb hby bd1_81_4) (pc' := 86) (Ls' := #[.val (.int p1), .val (.ref a2), .val (.int (0 : Int32)), .val (.int (116 : Int32)), .val (.int (2 : Int32))]) (st' := []) rfl ?_
        refine own_blk X11 hx bl1_86_2 (own_hb hby bd1_86_2) (pc' := 161) (Ls' := #[.val (.int p1), .val (.ref a2), .val (.int (0 : Int32)), .val (.int (116 : Int32)), .val (.int (2 : Int32))]) (st' := [(.int (2 : Int32))]) rfl ?_
        exact retI X11 hx Bd.returns (hb hby d1_161) hr
      · show Q1_0 Z p1 a2 u w1 cl1 k_a2 h0 n0 _ T11.heap _
        rw [e11]
        have lf14 : Arv Z h11 a2 k_a2 .byte (10 : Int32) [(.int (f1_0_a2_0 p1 u)), (.int (f1_0_a2_1 p1 u)), (.int (f1_0_a2_2 p1 u)), (.int (f1_0_a2_3 p1 u)), (.int (f1_0_a2_4 p1 u)), (.int (f1_0_a2_5 p1 u)), (.int (f1_0_a2_6 p1 u)), (.int (f1_0_a2_7 p1 u)), (.int (f1_0_a2_8 p1 u)), (.int (f1_0_a2_9 p1 u))] (.int (0 : Int32)) := by simp only [f1_0_a2_0, f1_0_a2_1, f1_0_a2_2, f1_0_a2_3, f1_0_a2_4, f1_0_a2_5, f1_0_a2_6, f1_0_a2_7, f1_0_a2_8, f1_0_a2_9, if_neg hc5, if_pos hc10]; exact V11
        exact ⟨by rw [f1_0, if_neg hc5, if_pos hc10], N11, kp13, lf14⟩
    · by_cases hc15 : p1 = (10 : Int32)
      · obtain ⟨cx16, Ar16, qq16, S16, N16_, H16, G16⟩ := id V1
        have hin16 : ¬ ((1 : Int32) < 0 ∨ cx16.slots.size ≤ ((1 : Int32)).toNatClampNeg) := inb_of S16 ⟨by decide, by decide⟩
        obtain ⟨T16, h16, X16, e16, W16, st16⟩ := stB X1 hx hZ e1 Ar16 (j := (1 : Int32)) hin16 (g := (mkF m 80 #[.val (.int p1), .val (.ref a2), .val (.int (0 : Int32)), .val (.int (110 : Int32)), .unset] [(.int (110 : Int32)), (.int (1 : Int32)), (.ref a2)])) rfl rfl (hb hby d1_80)
        have V16 : Arv Z h16 a2 k_a2 .byte (10 : Int32) [(.int (nar .byte (92 : Int32))), (.int (nar .byte (110 : Int32))), (.int u), (.int u), (.int u), (.int u), (.int u), (.int u), (.int u), (.int u)] (.int (0 : Int32)) := Arv.set Ar16 qq16 S16 N16_ H16 G16 (fits_nar_byte _) W16 1 rfl (Nat.le_of_ble_eq_true rfl)
        have zs17 : n0 ≤ h16.size := Nat.le_trans zs2 (Keep.of_wr W16).1
        have kp18 : Keep h0 h16 [a2] := kp3.wr W16 (Or.inl (List.mem_of_getElem? (i := 0) rfl))
        have N16 := Fr.snoc X16 N1 g_a2
        obtain ⟨fs, hr, hrun, hended, hW, hsame⟩ := X16.leave (v := some (.int (2 : Int32))) (fun h => by rw [Bd.returns] at h; cases h)
        refine ⟨_, _, pre4 _ ?_, hrun, hended, _, _, rfl, ?_, ⟨_, rfl⟩, hW, hsame.mono (by decide) (by decide)⟩
        · show Steps p.tables e below (T1.setTop (mkF m 6 #[.val (.int p1), .val (.ref a2), .val (.int (0 : Int32)), .unset, .unset] [(.int p1)])) _
          refine XS.tswIn X1.here hx rfl (pc0 := 6) (pc' := 54) (o := 48) rfl (hb hby d1_6) rfl (by rw [hc15]; decide) (by rw [hc15]; rfl) (by decide) (by decide) ?_
          show Steps p.tables e below (T1.setTop (mkF m 54 #[.val (.int p1), .val (.ref a2), .val (.int (0 : Int32)), .unset, .unset] [])) _
          refine own_blk X1 hx bl1_54_3 (own_hb hby bd1_54_3) (pc' := 71) (Ls' := #[.val (.int p1), .val (.ref a2), .val (.int (0 : Int32)), .val (.int (110 : Int32)), .unset]) (st' := []) rfl ?_
          refine own_blk X1 hx bl1_71_1 (own_hb hby bd1_71_1) (pc' := 72) (Ls' := #[.val (.int p1), .val (.ref a2), .val (.int (0 : Int32)), .val (.int (110 : Int32)), .unset]) (st' := [(.int (110 : Int32))]) rfl ?_
          refine XS.ifNo X1.here hx rfl (hb hby d1_72) rfl ((if0 _ _).trans (feq (by decide : ¬ ((110 : Int32) = (0 : Int32)))).1) ?_
          show Steps p.tables e below (T1.setTop (mkF m 75 #[.val (.int p1), .val (.ref a2), .val (.int (0 : Int32)), .val (.int (110 : Int32)), .unset] [])) _
          refine own_blk X1 hx bl1_75_5 (own_hb hby bd1_75_5) (pc' := 80) (Ls' := #[.val (.int p1), .val (.ref a2), .val (.int (0 : Int32)), .val (.int (110 : Int32)), .unset]) (st' := [(.int (110 : Int32)), (.int (1 : Int32)), (.ref a2)]) rfl ?_
          refine st16 _ ?_
          show Steps p.tables e below (T16.setTop (mkF m 81 #[.val (.int p1), .val (.ref a2), .val (.int (0 : Int32)), .val (.int (110 : Int32)), .unset] [])) _
          refine own_blk X16 hx bl1_81_4 (own_hb hby bd1_81_4) (pc' := 86) (Ls' := #[.val (.int p1), .val (.ref a2), .val (.int (0 : Int32)), .val (.int (110 : Int32)), .val (.int (2 : Int32))]) (st' := []) rfl ?_
          refine own_blk X16 hx bl1_86_2 (own_hb hby bd1_86_2) (pc' := 161) (Ls' := #[.val (.int p1), .val (.ref a2), .val (.int (0 : Int32)), .val (.int (110 : Int32)), .val (.int (2 : Int32))]) (st' := [(.int (2 : Int32))]) rfl ?_
          exact retI X16 hx Bd.returns (hb hby d1_161) hr
        · show Q1_0 Z p1 a2 u w1 cl1 k_a2 h0 n0 _ T16.heap _
          rw [e16]
          have lf19 : Arv Z h16 a2 k_a2 .byte (10 : Int32) [(.int (f1_0_a2_0 p1 u)), (.int (f1_0_a2_1 p1 u)), (.int (f1_0_a2_2 p1 u)), (.int (f1_0_a2_3 p1 u)), (.int (f1_0_a2_4 p1 u)), (.int (f1_0_a2_5 p1 u)), (.int (f1_0_a2_6 p1 u)), (.int (f1_0_a2_7 p1 u)), (.int (f1_0_a2_8 p1 u)), (.int (f1_0_a2_9 p1 u))] (.int (0 : Int32)) := by simp only [f1_0_a2_0, f1_0_a2_1, f1_0_a2_2, f1_0_a2_3, f1_0_a2_4, f1_0_a2_5, f1_0_a2_6, f1_0_a2_7, f1_0_a2_8, f1_0_a2_9, if_neg hc5, if_neg hc10, if_pos hc15]; exact V16
          exact ⟨by rw [f1_0, if_neg hc5, if_neg hc10, if_pos hc15], N16, kp18, lf19⟩
      · by_cases hc20 : p1 = (11 : Int32)
        · obtain ⟨cx21, Ar21, qq21, S21, N21_, H21, G21⟩ := id V1
          have hin21 : ¬ ((1 : Int32) < 0 ∨ cx21.slots.size ≤ ((1 : Int32)).toNatClampNeg) := inb_of S21 ⟨by decide, by decide⟩
          obtain ⟨T21, h21, X21, e21, W21, st21⟩ := stB X1 hx hZ e1 Ar21 (j := (1 : Int32)) hin21 (g := (mkF m 95 #[.val (.int p1), .val (.ref a2), .val (.int (0 : Int32)), .val (.int (0 : Int32)), .unset] [(.int (117 : Int32)), (.int (1 : Int32)), (.ref a2)])) rfl rfl (hb hby d1_95)
          have V21 : Arv Z h21 a2 k_a2 .byte (10 : Int32) [(.int (nar .byte (92 : Int32))), (.int (nar .byte (117 : Int32))), (.int u), (.int u), (.int u), (.int u), (.int u), (.int u), (.int u), (.int u)] (.int (0 : Int32)) := Arv.set Ar21 qq21 S21 N21_ H21 G21 (fits_nar_byte _) W21 1 rfl (Nat.le_of_ble_eq_true rfl)
          have zs22 : n0 ≤ h21.size := Nat.le_trans zs2 (Keep.of_wr W21).1
          have kp23 : Keep h0 h21 [a2] := kp3.wr W21 (Or.inl (List.mem_of_getElem? (i := 0) rfl))
          have N21 := Fr.snoc X21 N1 g_a2
          have fa24 : Sta Z h21 "com/example/endcon/endcon/rules/LineText" "HEX_DIGITS" "[B" (.ref w1) := ((S_HEX_DIGITS.wr W1).wr W21)
          obtain ⟨T25, X25, e25, st25⟩ := getS2 X21 hx hZ hown (host := "") (Or.inl (hw _ (List.mem_of_getElem? (i := 6) rfl))) Via.refl e21 fa24 (g := (mkF m 100 #[.val (.int p1), .val (.ref a2), .val (.int (0 : Int32)), .val (.int (0 : Int32)), .unset] [(.int (2 : Int32)), (.ref a2)])) rfl (hb hby d1_100)
          have fa27 : Arr Z h21 w1 cl1 .byte := ((Ar_w1.other W1 ne_w1_a2).other W21 ne_w1_a2)
          have hin26 : ¬ ((p1 >>> ((12 : Int32) &&& 31)) < 0 ∨ cl1.slots.size ≤ ((p1 >>> ((12 : Int32) &&& 31))).toNatClampNeg) := inb_of sz1 (own_sh12 p1 hp hp2)
          have hat26 := hv _ (own_sh12 p1 hp hp2).1 (own_sh12 p1 hp hp2).2
          obtain ⟨cx28, Ar28, qq28, S28, N28_, H28, G28⟩ := id V21
          have hin28 : ¬ ((2 : Int32) < 0 ∨ cx28.slots.size ≤ ((2 : Int32)).toNatClampNeg) := inb_of S28 ⟨by decide, by decide⟩
          obtain ⟨T28, h28, X28, e28, W28, st28⟩ := stB X25 hx hZ e25 Ar28 (j := (2 : Int32)) hin28 (g := (mkF m 108 #[.val (.int p1), .val (.ref a2), .val (.int (0 : Int32)), .val (.int (0 : Int32)), .unset] [(.int (own_tab (p1 >>> ((12 : Int32) &&& 31)))), (.int (2 : Int32)), (.ref a2)])) rfl rfl (hb hby d1_108)
          have V28 : Arv Z h28 a2 k_a2 .byte (10 : Int32) [(.int (nar .byte (92 : Int32))), (.int (nar .byte (117 : Int32))), (.int (nar .byte (own_tab (p1 >>> ((12 : Int32) &&& 31))))), (.int u), (.int u), (.int u), (.int u), (.int u), (.int u), (.int u)] (.int (0 : Int32)) := Arv.set Ar28 qq28 S28 N28_ H28 G28 (fits_nar_byte _) W28 2 rfl (Nat.le_of_ble_eq_true rfl)
          have zs29 : n0 ≤ h28.size := Nat.le_trans zs22 (Keep.of_wr W28).1
          have kp30 : Keep h0 h28 [a2] := kp23.wr W28 (Or.inl (List.mem_of_getElem? (i := 0) rfl))
          have N28 := Fr.snoc X28 N21 g_a2
          have fa31 : Sta Z h28 "com/example/endcon/endcon/rules/LineText" "HEX_DIGITS" "[B" (.ref w1) := (fa24.wr W28)
          obtain ⟨T32, X32, e32, st32⟩ := getS2 X28 hx hZ hown (host := "") (Or.inl (hw _ (List.mem_of_getElem? (i := 6) rfl))) Via.refl e28 fa31 (g := (mkF m 113 #[.val (.int p1), .val (.ref a2), .val (.int (0 : Int32)), .val (.int (0 : Int32)), .unset] [(.int (3 : Int32)), (.ref a2)])) rfl (hb hby d1_113)
          have fa34 : Arr Z h28 w1 cl1 .byte := (fa27.other W28 ne_w1_a2)
          have hin33 : ¬ (((p1 >>> ((8 : Int32) &&& 31)) &&& (15 : Int32)) < 0 ∨ cl1.slots.size ≤ (((p1 >>> ((8 : Int32) &&& 31)) &&& (15 : Int32))).toNatClampNeg) := inb_of sz1 (own_m15 (p1 >>> ((8 : Int32) &&& 31)))
          have hat33 := hv _ (own_m15 (p1 >>> ((8 : Int32) &&& 31))).1 (own_m15 (p1 >>> ((8 : Int32) &&& 31))).2
          obtain ⟨cx35, Ar35, qq35, S35, N35_, H35, G35⟩ := id V28
          have hin35 : ¬ ((3 : Int32) < 0 ∨ cx35.slots.size ≤ ((3 : Int32)).toNatClampNeg) := inb_of S35 ⟨by decide, by decide⟩
          obtain ⟨T35, h35, X35, e35, W35, st35⟩ := stB X32 hx hZ e32 Ar35 (j := (3 : Int32)) hin35 (g := (mkF m 124 #[.val (.int p1), .val (.ref a2), .val (.int (0 : Int32)), .val (.int (0 : Int32)), .unset] [(.int (own_tab ((p1 >>> ((8 : Int32) &&& 31)) &&& (15 : Int32)))), (.int (3 : Int32)), (.ref a2)])) rfl rfl (hb hby d1_124)
          have V35 : Arv Z h35 a2 k_a2 .byte (10 : Int32) [(.int (nar .byte (92 : Int32))), (.int (nar .byte (117 : Int32))), (.int (nar .byte (own_tab (p1 >>> ((12 : Int32) &&& 31))))), (.int (nar .byte (own_tab ((p1 >>> ((8 : Int32) &&& 31)) &&& (15 : Int32))))), (.int u), (.int u), (.int u), (.int u), (.int u), (.int u)] (.int (0 : Int32)) := Arv.set Ar35 qq35 S35 N35_ H35 G35 (fits_nar_byte _) W35 3 rfl (Nat.le_of_ble_eq_true rfl)
          have zs36 : n0 ≤ h35.size := Nat.le_trans zs29 (Keep.of_wr W35).1
          have kp37 : Keep h0 h35 [a2] := kp30.wr W35 (Or.inl (List.mem_of_getElem? (i := 0) rfl))
          have N35 := Fr.snoc X35 N28 g_a2
          have fa38 : Sta Z h35 "com/example/endcon/endcon/rules/LineText" "HEX_DIGITS" "[B" (.ref w1) := (fa31.wr W35)
          obtain ⟨T39, X39, e39, st39⟩ := getS2 X35 hx hZ hown (host := "") (Or.inl (hw _ (List.mem_of_getElem? (i := 6) rfl))) Via.refl e35 fa38 (g := (mkF m 129 #[.val (.int p1), .val (.ref a2), .val (.int (0 : Int32)), .val (.int (0 : Int32)), .unset] [(.int (4 : Int32)), (.ref a2)])) rfl (hb hby d1_129)
          have fa41 : Arr Z h35 w1 cl1 .byte := (fa34.other W35 ne_w1_a2)
          have hin40 : ¬ (((p1 >>> ((4 : Int32) &&& 31)) &&& (15 : Int32)) < 0 ∨ cl1.slots.size ≤ (((p1 >>> ((4 : Int32) &&& 31)) &&& (15 : Int32))).toNatClampNeg) := inb_of sz1 (own_m15 (p1 >>> ((4 : Int32) &&& 31)))
          have hat40 := hv _ (own_m15 (p1 >>> ((4 : Int32) &&& 31))).1 (own_m15 (p1 >>> ((4 : Int32) &&& 31))).2
          obtain ⟨cx42, Ar42, qq42, S42, N42_, H42, G42⟩ := id V35
          have hin42 : ¬ ((4 : Int32) < 0 ∨ cx42.slots.size ≤ ((4 : Int32)).toNatClampNeg) := inb_of S42 ⟨by decide, by decide⟩
          obtain ⟨T42, h42, X42, e42, W42, st42⟩ := stB X39 hx hZ e39 Ar42 (j := (4 : Int32)) hin42 (g := (mkF m 139 #[.val (.int p1), .val (.ref a2), .val (.int (0 : Int32)), .val (.int (0 : Int32)), .unset] [(.int (own_tab ((p1 >>> ((4 : Int32) &&& 31)) &&& (15 : Int32)))), (.int (4 : Int32)), (.ref a2)])) rfl rfl (hb hby d1_139)
          have V42 : Arv Z h42 a2 k_a2 .byte (10 : Int32) [(.int (nar .byte (92 : Int32))), (.int (nar .byte (117 : Int32))), (.int (nar .byte (own_tab (p1 >>> ((12 : Int32) &&& 31))))), (.int (nar .byte (own_tab ((p1 >>> ((8 : Int32) &&& 31)) &&& (15 : Int32))))), (.int (nar .byte (own_tab ((p1 >>> ((4 : Int32) &&& 31)) &&& (15 : Int32))))), (.int u), (.int u), (.int u), (.int u), (.int u)] (.int (0 : Int32)) := Arv.set Ar42 qq42 S42 N42_ H42 G42 (fits_nar_byte _) W42 4 rfl (Nat.le_of_ble_eq_true rfl)
          have zs43 : n0 ≤ h42.size := Nat.le_trans zs36 (Keep.of_wr W42).1
          have kp44 : Keep h0 h42 [a2] := kp37.wr W42 (Or.inl (List.mem_of_getElem? (i := 0) rfl))
          have N42 := Fr.snoc X42 N35 g_a2
          have fa45 : Sta Z h42 "com/example/endcon/endcon/rules/LineText" "HEX_DIGITS" "[B" (.ref w1) := (fa38.wr W42)
          obtain ⟨T46, X46, e46, st46⟩ := getS2 X42 hx hZ hown (host := "") (Or.inl (hw _ (List.mem_of_getElem? (i := 6) rfl))) Via.refl e42 fa45 (g := (mkF m 144 #[.val (.int p1), .val (.ref a2), .val (.int (0 : Int32)), .val (.int (0 : Int32)), .unset] [(.int (5 : Int32)), (.ref a2)])) rfl (hb hby d1_144)
          have fa48 : Arr Z h42 w1 cl1 .byte := (fa41.other W42 ne_w1_a2)
          have hin47 : ¬ ((p1 &&& (15 : Int32)) < 0 ∨ cl1.slots.size ≤ ((p1 &&& (15 : Int32))).toNatClampNeg) := inb_of sz1 (own_m15 p1)
          have hat47 := hv _ (own_m15 p1).1 (own_m15 p1).2
          obtain ⟨cx49, Ar49, qq49, S49, N49_, H49, G49⟩ := id V42
          have hin49 : ¬ ((5 : Int32) < 0 ∨ cx49.slots.size ≤ ((5 : Int32)).toNatClampNeg) := inb_of S49 ⟨by decide, by decide⟩
          obtain ⟨T49, h49, X49, e49, W49, st49⟩ := stB X46 hx hZ e46 Ar49 (j := (5 : Int32)) hin49 (g := (mkF m 152 #[.val (.int p1), .val (.ref a2), .val (.int (0 : Int32)), .val (.int (0 : Int32)), .unset] [(.int (own_tab (p1 &&& (15 : Int32)))), (.int (5 : Int32)), (.ref a2)])) rfl rfl (hb hby d1_152)
          have V49 : Arv Z h49 a2 k_a2 .byte (10 : Int32) [(.int (nar .byte (92 : Int32))), (.int (nar .byte (117 : Int32))), (.int (nar .byte (own_tab (p1 >>> ((12 : Int32) &&& 31))))), (.int (nar .byte (own_tab ((p1 >>> ((8 : Int32) &&& 31)) &&& (15 : Int32))))), (.int (nar .byte (own_tab ((p1 >>> ((4 : Int32) &&& 31)) &&& (15 : Int32))))), (.int (nar .byte (own_tab (p1 &&& (15 : Int32))))), (.int u), (.int u), (.int u), (.int u)] (.int (0 : Int32)) := Arv.set Ar49 qq49 S49 N49_ H49 G49 (fits_nar_byte _) W49 5 rfl (Nat.le_of_ble_eq_true rfl)
          have zs50 : n0 ≤ h49.size := Nat.le_trans zs43 (Keep.of_wr W49).1
          have kp51 : Keep h0 h49 [a2] := kp44.wr W49 (Or.inl (List.mem_of_getElem? (i := 0) rfl))
          have N49 := Fr.snoc X49 N42 g_a2
          obtain ⟨fs, hr, hrun, hended, hW, hsame⟩ := X49.leave (v := some (.int (6 : Int32))) (fun h => by rw [Bd.returns] at h; cases h)
          refine ⟨_, _, pre4 _ ?_, hrun, hended, _, _, rfl, ?_, ⟨_, rfl⟩, hW, hsame.mono (by decide) (by decide)⟩
          · show Steps p.tables e below (T1.setTop (mkF m 6 #[.val (.int p1), .val (.ref a2), .val (.int (0 : Int32)), .unset, .unset] [(.int p1)])) _
            refine XS.tswIn X1.here hx rfl (pc0 := 6) (pc' := 69) (o := 63) rfl (hb hby d1_6) rfl (by rw [hc20]; decide) (by rw [hc20]; rfl) (by decide) (by decide) ?_
            show Steps p.tables e below (T1.setTop (mkF m 69 #[.val (.int p1), .val (.ref a2), .val (.int (0 : Int32)), .unset, .unset] [])) _
            refine own_blk X1 hx bl1_69_2 (own_hb hby bd1_69_2) (pc' := 71) (Ls' := #[.val (.int p1), .val (.ref a2), .val (.int (0 : Int32)), .val (.int (0 : Int32)), .unset]) (st' := []) rfl ?_
            refine own_blk X1 hx bl1_71_1 (own_hb hby bd1_71_1) (pc' := 72) (Ls' := #[.val (.int p1), .val (.ref a2), .val (.int (0 : Int32)), .val (.int (0 : Int32)), .unset]) (st' := [(.int (0 : Int32))]) rfl ?_
            refine XS.ifYes X1.here hx rfl (pc0 := 72) (pc' := 89) rfl (hb hby d1_72) rfl ((if0 _ _).trans (teq (by decide : (0 : Int32) = (0 : Int32))).1) (by decide) (by decide) ?_
            show Steps p.tables e below (T1.setTop (mkF m 89 #[.val (.int p1), .val (.ref a2), .val (.int (0 : Int32)), .val (.int (0 : Int32)), .unset] [])) _
            refine own_blk X1 hx bl1_89_5 (own_hb hby bd1_89_5) (pc' := 95) (Ls' := #[.val (.int p1), .val (.ref a2), .val (.int (0 : Int32)), .val (.int (0 : Int32)), .unset]) (st' := [(.int (117 : Int32)), (.int (1 : Int32)), (.ref a2)]) rfl ?_
            refine st21 _ ?_
            show Steps p.tables e below (T21.setTop (mkF m 96 #[.val (.int p1), .val (.ref a2), .val (.int (0 : Int32)), .val (.int (0 : Int32)), .unset] [])) _
            refine own_blk X21 hx bl1_96_4 (own_hb hby bd1_96_4) (pc' := 100) (Ls' := #[.val (.int p1), .val (.ref a2), .val (.int (0 : Int32)), .val (.int (0 : Int32)), .unset]) (st' := [(.int (2 : Int32)), (.ref a2)]) rfl ?_
            refine st25 _ ?_
            show Steps p.tables e below (T25.setTop (mkF m 103 #[.val (.int p1), .val (.ref a2), .val (.int (0 : Int32)), .val (.int (0 : Int32)), .unset] [(.ref w1), (.int (2 : Int32)), (.ref a2)])) _
            refine own_blk X25 hx bl1_103_3 (own_hb hby bd1_103_3) (pc' := 107) (Ls' := #[.val (.int p1), .val (.ref a2), .val (.int (0 : Int32)), .val (.int (0 : Int32)), .unset]) (st' := [(.int (p1 >>> ((12 : Int32) &&& 31))), (.ref w1), (.int (2 : Int32)), (.ref a2)]) rfl ?_
            refine X25.baloadBytes hx (j := (p1 >>> ((12 : Int32) &&& 31))) (v := (.int (own_tab (p1 >>> ((12 : Int32) &&& 31))))) (by rw [e25]; exact fa27.1) (State.isArrayOf_alike hZ.alike fa27.2.1) fa27.2.2 hin26 hat26 (g := (mkF m 107 #[.val (.int p1), .val (.ref a2), .val (.int (0 : Int32)), .val (.int (0 : Int32)), .unset] [(.int (p1 >>> ((12 : Int32) &&& 31))), (.ref w1), (.int (2 : Int32)), (.ref a2)])) rfl rfl (hb hby d1_107) _ ?_
            show Steps p.tables e below (T25.setTop (mkF m 108 #[.val (.int p1), .val (.ref a2), .val (.int (0 : Int32)), .val (.int (0 : Int32)), .unset] [(.int (own_tab (p1 >>> ((12 : Int32) &&& 31)))), (.int (2 : Int32)), (.ref a2)])) _
            refine st28 _ ?_
            show Steps p.tables e below (T28.setTop (mkF m 109 #[.val (.int p1), .val (.ref a2), .val (.int (0 : Int32)), .val (.int (0 : Int32)), .unset] [])) _
            refine own_blk X28 hx bl1_109_4 (own_hb hby bd1_109_4) (pc' := 113) (Ls' := #[.val (.int p1), .val (.ref a2), .val (.int (0 : Int32)), .val (.int (0 : Int32)), .unset]) (st' := [(.int (3 : Int32)), (.ref a2)]) rfl ?_
            refine st32 _ ?_
            show Steps p.tables e below (T32.setTop (mkF m 116 #[.val (.int p1), .val (.ref a2), .val (.int (0 : Int32)), .val (.int (0 : Int32)), .unset] [(.ref w1), (.int (3 : Int32)), (.ref a2)])) _
            refine own_blk X32 hx bl1_116_5 (own_hb hby bd1_116_5) (pc' := 123) (Ls' := #[.val (.int p1), .val (.ref a2), .val (.int (0 : Int32)), .val (.int (0 : Int32)), .unset]) (st' := [(.int ((p1 >>> ((8 : Int32) &&& 31)) &&& (15 : Int32))), (.ref w1), (.int (3 : Int32)), (.ref a2)]) rfl ?_
            refine X32.baloadBytes hx (j := ((p1 >>> ((8 : Int32) &&& 31)) &&& (15 : Int32))) (v := (.int (own_tab ((p1 >>> ((8 : Int32) &&& 31)) &&& (15 : Int32))))) (by rw [e32]; exact fa34.1) (State.isArrayOf_alike hZ.alike fa34.2.1) fa34.2.2 hin33 hat33 (g := (mkF m 123 #[.val (.int p1), .val (.ref a2), .val (.int (0 : Int32)), .val (.int (0 : Int32)), .unset] [(.int ((p1 >>> ((8 : Int32) &&& 31)) &&& (15 : Int32))), (.ref w1), (.int (3 : Int32)), (.ref a2)])) rfl rfl (hb hby d1_123) _ ?_
            show Steps p.tables e below (T32.setTop (mkF m 124 #[.val (.int p1), .val (.ref a2), .val (.int (0 : Int32)), .val (.int (0 : Int32)), .unset] [(.int (own_tab ((p1 >>> ((8 : Int32) &&& 31)) &&& (15 : Int32)))), (.int (3 : Int32)), (.ref a2)])) _
            refine st35 _ ?_
            show Steps p.tables e below (T35.setTop (mkF m 125 #[.val (.int p1), .val (.ref a2), .val (.int (0 : Int32)), .val (.int (0 : Int32)), .unset] [])) _
            refine own_blk X35 hx bl1_125_4 (own_hb hby bd1_125_4) (pc' := 129) (Ls' := #[.val (.int p1), .val (.ref a2), .val (.int (0 : Int32)), .val (.int (0 : Int32)), .unset]) (st' := [(.int (4 : Int32)), (.ref a2)]) rfl ?_
            refine st39 _ ?_
            show Steps p.tables e below (T39.setTop (mkF m 132 #[.val (.int p1), .val (.ref a2), .val (.int (0 : Int32)), .val (.int (0 : Int32)), .unset] [(.ref w1), (.int (4 : Int32)), (.ref a2)])) _
            refine own_blk X39 hx bl1_132_5 (own_hb hby bd1_132_5) (pc' := 138) (Ls' := #[.val (.int p1), .val (.ref a2), .val (.int (0 : Int32)), .val (.int (0 : Int32)), .unset]) (st' := [(.int ((p1 >>> ((4 : Int32) &&& 31)) &&& (15 : Int32))), (.ref w1), (.int (4 : Int32)), (.ref a2)]) rfl ?_
            refine X39.baloadBytes hx (j := ((p1 >>> ((4 : Int32) &&& 31)) &&& (15 : Int32))) (v := (.int (own_tab ((p1 >>> ((4 : Int32) &&& 31)) &&& (15 : Int32))))) (by rw [e39]; exact fa41.1) (State.isArrayOf_alike hZ.alike fa41.2.1) fa41.2.2 hin40 hat40 (g := (mkF m 138 #[.val (.int p1), .val (.ref a2), .val (.int (0 : Int32)), .val (.int (0 : Int32)), .unset] [(.int ((p1 >>> ((4 : Int32) &&& 31)) &&& (15 : Int32))), (.ref w1), (.int (4 : Int32)), (.ref a2)])) rfl rfl (hb hby d1_138) _ ?_
            show Steps p.tables e below (T39.setTop (mkF m 139 #[.val (.int p1), .val (.ref a2), .val (.int (0 : Int32)), .val (.int (0 : Int32)), .unset] [(.int (own_tab ((p1 >>> ((4 : Int32) &&& 31)) &&& (15 : Int32)))), (.int (4 : Int32)), (.ref a2)])) _
            refine st42 _ ?_
            show Steps p.tables e below (T42.setTop (mkF m 140 #[.val (.int p1), .val (.ref a2), .val (.int (0 : Int32)), .val (.int (0 : Int32)), .unset] [])) _
            refine own_blk X42 hx bl1_140_4 (own_hb hby bd1_140_4) (pc' := 144) (Ls' := #[.val (.int p1), .val (.ref a2), .val (.int (0 : Int32)), .val (.int (0 : Int32)), .unset]) (st' := [(.int (5 : Int32)), (.ref a2)]) rfl ?_
            refine st46 _ ?_
            show Steps p.tables e below (T46.setTop (mkF m 147 #[.val (.int p1), .val (.ref a2), .val (.int (0 : Int32)), .val (.int (0 : Int32)), .unset] [(.ref w1), (.int (5 : Int32)), (.ref a2)])) _
            refine own_blk X46 hx bl1_147_3 (own_hb hby bd1_147_3) (pc' := 151) (Ls' := #[.val (.int p1), .val (.ref a2), .val (.int (0 : Int32)), .val (.int (0 : Int32)), .unset]) (st' := [(.int (p1 &&& (15 : Int32))), (.ref w1), (.int (5 : Int32)), (.ref a2)]) rfl ?_
            refine X46.baloadBytes hx (j := (p1 &&& (15 : Int32))) (v := (.int (own_tab (p1 &&& (15 : Int32))))) (by rw [e46]; exact fa48.1) (State.isArrayOf_alike hZ.alike fa48.2.1) fa48.2.2 hin47 hat47 (g := (mkF m 151 #[.val (.int p1), .val (.ref a2), .val (.int (0 : Int32)), .val (.int (0 : Int32)), .unset] [(.int (p1 &&& (15 : Int32))), (.ref w1), (.int (5 : Int32)), (.ref a2)])) rfl rfl (hb hby d1_151) _ ?_
            show Steps p.tables e below (T46.setTop (mkF m 152 #[.val (.int p1), .val (.ref a2), .val (.int (0 : Int32)), .val (.int (0 : Int32)), .unset] [(.int (own_tab (p1 &&& (15 : Int32)))), (.int (5 : Int32)), (.ref a2)])) _
            refine st49 _ ?_
            show Steps p.tables e below (T49.setTop (mkF m 153 #[.val (.int p1), .val (.ref a2), .val (.int (0 : Int32)), .val (.int (0 : Int32)), .unset] [])) _
            refine own_blk X49 hx bl1_153_4 (own_hb hby bd1_153_4) (pc' := 159) (Ls' := #[.val (.int p1), .val (.ref a2), .val (.int (0 : Int32)), .val (.int (0 : Int32)), .val (.int (6 : Int32))]) (st' := []) rfl ?_
            refine own_blk X49 hx bl1_159_1 (own_hb hby bd1_159_1) (pc' := 161) (Ls' := #[.val (.int p1), .val (.ref a2), .val (.int (0 : Int32)), .val (.int (0 : Int32)), .val (.int (6 : Int32))]) (st' := [(.int (6 : Int32))]) rfl ?_
            exact retI X49 hx Bd.returns (hb hby d1_161) hr
          · show Q1_0 Z p1 a2 u w1 cl1 k_a2 h0 n0 _ T49.heap _
            rw [e49]
            have lf52 : Arv Z h49 a2 k_a2 .byte (10 : Int32) [(.int (f1_0_a2_0 p1 u)), (.int (f1_0_a2_1 p1 u)), (.int (f1_0_a2_2 p1 u)), (.int (f1_0_a2_3 p1 u)), (.int (f1_0_a2_4 p1 u)), (.int (f1_0_a2_5 p1 u)), (.int (f1_0_a2_6 p1 u)), (.int (f1_0_a2_7 p1 u)), (.int (f1_0_a2_8 p1 u)), (.int (f1_0_a2_9 p1 u))] (.int (0 : Int32)) := by simp only [f1_0_a2_0, f1_0_a2_1, f1_0_a2_2, f1_0_a2_3, f1_0_a2_4, f1_0_a2_5, f1_0_a2_6, f1_0_a2_7, f1_0_a2_8, f1_0_a2_9, if_neg hc5, if_neg hc10, if_neg hc15, if_pos hc20]; exact V49
            exact ⟨by rw [f1_0, if_neg hc5, if_neg hc10, if_neg hc15, if_pos hc20], N49, kp51, lf52⟩
        · by_cases hc53 : p1 = (12 : Int32)
          · obtain ⟨cx54, Ar54, qq54, S54, N54_, H54, G54⟩ := id V1
            have hin54 : ¬ ((1 : Int32) < 0 ∨ cx54.slots.size ≤ ((1 : Int32)).toNatClampNeg) := inb_of S54 ⟨by decide, by decide⟩
            obtain ⟨T54, h54, X54, e54, W54, st54⟩ := stB X1 hx hZ e1 Ar54 (j := (1 : Int32)) hin54 (g := (mkF m 80 #[.val (.int p1), .val (.ref a2), .val (.int (0 : Int32)), .val (.int (102 : Int32)), .unset] [(.int (102 : Int32)), (.int (1 : Int32)), (.ref a2)])) rfl rfl (hb hby d1_80)
            have V54 : Arv Z h54 a2 k_a2 .byte (10 : Int32) [(.int (nar .byte (92 : Int32))), (.int (nar .byte (102 : Int32))), (.int u), (.int u), (.int u), (.int u), (.int u), (.int u), (.int u), (.int u)] (.int (0 : Int32)) := Arv.set Ar54 qq54 S54 N54_ H54 G54 (fits_nar_byte _) W54 1 rfl (Nat.le_of_ble_eq_true rfl)
            have zs55 : n0 ≤ h54.size := Nat.le_trans zs2 (Keep.of_wr W54).1
            have kp56 : Keep h0 h54 [a2] := kp3.wr W54 (Or.inl (List.mem_of_getElem? (i := 0) rfl))
            have N54 := Fr.snoc X54 N1 g_a2
            obtain ⟨fs, hr, hrun, hended, hW, hsame⟩ := X54.leave (v := some (.int (2 : Int32))) (fun h => by rw [Bd.returns] at h; cases h)
            refine ⟨_, _, pre4 _ ?_, hrun, hended, _, _, rfl, ?_, ⟨_, rfl⟩, hW, hsame.mono (by decide) (by decide)⟩
            · show Steps p.tables e below (T1.setTop (mkF m 6 #[.val (.int p1), .val (.ref a2), .val (.int (0 : Int32)), .unset, .unset] [(.int p1)])) _
              refine XS.tswIn X1.here hx rfl (pc0 := 6) (pc' := 59) (o := 53) rfl (hb hby d1_6) rfl (by rw [hc53]; decide) (by rw [hc53]; rfl) (by decide) (by decide) ?_
              show Steps p.tables e below (T1.setTop (mkF m 59 #[.val (.int p1), .val (.ref a2), .val (.int (0 : Int32)), .unset, .unset] [])) _
              refine own_blk X1 hx bl1_59_3 (own_hb hby bd1_59_3) (pc' := 71) (Ls' := #[.val (.int p1), .val (.ref a2), .val (.int (0 : Int32)), .val (.int (102 : Int32)), .unset]) (st' := []) rfl ?_
              refine own_blk X1 hx bl1_71_1 (own_hb hby bd1_71_1) (pc' := 72) (Ls' := #[.val (.int p1), .val (.ref a2), .val (.int (0 : Int32)), .val (.int (102 : Int32)), .unset]) (st' := [(.int (102 : Int32))]) rfl ?_
              refine XS.ifNo X1.here hx rfl (hb hby d1_72) rfl ((if0 _ _).trans (feq (by decide : ¬ ((102 : Int32) = (0 : Int32)))).1) ?_
              show Steps p.tables e below (T1.setTop (mkF m 75 #[.val (.int p1), .val (.ref a2), .val (.int (0 : Int32)), .val (.int (102 : Int32)), .unset] [])) _
              refine own_blk X1 hx bl1_75_5 (own_hb hby bd1_75_5) (pc' := 80) (Ls' := #[.val (.int p1), .val (.ref a2), .val (.int (0 : Int32)), .val (.int (102 : Int32)), .unset]) (st' := [(.int (102 : Int32)), (.int (1 : Int32)), (.ref a2)]) rfl ?_
              refine st54 _ ?_
              show Steps p.tables e below (T54.setTop (mkF m 81 #[.val (.int p1), .val (.ref a2), .val (.int (0 : Int32)), .val (.int (102 : Int32)), .unset] [])) _
              refine own_blk X54 hx bl1_81_4 (own_hb hby bd1_81_4) (pc' := 86) (Ls' := #[.val (.int p1), .val (.ref a2), .val (.int (0 : Int32)), .val (.int (102 : Int32)), .val (.int (2 : Int32))]) (st' := []) rfl ?_
              refine own_blk X54 hx bl1_86_2 (own_hb hby bd1_86_2) (pc' := 161) (Ls' := #[.val (.int p1), .val (.ref a2), .val (.int (0 : Int32)), .val (.int (102 : Int32)), .val (.int (2 : Int32))]) (st' := [(.int (2 : Int32))]) rfl ?_
              exact retI X54 hx Bd.returns (hb hby d1_161) hr
            · show Q1_0 Z p1 a2 u w1 cl1 k_a2 h0 n0 _ T54.heap _
              rw [e54]
              have lf57 : Arv Z h54 a2 k_a2 .byte (10 : Int32) [(.int (f1_0_a2_0 p1 u)), (.int (f1_0_a2_1 p1 u)), (.int (f1_0_a2_2 p1 u)), (.int (f1_0_a2_3 p1 u)), (.int (f1_0_a2_4 p1 u)), (.int (f1_0_a2_5 p1 u)), (.int (f1_0_a2_6 p1 u)), (.int (f1_0_a2_7 p1 u)), (.int (f1_0_a2_8 p1 u)), (.int (f1_0_a2_9 p1 u))] (.int (0 : Int32)) := by simp only [f1_0_a2_0, f1_0_a2_1, f1_0_a2_2, f1_0_a2_3, f1_0_a2_4, f1_0_a2_5, f1_0_a2_6, f1_0_a2_7, f1_0_a2_8, f1_0_a2_9, if_neg hc5, if_neg hc10, if_neg hc15, if_neg hc20, if_pos hc53]; exact V54
              exact ⟨by rw [f1_0, if_neg hc5, if_neg hc10, if_neg hc15, if_neg hc20, if_pos hc53], N54, kp56, lf57⟩
          · by_cases hc58 : p1 = (13 : Int32)
            · obtain ⟨cx59, Ar59, qq59, S59, N59_, H59, G59⟩ := id V1
              have hin59 : ¬ ((1 : Int32) < 0 ∨ cx59.slots.size ≤ ((1 : Int32)).toNatClampNeg) := inb_of S59 ⟨by decide, by decide⟩
              obtain ⟨T59, h59, X59, e59, W59, st59⟩ := stB X1 hx hZ e1 Ar59 (j := (1 : Int32)) hin59 (g := (mkF m 80 #[.val (.int p1), .val (.ref a2), .val (.int (0 : Int32)), .val (.int (114 : Int32)), .unset] [(.int (114 : Int32)), (.int (1 : Int32)), (.ref a2)])) rfl rfl (hb hby d1_80)
              have V59 : Arv Z h59 a2 k_a2 .byte (10 : Int32) [(.int (nar .byte (92 : Int32))), (.int (nar .byte (114 : Int32))), (.int u), (.int u), (.int u), (.int u), (.int u), (.int u), (.int u), (.int u)] (.int (0 : Int32)) := Arv.set Ar59 qq59 S59 N59_ H59 G59 (fits_nar_byte _) W59 1 rfl (Nat.le_of_ble_eq_true rfl)
              have zs60 : n0 ≤ h59.size := Nat.le_trans zs2 (Keep.of_wr W59).1
              have kp61 : Keep h0 h59 [a2] := kp3.wr W59 (Or.inl (List.mem_of_getElem? (i := 0) rfl))
              have N59 := Fr.snoc X59 N1 g_a2
              obtain ⟨fs, hr, hrun, hended, hW, hsame⟩ := X59.leave (v := some (.int (2 : Int32))) (fun h => by rw [Bd.returns] at h; cases h)
              refine ⟨_, _, pre4 _ ?_, hrun, hended, _, _, rfl, ?_, ⟨_, rfl⟩, hW, hsame.mono (by decide) (by decide)⟩
              · show Steps p.tables e below (T1.setTop (mkF m 6 #[.val (.int p1), .val (.ref a2), .val (.int (0 : Int32)), .unset, .unset] [(.int p1)])) _
                refine XS.tswIn X1.here hx rfl (pc0 := 6) (pc' := 64) (o := 58) rfl (hb hby d1_6) rfl (by rw [hc58]; decide) (by rw [hc58]; rfl) (by decide) (by decide) ?_
                show Steps p.tables e below (T1.setTop (mkF m 64 #[.val (.int p1), .val (.ref a2), .val (.int (0 : Int32)), .unset, .unset] [])) _
                refine own_blk X1 hx bl1_64_3 (own_hb hby bd1_64_3) (pc' := 71) (Ls' := #[.val (.int p1), .val (.ref a2), .val (.int (0 : Int32)), .val (.int (114 : Int32)), .unset]) (st' := []) rfl ?_
                refine own_blk X1 hx bl1_71_1 (own_hb hby bd1_71_1) (pc' := 72) (Ls' := #[.val (.int p1), .val (.ref a2), .val (.int (0 : Int32)), .val (.int (114 : Int32)), .unset]) (st' := [(.int (114 : Int32))]) rfl ?_
                refine XS.ifNo X1.here hx rfl (hb hby d1_72) rfl ((if0 _ _).trans (feq (by decide : ¬ ((114 : Int32) = (0 : Int32)))).1) ?_
                show Steps p.tables e below (T1.setTop (mkF m 75 #[.val (.int p1), .val (.ref a2), .val (.int (0 : Int32)), .val (.int (114 : Int32)), .unset] [])) _
                refine own_blk X1 hx bl1_75_5 (own_hb hby bd1_75_5) (pc' := 80) (Ls' := #[.val (.int p1), .val (.ref a2), .val (.int (0 : Int32)), .val (.int (114 : Int32)), .unset]) (st' := [(.int (114 : Int32)), (.int (1 : Int32)), (.ref a2)]) rfl ?_
                refine st59 _ ?_
                show Steps p.tables e below (T59.setTop (mkF m 81 #[.val (.int p1), .val (.ref a2), .val (.int (0 : Int32)), .val (.int (114 : Int32)), .unset] [])) _
                refine own_blk X59 hx bl1_81_4 (own_hb hby bd1_81_4) (pc' := 86) (Ls' := #[.val (.int p1), .val (.ref a2), .val (.int (0 : Int32)), .val (.int (114 : Int32)), .val (.int (2 : Int32))]) (st' := []) rfl ?_
                refine own_blk X59 hx bl1_86_2 (own_hb hby bd1_86_2) (pc' := 161) (Ls' := #[.val (.int p1), .val (.ref a2), .val (.int (0 : Int32)), .val (.int (114 : Int32)), .val (.int (2 : Int32))]) (st' := [(.int (2 : Int32))]) rfl ?_
                exact retI X59 hx Bd.returns (hb hby d1_161) hr
              · show Q1_0 Z p1 a2 u w1 cl1 k_a2 h0 n0 _ T59.heap _
                rw [e59]
                have lf62 : Arv Z h59 a2 k_a2 .byte (10 : Int32) [(.int (f1_0_a2_0 p1 u)), (.int (f1_0_a2_1 p1 u)), (.int (f1_0_a2_2 p1 u)), (.int (f1_0_a2_3 p1 u)), (.int (f1_0_a2_4 p1 u)), (.int (f1_0_a2_5 p1 u)), (.int (f1_0_a2_6 p1 u)), (.int (f1_0_a2_7 p1 u)), (.int (f1_0_a2_8 p1 u)), (.int (f1_0_a2_9 p1 u))] (.int (0 : Int32)) := by simp only [f1_0_a2_0, f1_0_a2_1, f1_0_a2_2, f1_0_a2_3, f1_0_a2_4, f1_0_a2_5, f1_0_a2_6, f1_0_a2_7, f1_0_a2_8, f1_0_a2_9, if_neg hc5, if_neg hc10, if_neg hc15, if_neg hc20, if_neg hc53, if_pos hc58]; exact V59
                exact ⟨by rw [f1_0, if_neg hc5, if_neg hc10, if_neg hc15, if_neg hc20, if_neg hc53, if_pos hc58], N59, kp61, lf62⟩
            · obtain ⟨cx63, Ar63, qq63, S63, N63_, H63, G63⟩ := id V1
              have hin63 : ¬ ((1 : Int32) < 0 ∨ cx63.slots.size ≤ ((1 : Int32)).toNatClampNeg) := inb_of S63 ⟨by decide, by decide⟩
              obtain ⟨T63, h63, X63, e63, W63, st63⟩ := stB X1 hx hZ e1 Ar63 (j := (1 : Int32)) hin63 (g := (mkF m 95 #[.val (.int p1), .val (.ref a2), .val (.int (0 : Int32)), .val (.int (0 : Int32)), .unset] [(.int (117 : Int32)), (.int (1 : Int32)), (.ref a2)])) rfl rfl (hb hby d1_95)
              have V63 : Arv Z h63 a2 k_a2 .byte (10 : Int32) [(.int (nar .byte (92 : Int32))), (.int (nar .byte (117 : Int32))), (.int u), (.int u), (.int u), (.int u), (.int u), (.int u), (.int u), (.int u)] (.int (0 : Int32)) := Arv.set Ar63 qq63 S63 N63_ H63 G63 (fits_nar_byte _) W63 1 rfl (Nat.le_of_ble_eq_true rfl)
              have zs64 : n0 ≤ h63.size := Nat.le_trans zs2 (Keep.of_wr W63).1
              have kp65 : Keep h0 h63 [a2] := kp3.wr W63 (Or.inl (List.mem_of_getElem? (i := 0) rfl))
              have N63 := Fr.snoc X63 N1 g_a2
              have fa66 : Sta Z h63 "com/example/endcon/endcon/rules/LineText" "HEX_DIGITS" "[B" (.ref w1) := ((S_HEX_DIGITS.wr W1).wr W63)
              obtain ⟨T67, X67, e67, st67⟩ := getS2 X63 hx hZ hown (host := "") (Or.inl (hw _ (List.mem_of_getElem? (i := 6) rfl))) Via.refl e63 fa66 (g := (mkF m 100 #[.val (.int p1), .val (.ref a2), .val (.int (0 : Int32)), .val (.int (0 : Int32)), .unset] [(.int (2 : Int32)), (.ref a2)])) rfl (hb hby d1_100)
              have fa69 : Arr Z h63 w1 cl1 .byte := ((Ar_w1.other W1 ne_w1_a2).other W63 ne_w1_a2)
              have hin68 : ¬ ((p1 >>> ((12 : Int32) &&& 31)) < 0 ∨ cl1.slots.size ≤ ((p1 >>> ((12 : Int32) &&& 31))).toNatClampNeg) := inb_of sz1 (own_sh12 p1 hp hp2)
              have hat68 := hv _ (own_sh12 p1 hp hp2).1 (own_sh12 p1 hp hp2).2
              obtain ⟨cx70, Ar70, qq70, S70, N70_, H70, G70⟩ := id V63
              have hin70 : ¬ ((2 : Int32) < 0 ∨ cx70.slots.size ≤ ((2 : Int32)).toNatClampNeg) := inb_of S70 ⟨by decide, by decide⟩
              obtain ⟨T70, h70, X70, e70, W70, st70⟩ := stB X67 hx hZ e67 Ar70 (j := (2 : Int32)) hin70 (g := (mkF m 108 #[.val (.int p1), .val (.ref a2), .val (.int (0 : Int32)), .val (.int (0 : Int32)), .unset] [(.int (own_tab (p1 >>> ((12 : Int32) &&& 31)))), (.int (2 : Int32)), (.ref a2)])) rfl rfl (hb hby d1_108)
              have V70 : Arv Z h70 a2 k_a2 .byte (10 : Int32) [(.int (nar .byte (92 : Int32))), (.int (nar .byte (117 : Int32))), (.int (nar .byte (own_tab (p1 >>> ((12 : Int32) &&& 31))))), (.int u), (.int u), (.int u), (.int u), (.int u), (.int u), (.int u)] (.int (0 : Int32)) := Arv.set Ar70 qq70 S70 N70_ H70 G70 (fits_nar_byte _) W70 2 rfl (Nat.le_of_ble_eq_true rfl)
              have zs71 : n0 ≤ h70.size := Nat.le_trans zs64 (Keep.of_wr W70).1
              have kp72 : Keep h0 h70 [a2] := kp65.wr W70 (Or.inl (List.mem_of_getElem? (i := 0) rfl))
              have N70 := Fr.snoc X70 N63 g_a2
              have fa73 : Sta Z h70 "com/example/endcon/endcon/rules/LineText" "HEX_DIGITS" "[B" (.ref w1) := (fa66.wr W70)
              obtain ⟨T74, X74, e74, st74⟩ := getS2 X70 hx hZ hown (host := "") (Or.inl (hw _ (List.mem_of_getElem? (i := 6) rfl))) Via.refl e70 fa73 (g := (mkF m 113 #[.val (.int p1), .val (.ref a2), .val (.int (0 : Int32)), .val (.int (0 : Int32)), .unset] [(.int (3 : Int32)), (.ref a2)])) rfl (hb hby d1_113)
              have fa76 : Arr Z h70 w1 cl1 .byte := (fa69.other W70 ne_w1_a2)
              have hin75 : ¬ (((p1 >>> ((8 : Int32) &&& 31)) &&& (15 : Int32)) < 0 ∨ cl1.slots.size ≤ (((p1 >>> ((8 : Int32) &&& 31)) &&& (15 : Int32))).toNatClampNeg) := inb_of sz1 (own_m15 (p1 >>> ((8 : Int32) &&& 31)))
              have hat75 := hv _ (own_m15 (p1 >>> ((8 : Int32) &&& 31))).1 (own_m15 (p1 >>> ((8 : Int32) &&& 31))).2
              obtain ⟨cx77, Ar77, qq77, S77, N77_, H77, G77⟩ := id V70
              have hin77 : ¬ ((3 : Int32) < 0 ∨ cx77.slots.size ≤ ((3 : Int32)).toNatClampNeg) := inb_of S77 ⟨by decide, by decide⟩
              obtain ⟨T77, h77, X77, e77, W77, st77⟩ := stB X74 hx hZ e74 Ar77 (j := (3 : Int32)) hin77 (g := (mkF m 124 #[.val (.int p1), .val (.ref a2), .val (.int (0 : Int32)), .val (.int (0 : Int32)), .unset] [(.int (own_tab ((p1 >>> ((8 : Int32) &&& 31)) &&& (15 : Int32)))), (.int (3 : Int32)), (.ref a2)])) rfl rfl (hb hby d1_124)
              have V77 : Arv Z h77 a2 k_a2 .byte (10 : Int32) [(.int (nar .byte (92 : Int32))), (.int (nar .byte (117 : Int32))), (.int (nar .byte (own_tab (p1 >>> ((12 : Int32) &&& 31))))), (.int (nar .byte (own_tab ((p1 >>> ((8 : Int32) &&& 31)) &&& (15 : Int32))))), (.int u), (.int u), (.int u), (.int u), (.int u), (.int u)] (.int (0 : Int32)) := Arv.set Ar77 qq77 S77 N77_ H77 G77 (fits_nar_byte _) W77 3 rfl (Nat.le_of_ble_eq_true rfl)
              have zs78 : n0 ≤ h77.size := Nat.le_trans zs71 (Keep.of_wr W77).1
              have kp79 : Keep h0 h77 [a2] := kp72.wr W77 (Or.inl (List.mem_of_getElem? (i := 0) rfl))
              have N77 := Fr.snoc X77 N70 g_a2
              have fa80 : Sta Z h77 "com/example/endcon/endcon/rules/LineText" "HEX_DIGITS" "[B" (.ref w1) := (fa73.wr W77)
              obtain ⟨T81, X81, e81, st81⟩ := getS2 X77 hx hZ hown (host := "") (Or.inl (hw _ (List.mem_of_getElem? (i := 6) rfl))) Via.refl e77 fa80 (g := (mkF m 129 #[.val (.int p1), .val (.ref a2), .val (.int (0 : Int32)), .val (.int (0 : Int32)), .unset] [(.int (4 : Int32)), (.ref a2)])) rfl (hb hby d1_129)
              have fa83 : Arr Z h77 w1 cl1 .byte := (fa76.other W77 ne_w1_a2)
              have hin82 : ¬ (((p1 >>> ((4 : Int32) &&& 31)) &&& (15 : Int32)) < 0 ∨ cl1.slots.size ≤ (((p1 >>> ((4 : Int32) &&& 31)) &&& (15 : Int32))).toNatClampNeg) := inb_of sz1 (own_m15 (p1 >>> ((4 : Int32) &&& 31)))
              have hat82 := hv _ (own_m15 (p1 >>> ((4 : Int32) &&& 31))).1 (own_m15 (p1 >>> ((4 : Int32) &&& 31))).2
              obtain ⟨cx84, Ar84, qq84, S84, N84_, H84, G84⟩ := id V77
              have hin84 : ¬ ((4 : Int32) < 0 ∨ cx84.slots.size ≤ ((4 : Int32)).toNatClampNeg) := inb_of S84 ⟨by decide, by decide⟩
              obtain ⟨T84, h84, X84, e84, W84, st84⟩ := stB X81 hx hZ e81 Ar84 (j := (4 : Int32)) hin84 (g := (mkF m 139 #[.val (.int p1), .val (.ref a2), .val (.int (0 : Int32)), .val (.int (0 : Int32)), .unset] [(.int (own_tab ((p1 >>> ((4 : Int32) &&& 31)) &&& (15 : Int32)))), (.int (4 : Int32)), (.ref a2)])) rfl rfl (hb hby d1_139)
              have V84 : Arv Z h84 a2 k_a2 .byte (10 : Int32) [(.int (nar .byte (92 : Int32))), (.int (nar .byte (117 : Int32))), (.int (nar .byte (own_tab (p1 >>> ((12 : Int32) &&& 31))))), (.int (nar .byte (own_tab ((p1 >>> ((8 : Int32) &&& 31)) &&& (15 : Int32))))), (.int (nar .byte (own_tab ((p1 >>> ((4 : Int32) &&& 31)) &&& (15 : Int32))))), (.int u), (.int u), (.int u), (.int u), (.int u)] (.int (0 : Int32)) := Arv.set Ar84 qq84 S84 N84_ H84 G84 (fits_nar_byte _) W84 4 rfl (Nat.le_of_ble_eq_true rfl)
              have zs85 : n0 ≤ h84.size := Nat.le_trans zs78 (Keep.of_wr W84).1
              have kp86 : Keep h0 h84 [a2] := kp79.wr W84 (Or.inl (List.mem_of_getElem? (i := 0) rfl))
              have N84 := Fr.snoc X84 N77 g_a2
              have fa87 : Sta Z h84 "com/example/endcon/endcon/rules/LineText" "HEX_DIGITS" "[B" (.ref w1) := (fa80.wr W84)
              obtain ⟨T88, X88, e88, st88⟩ := getS2 X84 hx hZ hown (host := "") (Or.inl (hw _ (List.mem_of_getElem? (i := 6) rfl))) Via.refl e84 fa87 (g := (mkF m 144 #[.val (.int p1), .val (.ref a2), .val (.int (0 : Int32)), .val (.int (0 : Int32)), .unset] [(.int (5 : Int32)), (.ref a2)])) rfl (hb hby d1_144)
              have fa90 : Arr Z h84 w1 cl1 .byte := (fa83.other W84 ne_w1_a2)
              have hin89 : ¬ ((p1 &&& (15 : Int32)) < 0 ∨ cl1.slots.size ≤ ((p1 &&& (15 : Int32))).toNatClampNeg) := inb_of sz1 (own_m15 p1)
              have hat89 := hv _ (own_m15 p1).1 (own_m15 p1).2
              obtain ⟨cx91, Ar91, qq91, S91, N91_, H91, G91⟩ := id V84
              have hin91 : ¬ ((5 : Int32) < 0 ∨ cx91.slots.size ≤ ((5 : Int32)).toNatClampNeg) := inb_of S91 ⟨by decide, by decide⟩
              obtain ⟨T91, h91, X91, e91, W91, st91⟩ := stB X88 hx hZ e88 Ar91 (j := (5 : Int32)) hin91 (g := (mkF m 152 #[.val (.int p1), .val (.ref a2), .val (.int (0 : Int32)), .val (.int (0 : Int32)), .unset] [(.int (own_tab (p1 &&& (15 : Int32)))), (.int (5 : Int32)), (.ref a2)])) rfl rfl (hb hby d1_152)
              have V91 : Arv Z h91 a2 k_a2 .byte (10 : Int32) [(.int (nar .byte (92 : Int32))), (.int (nar .byte (117 : Int32))), (.int (nar .byte (own_tab (p1 >>> ((12 : Int32) &&& 31))))), (.int (nar .byte (own_tab ((p1 >>> ((8 : Int32) &&& 31)) &&& (15 : Int32))))), (.int (nar .byte (own_tab ((p1 >>> ((4 : Int32) &&& 31)) &&& (15 : Int32))))), (.int (nar .byte (own_tab (p1 &&& (15 : Int32))))), (.int u), (.int u), (.int u), (.int u)] (.int (0 : Int32)) := Arv.set Ar91 qq91 S91 N91_ H91 G91 (fits_nar_byte _) W91 5 rfl (Nat.le_of_ble_eq_true rfl)
              have zs92 : n0 ≤ h91.size := Nat.le_trans zs85 (Keep.of_wr W91).1
              have kp93 : Keep h0 h91 [a2] := kp86.wr W91 (Or.inl (List.mem_of_getElem? (i := 0) rfl))
              have N91 := Fr.snoc X91 N84 g_a2
              obtain ⟨fs, hr, hrun, hended, hW, hsame⟩ := X91.leave (v := some (.int (6 : Int32))) (fun h => by rw [Bd.returns] at h; cases h)
              refine ⟨_, _, pre4 _ ?_, hrun, hended, _, _, rfl, ?_, ⟨_, rfl⟩, hW, hsame.mono (by decide) (by decide)⟩
              · show Steps p.tables e below (T1.setTop (mkF m 6 #[.val (.int p1), .val (.ref a2), .val (.int (0 : Int32)), .unset, .unset] [(.int p1)])) _
                refine XS.tswOut X1.here hx rfl (pc0 := 6) (pc' := 69) rfl (hb hby d1_6) rfl (own_out8_13 hc5 hc10 hc15 hc20 hc53 hc58) (by decide) (by decide) ?_
                show Steps p.tables e below (T1.setTop (mkF m 69 #[.val (.int p1), .val (.ref a2), .val (.int (0 : Int32)), .unset, .unset] [])) _
                refine own_blk X1 hx bl1_69_2 (own_hb hby bd1_69_2) (pc' := 71) (Ls' := #[.val (.int p1), .val (.ref a2), .val (.int (0 : Int32)), .val (.int (0 : Int32)), .unset]) (st' := []) rfl ?_
                refine own_blk X1 hx bl1_71_1 (own_hb hby bd1_71_1) (pc' := 72) (Ls' := #[.val (.int p1), .val (.ref a2), .val (.int (0 : Int32)), .val (.int (0 : Int32)), .unset]) (st' := [(.int (0 : Int32))]) rfl ?_
                refine XS.ifYes X1.here hx rfl (pc0 := 72) (pc' := 89) rfl (hb hby d1_72) rfl ((if0 _ _).trans (teq (by decide : (0 : Int32) = (0 : Int32))).1) (by decide) (by decide) ?_
                show Steps p.tables e below (T1.setTop (mkF m 89 #[.val (.int p1), .val (.ref a2), .val (.int (0 : Int32)), .val (.int (0 : Int32)), .unset] [])) _
                refine own_blk X1 hx bl1_89_5 (own_hb hby bd1_89_5) (pc' := 95) (Ls' := #[.val (.int p1), .val (.ref a2), .val (.int (0 : Int32)), .val (.int (0 : Int32)), .unset]) (st' := [(.int (117 : Int32)), (.int (1 : Int32)), (.ref a2)]) rfl ?_
                refine st63 _ ?_
                show Steps p.tables e below (T63.setTop (mkF m 96 #[.val (.int p1), .val (.ref a2), .val (.int (0 : Int32)), .val (.int (0 : Int32)), .unset] [])) _
                refine own_blk X63 hx bl1_96_4 (own_hb hby bd1_96_4) (pc' := 100) (Ls' := #[.val (.int p1), .val (.ref a2), .val (.int (0 : Int32)), .val (.int (0 : Int32)), .unset]) (st' := [(.int (2 : Int32)), (.ref a2)]) rfl ?_
                refine st67 _ ?_
                show Steps p.tables e below (T67.setTop (mkF m 103 #[.val (.int p1), .val (.ref a2), .val (.int (0 : Int32)), .val (.int (0 : Int32)), .unset] [(.ref w1), (.int (2 : Int32)), (.ref a2)])) _
                refine own_blk X67 hx bl1_103_3 (own_hb hby bd1_103_3) (pc' := 107) (Ls' := #[.val (.int p1), .val (.ref a2), .val (.int (0 : Int32)), .val (.int (0 : Int32)), .unset]) (st' := [(.int (p1 >>> ((12 : Int32) &&& 31))), (.ref w1), (.int (2 : Int32)), (.ref a2)]) rfl ?_
                refine X67.baloadBytes hx (j := (p1 >>> ((12 : Int32) &&& 31))) (v := (.int (own_tab (p1 >>> ((12 : Int32) &&& 31))))) (by rw [e67]; exact fa69.1) (State.isArrayOf_alike hZ.alike fa69.2.1) fa69.2.2 hin68 hat68 (g := (mkF m 107 #[.val (.int p1), .val (.ref a2), .val (.int (0 : Int32)), .val (.int (0 : Int32)), .unset] [(.int (p1 >>> ((12 : Int32) &&& 31))), (.ref w1), (.int (2 : Int32)), (.ref a2)])) rfl rfl (hb hby d1_107) _ ?_
                show Steps p.tables e below (T67.setTop (mkF m 108 #[.val (.int p1), .val (.ref a2), .val (.int (0 : Int32)), .val (.int (0 : Int32)), .unset] [(.int (own_tab (p1 >>> ((12 : Int32) &&& 31)))), (.int (2 : Int32)), (.ref a2)])) _
                refine st70 _ ?_
                show Steps p.tables e below (T70.setTop (mkF m 109 #[.val (.int p1), .val (.ref a2), .val (.int (0 : Int32)), .val (.int (0 : Int32)), .unset] [])) _
                refine own_blk X70 hx bl1_109_4 (own_hb hby bd1_109_4) (pc' := 113) (Ls' := #[.val (.int p1), .val (.ref a2), .val (.int (0 : Int32)), .val (.int (0 : Int32)), .unset]) (st' := [(.int (3 : Int32)), (.ref a2)]) rfl ?_
                refine st74 _ ?_
                show Steps p.tables e below (T74.setTop (mkF m 116 #[.val (.int p1), .val (.ref a2), .val (.int (0 : Int32)), .val (.int (0 : Int32)), .unset] [(.ref w1), (.int (3 : Int32)), (.ref a2)])) _
                refine own_blk X74 hx bl1_116_5 (own_hb hby bd1_116_5) (pc' := 123) (Ls' := #[.val (.int p1), .val (.ref a2), .val (.int (0 : Int32)), .val (.int (0 : Int32)), .unset]) (st' := [(.int ((p1 >>> ((8 : Int32) &&& 31)) &&& (15 : Int32))), (.ref w1), (.int (3 : Int32)), (.ref a2)]) rfl ?_
                refine X74.baloadBytes hx (j := ((p1 >>> ((8 : Int32) &&& 31)) &&& (15 : Int32))) (v := (.int (own_tab ((p1 >>> ((8 : Int32) &&& 31)) &&& (15 : Int32))))) (by rw [e74]; exact fa76.1) (State.isArrayOf_alike hZ.alike fa76.2.1) fa76.2.2 hin75 hat75 (g := (mkF m 123 #[.val (.int p1), .val (.ref a2), .val (.int (0 : Int32)), .val (.int (0 : Int32)), .unset] [(.int ((p1 >>> ((8 : Int32) &&& 31)) &&& (15 : Int32))), (.ref w1), (.int (3 : Int32)), (.ref a2)])) rfl rfl (hb hby d1_123) _ ?_
                show Steps p.tables e below (T74.setTop (mkF m 124 #[.val (.int p1), .val (.ref a2), .val (.int (0 : Int32)), .val (.int (0 : Int32)), .unset] [(.int (own_tab ((p1 >>> ((8 : Int32) &&& 31)) &&& (15 : Int32)))), (.int (3 : Int32)), (.ref a2)])) _
                refine st77 _ ?_
                show Steps p.tables e below (T77.setTop (mkF m 125 #[.val (.int p1), .val (.ref a2), .val (.int (0 : Int32)), .val (.int (0 : Int32)), .unset] [])) _
                refine own_blk X77 hx bl1_125_4 (own_hb hby bd1_125_4) (pc' := 129) (Ls' := #[.val (.int p1), .val (.ref a2), .val (.int (0 : Int32)), .val (.int (0 : Int32)), .unset]) (st' := [(.int (4 : Int32)), (.ref a2)]) rfl ?_
                refine st81 _ ?_
                show Steps p.tables e below (T81.setTop (mkF m 132 #[.val (.int p1), .val (.ref a2), .val (.int (0 : Int32)), .val (.int (0 : Int32)), .unset] [(.ref w1), (.int (4 : Int32)), (.ref a2)])) _
                refine own_blk X81 hx bl1_132_5 (own_hb hby bd1_132_5) (pc' := 138) (Ls' := #[.val (.int p1), .val (.ref a2), .val (.int (0 : Int32)), .val (.int (0 : Int32)), .unset]) (st' := [(.int ((p1 >>> ((4 : Int32) &&& 31)) &&& (15 : Int32))), (.ref w1), (.int (4 : Int32)), (.ref a2)]) rfl ?_
                refine X81.baloadBytes hx (j := ((p1 >>> ((4 : Int32) &&& 31)) &&& (15 : Int32))) (v := (.int (own_tab ((p1 >>> ((4 : Int32) &&& 31)) &&& (15 : Int32))))) (by rw [e81]; exact fa83.1) (State.isArrayOf_alike hZ.alike fa83.2.1) fa83.2.2 hin82 hat82 (g := (mkF m 138 #[.val (.int p1), .val (.ref a2), .val (.int (0 : Int32)), .val (.int (0 : Int32)), .unset] [(.int ((p1 >>> ((4 : Int32) &&& 31)) &&& (15 : Int32))), (.ref w1), (.int (4 : Int32)), (.ref a2)])) rfl rfl (hb hby d1_138) _ ?_
                show Steps p.tables e below (T81.setTop (mkF m 139 #[.val (.int p1), .val (.ref a2), .val (.int (0 : Int32)), .val (.int (0 : Int32)), .unset] [(.int (own_tab ((p1 >>> ((4 : Int32) &&& 31)) &&& (15 : Int32)))), (.int (4 : Int32)), (.ref a2)])) _
                refine st84 _ ?_
                show Steps p.tables e below (T84.setTop (mkF m 140 #[.val (.int p1), .val (.ref a2), .val (.int (0 : Int32)), .val (.int (0 : Int32)), .unset] [])) _
                refine own_blk X84 hx bl1_140_4 (own_hb hby bd1_140_4) (pc' := 144) (Ls' := #[.val (.int p1), .val (.ref a2), .val (.int (0 : Int32)), .val (.int (0 : Int32)), .unset]) (st' := [(.int (5 : Int32)), (.ref a2)]) rfl ?_
                refine st88 _ ?_
                show Steps p.tables e below (T88.setTop (mkF m 147 #[.val (.int p1), .val (.ref a2), .val (.int (0 : Int32)), .val (.int (0 : Int32)), .unset] [(.ref w1), (.int (5 : Int32)), (.ref a2)])) _
                refine own_blk X88 hx bl1_147_3 (own_hb hby bd1_147_3) (pc' := 151) (Ls' := #[.val (.int p1), .val (.ref a2), .val (.int (0 : Int32)), .val (.int (0 : Int32)), .unset]) (st' := [(.int (p1 &&& (15 : Int32))), (.ref w1), (.int (5 : Int32)), (.ref a2)]) rfl ?_
                refine X88.baloadBytes hx (j := (p1 &&& (15 : Int32))) (v := (.int (own_tab (p1 &&& (15 : Int32))))) (by rw [e88]; exact fa90.1) (State.isArrayOf_alike hZ.alike fa90.2.1) fa90.2.2 hin89 hat89 (g := (mkF m 151 #[.val (.int p1), .val (.ref a2), .val (.int (0 : Int32)), .val (.int (0 : Int32)), .unset] [(.int (p1 &&& (15 : Int32))), (.ref w1), (.int (5 : Int32)), (.ref a2)])) rfl rfl (hb hby d1_151) _ ?_
                show Steps p.tables e below (T88.setTop (mkF m 152 #[.val (.int p1), .val (.ref a2), .val (.int (0 : Int32)), .val (.int (0 : Int32)), .unset] [(.int (own_tab (p1 &&& (15 : Int32)))), (.int (5 : Int32)), (.ref a2)])) _
                refine st91 _ ?_
                show Steps p.tables e below (T91.setTop (mkF m 153 #[.val (.int p1), .val (.ref a2), .val (.int (0 : Int32)), .val (.int (0 : Int32)), .unset] [])) _
                refine own_blk X91 hx bl1_153_4 (own_hb hby bd1_153_4) (pc' := 159) (Ls' := #[.val (.int p1), .val (.ref a2), .val (.int (0 : Int32)), .val (.int (0 : Int32)), .val (.int (6 : Int32))]) (st' := []) rfl ?_
                refine own_blk X91 hx bl1_159_1 (own_hb hby bd1_159_1) (pc' := 161) (Ls' := #[.val (.int p1), .val (.ref a2), .val (.int (0 : Int32)), .val (.int (0 : Int32)), .val (.int (6 : Int32))]) (st' := [(.int (6 : Int32))]) rfl ?_
                exact retI X91 hx Bd.returns (hb hby d1_161) hr
              · show Q1_0 Z p1 a2 u w1 cl1 k_a2 h0 n0 _ T91.heap _
                rw [e91]
                have lf94 : Arv Z h91 a2 k_a2 .byte (10 : Int32) [(.int (f1_0_a2_0 p1 u)), (.int (f1_0_a2_1 p1 u)), (.int (f1_0_a2_2 p1 u)), (.int (f1_0_a2_3 p1 u)), (.int (f1_0_a2_4 p1 u)), (.int (f1_0_a2_5 p1 u)), (.int (f1_0_a2_6 p1 u)), (.int (f1_0_a2_7 p1 u)), (.int (f1_0_a2_8 p1 u)), (.int (f1_0_a2_9 p1 u))] (.int (0 : Int32)) := by simp only [f1_0_a2_0, f1_0_a2_1, f1_0_a2_2, f1_0_a2_3, f1_0_a2_4, f1_0_a2_5, f1_0_a2_6, f1_0_a2_7, f1_0_a2_8, f1_0_a2_9, if_neg hc5, if_neg hc10, if_neg hc15, if_neg hc20, if_neg hc53, if_neg hc58]; exact V91
                exact ⟨by rw [f1_0, if_neg hc5, if_neg hc10, if_neg hc15, if_neg hc20, if_neg hc53, if_neg hc58], N91, kp93, lf94⟩
theorem own_hexd {j : Int32} (h0 : ¬ j < 0) (h1 : j < 16) : (nar .byte (own_tab j)) = (nar .byte ((f4 j).toInt8.toInt32)) := by
  have l16 : (16 : Int32).toInt = 16 := by decide
  have h2 : j.toInt < (16 : Nat) := by rw [Int32.lt_iff_toInt_lt, l16] at h1; exact h1
  exact own_small (n := 16) (fun j => (nar .byte (own_tab j)) = (nar .byte ((f4 j).toInt8.toInt32))) (by decide +kernel) h0 h2
theorem own_nib (tc : Int32) (hp : ¬ tc < 0) (hp2 : tc < 65536) : (nar .byte (own_tab (tc >>> ((12 : Int32) &&& 31)))) = (nar .byte ((f4 ((tc >>> ((12 : Int32) &&& 31)) &&& (15 : Int32))).toInt8.toInt32)) ∧
    (nar .byte (own_tab ((tc >>> ((8 : Int32) &&& 31)) &&& (15 : Int32)))) = (nar .byte ((f4 ((tc >>> ((8 : Int32) &&& 31)) &&& (15 : Int32))).toInt8.toInt32)) ∧
    (nar .byte (own_tab ((tc >>> ((4 : Int32) &&& 31)) &&& (15 : Int32)))) = (nar .byte ((f4 ((tc >>> ((4 : Int32) &&& 31)) &&& (15 : Int32))).toInt8.toInt32)) ∧
    (nar .byte (own_tab (tc &&& (15 : Int32)))) = (nar .byte ((f4 ((tc >>> ((0 : Int32) &&& 31)) &&& (15 : Int32))).toInt8.toInt32)) := by
  have q := own_sh12 tc hp hp2
  have e : (tc >>> ((12 : Int32) &&& 31)) &&& (15 : Int32) = tc >>> ((12 : Int32) &&& 31) := by
    apply Int32.toInt_inj.mp
    have m := c_mask (tc >>> ((12 : Int32) &&& 31)) 15 4 (by decide) (by decide)
    have l0 : (0 : Int32).toInt = 0 := by decide
    have l16 : (16 : Int32).toInt = 16 := by decide
    simp only [Int32.lt_iff_toInt_lt, l0, l16] at q
    rw [m]; omega
  have e0 : tc >>> ((0 : Int32) &&& 31) = tc := by
    apply Int32.toInt_inj.mp
    rw [c_ishr tc 0 0 (by decide)]; omega
  refine ⟨?_, own_hexd (own_m15 _).1 (own_m15 _).2, own_hexd (own_m15 _).1 (own_m15 _).2, ?_⟩
  · rw [e]; exact own_hexd q.1 q.2
  · rw [e0]; exact own_hexd (own_m15 _).1 (own_m15 _).2
theorem own_end0n (tc u : Int32) (h : ¬ (f2 tc) = (0 : Int32)) : (f1_0 tc u) = (2 : Int32) := by
  by_cases h8 : tc = 8
  · subst h8; rfl
  by_cases h9 : tc = 9
  · subst h9; rfl
  by_cases h10 : tc = 10
  · subst h10; rfl
  by_cases h12 : tc = 12
  · subst h12; rfl
  by_cases h13 : tc = 13
  · subst h13; rfl
  have hsf : f2 tc = 0 := by rw [f2, if_neg h8, if_neg h9, if_neg h10, if_neg h12, if_neg h13]
  exact absurd hsf h
theorem own_end0z (tc u : Int32) (h : (f2 tc) = (0 : Int32)) : (f1_0 tc u) = (6 : Int32) := by
  by_cases h8 : tc = 8
  · subst h8; exact absurd h (by decide)
  by_cases h9 : tc = 9
  · subst h9; exact absurd h (by decide)
  by_cases h10 : tc = 10
  · subst h10; exact absurd h (by decide)
  by_cases h12 : tc = 12
  · subst h12; exact absurd h (by decide)
  by_cases h13 : tc = 13
  · subst h13; exact absurd h (by decide)
  unfold f1_0
  simp only [h8, h9, h10, h12, h13, if_false, ite_self]
theorem own_e0_0 (tc t2 : Int32) (hp : ¬ tc < 0) (hp2 : tc < 65536) : (f1_0_a2_0 tc (nar .byte (t2.toInt8.toInt32))) = (f3 (0 : Int32) (0 : Int32) tc (t2.toInt8.toInt32)) := by
  have n1 := own_nib tc hp hp2
  by_cases h8 : tc = 8
  · subst h8; rfl
  by_cases h9 : tc = 9
  · subst h9; rfl
  by_cases h10 : tc = 10
  · subst h10; rfl
  by_cases h12 : tc = 12
  · subst h12; rfl
  by_cases h13 : tc = 13
  · subst h13; rfl
  have hsf : f2 tc = 0 := by rw [f2, if_neg h8, if_neg h9, if_neg h10, if_neg h12, if_neg h13]
  unfold f1_0_a2_0 f3
  simp only [hsf, h8, h9, h10, h12, h13, if_false, ite_self]
  first | rfl | exact n1.1 | exact n1.2.1 | exact n1.2.2.1 | exact n1.2.2.2
theorem own_e0_1 (tc t2 : Int32) (hp : ¬ tc < 0) (hp2 : tc < 65536) : (f1_0_a2_1 tc (nar .byte (t2.toInt8.toInt32))) = (f3 (1 : Int32) (0 : Int32) tc (t2.toInt8.toInt32)) := by
  have n1 := own_nib tc hp hp2
  by_cases h8 : tc = 8
  · subst h8; rfl
  by_cases h9 : tc = 9
  · subst h9; rfl
  by_cases h10 : tc = 10
  · subst h10; rfl
  by_cases h12 : tc = 12
  · subst h12; rfl
  by_cases h13 : tc = 13
  · subst h13; rfl
  have hsf : f2 tc = 0 := by rw [f2, if_neg h8, if_neg h9, if_neg h10, if_neg h12, if_neg h13]
  unfold f1_0_a2_1 f3
  simp only [hsf, h8, h9, h10, h12, h13, if_false, ite_self]
  first | rfl | exact n1.1 | exact n1.2.1 | exact n1.2.2.1 | exact n1.2.2.2
theorem own_e0_2 (tc t2 : Int32) (hp : ¬ tc < 0) (hp2 : tc < 65536) : (f1_0_a2_2 tc (nar .byte (t2.toInt8.toInt32))) = (f3 (2 : Int32) (0 : Int32) tc (t2.toInt8.toInt32)) := by
  have n1 := own_nib tc hp hp2
  by_cases h8 : tc = 8
  · subst h8; rfl
  by_cases h9 : tc = 9
  · subst h9; rfl
  by_cases h10 : tc = 10
  · subst h10; rfl
  by_cases h12 : tc = 12
  · subst h12; rfl
  by_cases h13 : tc = 13
  · subst h13; rfl
  have hsf : f2 tc = 0 := by rw [f2, if_neg h8, if_neg h9, if_neg h10, if_neg h12, if_neg h13]
  unfold f1_0_a2_2 f3
  simp only [hsf, h8, h9, h10, h12, h13, if_false, ite_self]
  first | rfl | exact n1.1 | exact n1.2.1 | exact n1.2.2.1 | exact n1.2.2.2
theorem own_e0_3 (tc t2 : Int32) (hp : ¬ tc < 0) (hp2 : tc < 65536) : (f1_0_a2_3 tc (nar .byte (t2.toInt8.toInt32))) = (f3 (3 : Int32) (0 : Int32) tc (t2.toInt8.toInt32)) := by
  have n1 := own_nib tc hp hp2
  by_cases h8 : tc = 8
  · subst h8; rfl
  by_cases h9 : tc = 9
  · subst h9; rfl
  by_cases h10 : tc = 10
  · subst h10; rfl
  by_cases h12 : tc = 12
  · subst h12; rfl
  by_cases h13 : tc = 13
  · subst h13; rfl
  have hsf : f2 tc = 0 := by rw [f2, if_neg h8, if_neg h9, if_neg h10, if_neg h12, if_neg h13]
  unfold f1_0_a2_3 f3
  simp only [hsf, h8, h9, h10, h12, h13, if_false, ite_self]
  first | rfl | exact n1.1 | exact n1.2.1 | exact n1.2.2.1 | exact n1.2.2.2
theorem own_e0_4 (tc t2 : Int32) (hp : ¬ tc < 0) (hp2 : tc < 65536) : (f1_0_a2_4 tc (nar .byte (t2.toInt8.toInt32))) = (f3 (4 : Int32) (0 : Int32) tc (t2.toInt8.toInt32)) := by
  have n1 := own_nib tc hp hp2
  by_cases h8 : tc = 8
  · subst h8; rfl
  by_cases h9 : tc = 9
  · subst h9; rfl
  by_cases h10 : tc = 10
  · subst h10; rfl
  by_cases h12 : tc = 12
  · subst h12; rfl
  by_cases h13 : tc = 13
  · subst h13; rfl
  have hsf : f2 tc = 0 := by rw [f2, if_neg h8, if_neg h9, if_neg h10, if_neg h12, if_neg h13]
  unfold f1_0_a2_4 f3
  simp only [hsf, h8, h9, h10, h12, h13, if_false, ite_self]
  first | rfl | exact n1.1 | exact n1.2.1 | exact n1.2.2.1 | exact n1.2.2.2
theorem own_e0_5 (tc t2 : Int32) (hp : ¬ tc < 0) (hp2 : tc < 65536) : (f1_0_a2_5 tc (nar .byte (t2.toInt8.toInt32))) = (f3 (5 : Int32) (0 : Int32) tc (t2.toInt8.toInt32)) := by
  have n1 := own_nib tc hp hp2
  by_cases h8 : tc = 8
  · subst h8; rfl
  by_cases h9 : tc = 9
  · subst h9; rfl
  by_cases h10 : tc = 10
  · subst h10; rfl
  by_cases h12 : tc = 12
  · subst h12; rfl
  by_cases h13 : tc = 13
  · subst h13; rfl
  have hsf : f2 tc = 0 := by rw [f2, if_neg h8, if_neg h9, if_neg h10, if_neg h12, if_neg h13]
  unfold f1_0_a2_5 f3
  simp only [hsf, h8, h9, h10, h12, h13, if_false, ite_self]
  first | rfl | exact n1.1 | exact n1.2.1 | exact n1.2.2.1 | exact n1.2.2.2
theorem own_e0_6 (tc t2 : Int32) (hp : ¬ tc < 0) (hp2 : tc < 65536) : (f1_0_a2_6 tc (nar .byte (t2.toInt8.toInt32))) = (f3 (6 : Int32) (0 : Int32) tc (t2.toInt8.toInt32)) := by
  have n1 := own_nib tc hp hp2
  by_cases h8 : tc = 8
  · subst h8; rfl
  by_cases h9 : tc = 9
  · subst h9; rfl
  by_cases h10 : tc = 10
  · subst h10; rfl
  by_cases h12 : tc = 12
  · subst h12; rfl
  by_cases h13 : tc = 13
  · subst h13; rfl
  have hsf : f2 tc = 0 := by rw [f2, if_neg h8, if_neg h9, if_neg h10, if_neg h12, if_neg h13]
  unfold f1_0_a2_6 f3
  simp only [hsf, h8, h9, h10, h12, h13, if_false, ite_self]
  first | rfl | exact n1.1 | exact n1.2.1 | exact n1.2.2.1 | exact n1.2.2.2
theorem own_e0_7 (tc t2 : Int32) (hp : ¬ tc < 0) (hp2 : tc < 65536) : (f1_0_a2_7 tc (nar .byte (t2.toInt8.toInt32))) = (f3 (7 : Int32) (0 : Int32) tc (t2.toInt8.toInt32)) := by
  have n1 := own_nib tc hp hp2
  by_cases h8 : tc = 8
  · subst h8; rfl
  by_cases h9 : tc = 9
  · subst h9; rfl
  by_cases h10 : tc = 10
  · subst h10; rfl
  by_cases h12 : tc = 12
  · subst h12; rfl
  by_cases h13 : tc = 13
  · subst h13; rfl
  have hsf : f2 tc = 0 := by rw [f2, if_neg h8, if_neg h9, if_neg h10, if_neg h12, if_neg h13]
  unfold f1_0_a2_7 f3
  simp only [hsf, h8, h9, h10, h12, h13, if_false, ite_self]
  first | rfl | exact n1.1 | exact n1.2.1 | exact n1.2.2.1 | exact n1.2.2.2
theorem own_e0_8 (tc t2 : Int32) (hp : ¬ tc < 0) (hp2 : tc < 65536) : (f1_0_a2_8 tc (nar .byte (t2.toInt8.toInt32))) = (f3 (8 : Int32) (0 : Int32) tc (t2.toInt8.toInt32)) := by
  have n1 := own_nib tc hp hp2
  by_cases h8 : tc = 8
  · subst h8; rfl
  by_cases h9 : tc = 9
  · subst h9; rfl
  by_cases h10 : tc = 10
  · subst h10; rfl
  by_cases h12 : tc = 12
  · subst h12; rfl
  by_cases h13 : tc = 13
  · subst h13; rfl
  have hsf : f2 tc = 0 := by rw [f2, if_neg h8, if_neg h9, if_neg h10, if_neg h12, if_neg h13]
  unfold f1_0_a2_8 f3
  simp only [hsf, h8, h9, h10, h12, h13, if_false, ite_self]
  first | rfl | exact n1.1 | exact n1.2.1 | exact n1.2.2.1 | exact n1.2.2.2
theorem own_e0_9 (tc t2 : Int32) (hp : ¬ tc < 0) (hp2 : tc < 65536) : (f1_0_a2_9 tc (nar .byte (t2.toInt8.toInt32))) = (f3 (9 : Int32) (0 : Int32) tc (t2.toInt8.toInt32)) := by
  have n1 := own_nib tc hp hp2
  by_cases h8 : tc = 8
  · subst h8; rfl
  by_cases h9 : tc = 9
  · subst h9; rfl
  by_cases h10 : tc = 10
  · subst h10; rfl
  by_cases h12 : tc = 12
  · subst h12; rfl
  by_cases h13 : tc = 13
  · subst h13; rfl
  have hsf : f2 tc = 0 := by rw [f2, if_neg h8, if_neg h9, if_neg h10, if_neg h12, if_neg h13]
  unfold f1_0_a2_9 f3
  simp only [hsf, h8, h9, h10, h12, h13, if_false, ite_self]
  first | rfl | exact n1.1 | exact n1.2.1 | exact n1.2.2.1 | exact n1.2.2.2
theorem pd_0_2 : parseMethodDescriptor "(IIIB)B" = some ⟨[.int, .int, .int, .byte], some .byte⟩ := by decide +kernel
def bl0_176_1 : List (Nat × Instr × Nat) := [(176, .iload 11, 2)]
theorem bd0_176_1 : own_dec code bl0_176_1 = true := by decide +kernel
def bl0_181_2 : List (Nat × Instr × Nat) := [(181, .aload 8, 2), (183, .iconst 0, 1)]
theorem bd0_181_2 : own_dec code bl0_181_2 = true := by decide +kernel
def bl0_185_4 : List (Nat × Instr × Nat) := [(185, .iconst 0, 1), (186, .iload 6, 2), (188, .iload 4, 2), (190, .iload 7, 2)]
theorem bd0_185_4 : own_dec code bl0_185_4 = true := by decide +kernel
def bl0_198_3 : List (Nat × Instr × Nat) := [(198, .iconst 1, 1), (199, .goto 4, 3), (203, .istore 11, 2)]
theorem bd0_198_3 : own_dec code bl0_198_3 = true := by decide +kernel
def bl0_205_1 : List (Nat × Instr × Nat) := [(205, .iload 11, 2)]
theorem bd0_205_1 : own_dec code bl0_205_1 = true := by decide +kernel
def bl0_210_2 : List (Nat × Instr × Nat) := [(210, .aload 8, 2), (212, .iconst 1, 1)]
theorem bd0_210_2 : own_dec code bl0_210_2 = true := by decide +kernel
def bl0_214_4 : List (Nat × Instr × Nat) := [(214, .iconst 1, 1), (215, .iload 6, 2), (217, .iload 4, 2), (219, .iload 7, 2)]
theorem bd0_214_4 : own_dec code bl0_214_4 = true := by decide +kernel
def bl0_227_3 : List (Nat × Instr × Nat) := [(227, .iconst 1, 1), (228, .goto 4, 3), (232, .istore 11, 2)]
theorem bd0_227_3 : own_dec code bl0_227_3 = true := by decide +kernel
def bl0_234_1 : List (Nat × Instr × Nat) := [(234, .iload 11, 2)]
theorem bd0_234_1 : own_dec code bl0_234_1 = true := by decide +kernel
def bl0_239_2 : List (Nat × Instr × Nat) := [(239, .aload 8, 2), (241, .iconst 2, 1)]
theorem bd0_239_2 : own_dec code bl0_239_2 = true := by decide +kernel
def bl0_243_4 : List (Nat × Instr × Nat) := [(243, .iconst 2, 1), (244, .iload 6, 2), (246, .iload 4, 2), (248, .iload 7, 2)]
theorem bd0_243_4 : own_dec code bl0_243_4 = true := by decide +kernel
def bl0_256_3 : List (Nat × Instr × Nat) := [(256, .iconst 1, 1), (257, .goto 4, 3), (261, .istore 11, 2)]
theorem bd0_256_3 : own_dec code bl0_256_3 = true := by decide +kernel
def bl0_263_1 : List (Nat × Instr × Nat) := [(263, .iload 11, 2)]
theorem bd0_263_1 : own_dec code bl0_263_1 = true := by decide +kernel
def bl0_268_2 : List (Nat × Instr × Nat) := [(268, .aload 8, 2), (270, .iconst 3, 1)]
theorem bd0_268_2 : own_dec code bl0_268_2 = true := by decide +kernel
def bl0_272_4 : List (Nat × Instr × Nat) := [(272, .iconst 3, 1), (273, .iload 6, 2), (275, .iload 4, 2), (277, .iload 7, 2)]
theorem bd0_272_4 : own_dec code bl0_272_4 = true := by decide +kernel
def bl0_285_3 : List (Nat × Instr × Nat) := [(285, .iconst 1, 1), (286, .goto 4, 3), (290, .istore 11, 2)]
theorem bd0_285_3 : own_dec code bl0_285_3 = true := by decide +kernel
def bl0_292_1 : List (Nat × Instr × Nat) := [(292, .iload 11, 2)]
theorem bd0_292_1 : own_dec code bl0_292_1 = true := by decide +kernel
def bl0_297_2 : List (Nat × Instr × Nat) := [(297, .aload 8, 2), (299, .iconst 4, 1)]
theorem bd0_297_2 : own_dec code bl0_297_2 = true := by decide +kernel
def bl0_301_4 : List (Nat × Instr × Nat) := [(301, .iconst 4, 1), (302, .iload 6, 2), (304, .iload 4, 2), (306, .iload 7, 2)]
theorem bd0_301_4 : own_dec code bl0_301_4 = true := by decide +kernel
def bl0_314_3 : List (Nat × Instr × Nat) := [(314, .iconst 1, 1), (315, .goto 4, 3), (319, .istore 11, 2)]
theorem bd0_314_3 : own_dec code bl0_314_3 = true := by decide +kernel
def bl0_321_1 : List (Nat × Instr × Nat) := [(321, .iload 11, 2)]
theorem bd0_321_1 : own_dec code bl0_321_1 = true := by decide +kernel
def bl0_326_2 : List (Nat × Instr × Nat) := [(326, .aload 8, 2), (328, .iconst 5, 1)]
theorem bd0_326_2 : own_dec code bl0_326_2 = true := by decide +kernel
def bl0_330_4 : List (Nat × Instr × Nat) := [(330, .iconst 5, 1), (331, .iload 6, 2), (333, .iload 4, 2), (335, .iload 7, 2)]
theorem bd0_330_4 : own_dec code bl0_330_4 = true := by decide +kernel
def bl0_343_3 : List (Nat × Instr × Nat) := [(343, .iconst 1, 1), (344, .goto 4, 3), (348, .istore 11, 2)]
theorem bd0_343_3 : own_dec code bl0_343_3 = true := by decide +kernel
def bl0_350_1 : List (Nat × Instr × Nat) := [(350, .iload 11, 2)]
theorem bd0_350_1 : own_dec code bl0_350_1 = true := by decide +kernel
def bl0_355_2 : List (Nat × Instr × Nat) := [(355, .aload 8, 2), (357, .bipush 6, 2)]
theorem bd0_355_2 : own_dec code bl0_355_2 = true := by decide +kernel
def bl0_360_4 : List (Nat × Instr × Nat) := [(360, .bipush 6, 2), (362, .iload 6, 2), (364, .iload 4, 2), (366, .iload 7, 2)]
theorem bd0_360_4 : own_dec code bl0_360_4 = true := by decide +kernel
def bl0_374_3 : List (Nat × Instr × Nat) := [(374, .iconst 1, 1), (375, .goto 4, 3), (379, .istore 11, 2)]
theorem bd0_374_3 : own_dec code bl0_374_3 = true := by decide +kernel
def bl0_381_1 : List (Nat × Instr × Nat) := [(381, .iload 11, 2)]
theorem bd0_381_1 : own_dec code bl0_381_1 = true := by decide +kernel
def bl0_386_2 : List (Nat × Instr × Nat) := [(386, .aload 8, 2), (388, .bipush 7, 2)]
theorem bd0_386_2 : own_dec code bl0_386_2 = true := by decide +kernel
def bl0_391_4 : List (Nat × Instr × Nat) := [(391, .bipush 7, 2), (393, .iload 6, 2), (395, .iload 4, 2), (397, .iload 7, 2)]
theorem bd0_391_4 : own_dec code bl0_391_4 = true := by decide +kernel
def bl0_405_3 : List (Nat × Instr × Nat) := [(405, .iconst 1, 1), (406, .goto 4, 3), (410, .istore 11, 2)]
theorem bd0_405_3 : own_dec code bl0_405_3 = true := by decide +kernel
def bl0_412_1 : List (Nat × Instr × Nat) := [(412, .iload 11, 2)]
theorem bd0_412_1 : own_dec code bl0_412_1 = true := by decide +kernel
def bl0_417_2 : List (Nat × Instr × Nat) := [(417, .aload 8, 2), (419, .bipush 8, 2)]
theorem bd0_417_2 : own_dec code bl0_417_2 = true := by decide +kernel
def bl0_422_4 : List (Nat × Instr × Nat) := [(422, .bipush 8, 2), (424, .iload 6, 2), (426, .iload 4, 2), (428, .iload 7, 2)]
theorem bd0_422_4 : own_dec code bl0_422_4 = true := by decide +kernel
def bl0_436_3 : List (Nat × Instr × Nat) := [(436, .iconst 1, 1), (437, .goto 4, 3), (441, .istore 11, 2)]
theorem bd0_436_3 : own_dec code bl0_436_3 = true := by decide +kernel
def bl0_443_1 : List (Nat × Instr × Nat) := [(443, .iload 11, 2)]
theorem bd0_443_1 : own_dec code bl0_443_1 = true := by decide +kernel
def bl0_448_2 : List (Nat × Instr × Nat) := [(448, .aload 8, 2), (450, .bipush 9, 2)]
theorem bd0_448_2 : own_dec code bl0_448_2 = true := by decide +kernel
def bl0_453_4 : List (Nat × Instr × Nat) := [(453, .bipush 9, 2), (455, .iload 6, 2), (457, .iload 4, 2), (459, .iload 7, 2)]
theorem bd0_453_4 : own_dec code bl0_453_4 = true := by decide +kernel
def bl0_467_3 : List (Nat × Instr × Nat) := [(467, .iconst 1, 1), (468, .goto 4, 3), (472, .istore 11, 2)]
theorem bd0_467_3 : own_dec code bl0_467_3 = true := by decide +kernel
def bl0_474_1 : List (Nat × Instr × Nat) := [(474, .iload 11, 2)]
theorem bd0_474_1 : own_dec code bl0_474_1 = true := by decide +kernel
def fB0 (t0 : Int32) (t1 : Int32) (t2 : Int32) (t3 : Int32) (tc : Int32) (t9 : Int32) (t10 : Int32) : Int32 := (1 : Int32)
set_option maxRecDepth 65536 in
set_option maxHeartbeats 40000000 in
theorem tlB0 {p : Program} {l : Launch} {e : Env} {s : State} {m : MethodId} {args : Array Value} {below : List Frame} {meth : Method} {c : Code} {s₁ T0 : State} {locs : List Loc} {Z : State} {a0 : Array Value} {h0 : Heap} {n0 : Nat} {E : JFrame} (t0 : Int32) (t1 : Int32) (t2 : Int32) (t3 : Int32) (tc : Int32) (t9 : Int32) (t10 : Int32) (tb : Addr) (tk : ClassId)
    (X0 : Stand p l e room_1 s m args below meth c T0 locs 1 10) (hx : p.tables.exec = Jvm.exec) (hZ : Z.Warmed39 s.vm) (hw : ∀ d ∈ tables_1, d.before a0 Z = true) (hby : c.code = code) (hml : c.maxLocals = 12) (hown : s.vm.findClass "com/example/endcon/endcon/rules/LineTextEscapePinLaw" = some m.cls) (hret : meth.sig.returnType = some .boolean) (hlk : meth.locks = false) (e0 : T0.heap = h0) (N0 : Fr n0 locs) (Z0 : n0 ≤ h0.size)
    (pre0 : ∀ t, Steps p.tables e below (T0.setTop (mkF m 176 #[.val (.int t0), .val (.int t1), .val (.int t2), .val (.int t3), .val (.int tc), .val (.int tc), .val (.int (0 : Int32)), .val (.int (t2.toInt8.toInt32)), .val (.ref tb), .val (.int t9), .val (.int t10), .val (.int (1 : Int32))] [])) t → Steps p.tables e below (s₁.setTop E) t) (V_tb : Arv Z h0 tb tk .byte (10 : Int32) [(.int (f1_0_a2_0 tc (nar .byte (t2.toInt8.toInt32)))), (.int (f1_0_a2_1 tc (nar .byte (t2.toInt8.toInt32)))), (.int (f1_0_a2_2 tc (nar .byte (t2.toInt8.toInt32)))), (.int (f1_0_a2_3 tc (nar .byte (t2.toInt8.toInt32)))), (.int (f1_0_a2_4 tc (nar .byte (t2.toInt8.toInt32)))), (.int (f1_0_a2_5 tc (nar .byte (t2.toInt8.toInt32)))), (.int (f1_0_a2_6 tc (nar .byte (t2.toInt8.toInt32)))), (.int (f1_0_a2_7 tc (nar .byte (t2.toInt8.toInt32)))), (.int (f1_0_a2_8 tc (nar .byte (t2.toInt8.toInt32)))), (.int (f1_0_a2_9 tc (nar .byte (t2.toInt8.toInt32))))] (.int (0 : Int32))) (hp : ¬ (tc < 0)) (hp2 : tc < 65536) :
    ∃ s₂ o, Steps p.tables e below (s₁.setTop E) s₂ ∧ s₂.status = .running ∧ Ended s₂ below o ∧ ∃ v L, o = .returned v ∧ (v = some (.int (fB0 t0 t1 t2 t3 tc t9 t10)) ∧ Fr n0 L) ∧ FrameEnd s o s₂ L room_1.cells room_1.slots := by
  obtain ⟨cx1, Ar1, qq1, S1, N1_, H1, G1⟩ := id V_tb
  have hin1 : ¬ ((0 : Int32) < 0 ∨ cx1.slots.size ≤ ((0 : Int32)).toNatClampNeg) := inb_of S1 ⟨by decide, by decide⟩
  have hat1 : cx1.slots[((0 : Int32)).toNatClampNeg]? = some (.int (f1_0_a2_0 tc (nar .byte (t2.toInt8.toInt32)))) := (H1 ((0 : Int32)).toNatClampNeg (Nat.lt_of_not_le fun w => hin1 (Or.inr w))).trans (congrArg some (rfl))
  obtain ⟨_, T2, Lc2, X2, hQ2, st2⟩ := own_callS X0 hx hZ (y := (⟨"com/example/endcon/endcon/rules/LineTextEscapePinLaw", "expectedAt", "(IIIB)B"⟩ : MethodName)) hown (hw _ (List.mem_of_getElem? (i := 12) rfl)) (hw _ (List.mem_of_getElem? (i := 13) rfl)) (hw _ (List.mem_of_getElem? (i := 10) rfl)) (hw _ (List.mem_of_getElem? (i := 14) rfl)) (by decide) (W := 1) (argsL := [(.int (0 : Int32)), (.int (0 : Int32)), (.int tc), (.int (t2.toInt8.toInt32))]) (rest := [(.int (f1_0_a2_0 tc (nar .byte (t2.toInt8.toInt32))))]) (rm3 l Z a0 hw [] (0 : Int32) (0 : Int32) tc (t2.toInt8.toInt32) h0 n0 Z0 ) (by decide) (by decide) (c' := 1) (s' := 10) rfl rfl (by decide) (by decide) e0 (g := (mkF m 192 #[.val (.int t0), .val (.int t1), .val (.int t2), .val (.int t3), .val (.int tc), .val (.int tc), .val (.int (0 : Int32)), .val (.int (t2.toInt8.toInt32)), .val (.ref tb), .val (.int t9), .val (.int t10), .val (.int (1 : Int32))] [(.int (t2.toInt8.toInt32)), (.int tc), (.int (0 : Int32)), (.int (0 : Int32)), (.int (f1_0_a2_0 tc (nar .byte (t2.toInt8.toInt32))))])) rfl (by rw [hml]; rfl) (lenOf pd_0_2 rfl) rfl (by show 2 * 0 + _ ≤ _; exact Nat.le_of_eq rfl) (hb hby at_192)
  obtain ⟨rfl, N2q, e2⟩ := hQ2
  have N2 := Fr.app N0 N2q
  obtain ⟨cx3, Ar3, qq3, S3, N3_, H3, G3⟩ := id V_tb
  have hin3 : ¬ ((1 : Int32) < 0 ∨ cx3.slots.size ≤ ((1 : Int32)).toNatClampNeg) := inb_of S3 ⟨by decide, by decide⟩
  have hat3 : cx3.slots[((1 : Int32)).toNatClampNeg]? = some (.int (f1_0_a2_1 tc (nar .byte (t2.toInt8.toInt32)))) := (H3 ((1 : Int32)).toNatClampNeg (Nat.lt_of_not_le fun w => hin3 (Or.inr w))).trans (congrArg some (rfl))
  obtain ⟨_, T4, Lc4, X4, hQ4, st4⟩ := own_callS X2 hx hZ (y := (⟨"com/example/endcon/endcon/rules/LineTextEscapePinLaw", "expectedAt", "(IIIB)B"⟩ : MethodName)) hown (hw _ (List.mem_of_getElem? (i := 12) rfl)) (hw _ (List.mem_of_getElem? (i := 13) rfl)) (hw _ (List.mem_of_getElem? (i := 10) rfl)) (hw _ (List.mem_of_getElem? (i := 14) rfl)) (by decide) (W := 1) (argsL := [(.int (1 : Int32)), (.int (0 : Int32)), (.int tc), (.int (t2.toInt8.toInt32))]) (rest := [(.int (f1_0_a2_1 tc (nar .byte (t2.toInt8.toInt32))))]) (rm3 l Z a0 hw [] (1 : Int32) (0 : Int32) tc (t2.toInt8.toInt32) h0 n0 Z0 ) (by decide) (by decide) (c' := 1) (s' := 10) rfl rfl (by decide) (by decide) e2 (g := (mkF m 221 #[.val (.int t0), .val (.int t1), .val (.int t2), .val (.int t3), .val (.int tc), .val (.int tc), .val (.int (0 : Int32)), .val (.int (t2.toInt8.toInt32)), .val (.ref tb), .val (.int t9), .val (.int t10), .val (.int (1 : Int32))] [(.int (t2.toInt8.toInt32)), (.int tc), (.int (0 : Int32)), (.int (1 : Int32)), (.int (f1_0_a2_1 tc (nar .byte (t2.toInt8.toInt32))))])) rfl (by rw [hml]; rfl) (lenOf pd_0_2 rfl) rfl (by show 2 * 0 + _ ≤ _; exact Nat.le_of_eq rfl) (hb hby at_221)
  obtain ⟨rfl, N4q, e4⟩ := hQ4
  have N4 := Fr.app N2 N4q
  obtain ⟨cx5, Ar5, qq5, S5, N5_, H5, G5⟩ := id V_tb
  have hin5 : ¬ ((2 : Int32) < 0 ∨ cx5.slots.size ≤ ((2 : Int32)).toNatClampNeg) := inb_of S5 ⟨by decide, by decide⟩
  have hat5 : cx5.slots[((2 : Int32)).toNatClampNeg]? = some (.int (f1_0_a2_2 tc (nar .byte (t2.toInt8.toInt32)))) := (H5 ((2 : Int32)).toNatClampNeg (Nat.lt_of_not_le fun w => hin5 (Or.inr w))).trans (congrArg some (rfl))
  obtain ⟨_, T6, Lc6, X6, hQ6, st6⟩ := own_callS X4 hx hZ (y := (⟨"com/example/endcon/endcon/rules/LineTextEscapePinLaw", "expectedAt", "(IIIB)B"⟩ : MethodName)) hown (hw _ (List.mem_of_getElem? (i := 12) rfl)) (hw _ (List.mem_of_getElem? (i := 13) rfl)) (hw _ (List.mem_of_getElem? (i := 10) rfl)) (hw _ (List.mem_of_getElem? (i := 14) rfl)) (by decide) (W := 1) (argsL := [(.int (2 : Int32)), (.int (0 : Int32)), (.int tc), (.int (t2.toInt8.toInt32))]) (rest := [(.int (f1_0_a2_2 tc (nar .byte (t2.toInt8.toInt32))))]) (rm3 l Z a0 hw [] (2 : Int32) (0 : Int32) tc (t2.toInt8.toInt32) h0 n0 Z0 ) (by decide) (by decide) (c' := 1) (s' := 10) rfl rfl (by decide) (by decide) e4 (g := (mkF m 250 #[.val (.int t0), .val (.int t1), .val (.int t2), .val (.int t3), .val (.int tc), .val (.int tc), .val (.int (0 : Int32)), .val (.int (t2.toInt8.toInt32)), .val (.ref tb), .val (.int t9), .val (.int t10), .val (.int (1 : Int32))] [(.int (t2.toInt8.toInt32)), (.int tc), (.int (0 : Int32)), (.int (2 : Int32)), (.int (f1_0_a2_2 tc (nar .byte (t2.toInt8.toInt32))))])) rfl (by rw [hml]; rfl) (lenOf pd_0_2 rfl) rfl (by show 2 * 0 + _ ≤ _; exact Nat.le_of_eq rfl) (hb hby at_250)
  obtain ⟨rfl, N6q, e6⟩ := hQ6
  have N6 := Fr.app N4 N6q
  obtain ⟨cx7, Ar7, qq7, S7, N7_, H7, G7⟩ := id V_tb
  have hin7 : ¬ ((3 : Int32) < 0 ∨ cx7.slots.size ≤ ((3 : Int32)).toNatClampNeg) := inb_of S7 ⟨by decide, by decide⟩
  have hat7 : cx7.slots[((3 : Int32)).toNatClampNeg]? = some (.int (f1_0_a2_3 tc (nar .byte (t2.toInt8.toInt32)))) := (H7 ((3 : Int32)).toNatClampNeg (Nat.lt_of_not_le fun w => hin7 (Or.inr w))).trans (congrArg some (rfl))
  obtain ⟨_, T8, Lc8, X8, hQ8, st8⟩ := own_callS X6 hx hZ (y := (⟨"com/example/endcon/endcon/rules/LineTextEscapePinLaw", "expectedAt", "(IIIB)B"⟩ : MethodName)) hown (hw _ (List.mem_of_getElem? (i := 12) rfl)) (hw _ (List.mem_of_getElem? (i := 13) rfl)) (hw _ (List.mem_of_getElem? (i := 10) rfl)) (hw _ (List.mem_of_getElem? (i := 14) rfl)) (by decide) (W := 1) (argsL := [(.int (3 : Int32)), (.int (0 : Int32)), (.int tc), (.int (t2.toInt8.toInt32))]) (rest := [(.int (f1_0_a2_3 tc (nar .byte (t2.toInt8.toInt32))))]) (rm3 l Z a0 hw [] (3 : Int32) (0 : Int32) tc (t2.toInt8.toInt32) h0 n0 Z0 ) (by decide) (by decide) (c' := 1) (s' := 10) rfl rfl (by decide) (by decide) e6 (g := (mkF m 279 #[.val (.int t0), .val (.int t1), .val (.int t2), .val (.int t3), .val (.int tc), .val (.int tc), .val (.int (0 : Int32)), .val (.int (t2.toInt8.toInt32)), .val (.ref tb), .val (.int t9), .val (.int t10), .val (.int (1 : Int32))] [(.int (t2.toInt8.toInt32)), (.int tc), (.int (0 : Int32)), (.int (3 : Int32)), (.int (f1_0_a2_3 tc (nar .byte (t2.toInt8.toInt32))))])) rfl (by rw [hml]; rfl) (lenOf pd_0_2 rfl) rfl (by show 2 * 0 + _ ≤ _; exact Nat.le_of_eq rfl) (hb hby at_279)
  obtain ⟨rfl, N8q, e8⟩ := hQ8
  have N8 := Fr.app N6 N8q
  obtain ⟨cx9, Ar9, qq9, S9, N9_, H9, G9⟩ := id V_tb
  have hin9 : ¬ ((4 : Int32) < 0 ∨ cx9.slots.size ≤ ((4 : Int32)).toNatClampNeg) := inb_of S9 ⟨by decide, by decide⟩
  have hat9 : cx9.slots[((4 : Int32)).toNatClampNeg]? = some (.int (f1_0_a2_4 tc (nar .byte (t2.toInt8.toInt32)))) := (H9 ((4 : Int32)).toNatClampNeg (Nat.lt_of_not_le fun w => hin9 (Or.inr w))).trans (congrArg some (rfl))
  obtain ⟨_, T10, Lc10, X10, hQ10, st10⟩ := own_callS X8 hx hZ (y := (⟨"com/example/endcon/endcon/rules/LineTextEscapePinLaw", "expectedAt", "(IIIB)B"⟩ : MethodName)) hown (hw _ (List.mem_of_getElem? (i := 12) rfl)) (hw _ (List.mem_of_getElem? (i := 13) rfl)) (hw _ (List.mem_of_getElem? (i := 10) rfl)) (hw _ (List.mem_of_getElem? (i := 14) rfl)) (by decide) (W := 1) (argsL := [(.int (4 : Int32)), (.int (0 : Int32)), (.int tc), (.int (t2.toInt8.toInt32))]) (rest := [(.int (f1_0_a2_4 tc (nar .byte (t2.toInt8.toInt32))))]) (rm3 l Z a0 hw [] (4 : Int32) (0 : Int32) tc (t2.toInt8.toInt32) h0 n0 Z0 ) (by decide) (by decide) (c' := 1) (s' := 10) rfl rfl (by decide) (by decide) e8 (g := (mkF m 308 #[.val (.int t0), .val (.int t1), .val (.int t2), .val (.int t3), .val (.int tc), .val (.int tc), .val (.int (0 : Int32)), .val (.int (t2.toInt8.toInt32)), .val (.ref tb), .val (.int t9), .val (.int t10), .val (.int (1 : Int32))] [(.int (t2.toInt8.toInt32)), (.int tc), (.int (0 : Int32)), (.int (4 : Int32)), (.int (f1_0_a2_4 tc (nar .byte (t2.toInt8.toInt32))))])) rfl (by rw [hml]; rfl) (lenOf pd_0_2 rfl) rfl (by show 2 * 0 + _ ≤ _; exact Nat.le_of_eq rfl) (hb hby at_308)
  obtain ⟨rfl, N10q, e10⟩ := hQ10
  have N10 := Fr.app N8 N10q
  obtain ⟨cx11, Ar11, qq11, S11, N11_, H11, G11⟩ := id V_tb
  have hin11 : ¬ ((5 : Int32) < 0 ∨ cx11.slots.size ≤ ((5 : Int32)).toNatClampNeg) := inb_of S11 ⟨by decide, by decide⟩
  have hat11 : cx11.slots[((5 : Int32)).toNatClampNeg]? = some (.int (f1_0_a2_5 tc (nar .byte (t2.toInt8.toInt32)))) := (H11 ((5 : Int32)).toNatClampNeg (Nat.lt_of_not_le fun w => hin11 (Or.inr w))).trans (congrArg some (rfl))
  obtain ⟨_, T12, Lc12, X12, hQ12, st12⟩ := own_callS X10 hx hZ (y := (⟨"com/example/endcon/endcon/rules/LineTextEscapePinLaw", "expectedAt", "(IIIB)B"⟩ : MethodName)) hown (hw _ (List.mem_of_getElem? (i := 12) rfl)) (hw _ (List.mem_of_getElem? (i := 13) rfl)) (hw _ (List.mem_of_getElem? (i := 10) rfl)) (hw _ (List.mem_of_getElem? (i := 14) rfl)) (by decide) (W := 1) (argsL := [(.int (5 : Int32)), (.int (0 : Int32)), (.int tc), (.int (t2.toInt8.toInt32))]) (rest := [(.int (f1_0_a2_5 tc (nar .byte (t2.toInt8.toInt32))))]) (rm3 l Z a0 hw [] (5 : Int32) (0 : Int32) tc (t2.toInt8.toInt32) h0 n0 Z0 ) (by decide) (by decide) (c' := 1) (s' := 10) rfl rfl (by decide) (by decide) e10 (g := (mkF m 337 #[.val (.int t0), .val (.int t1), .val (.int t2), .val (.int t3), .val (.int tc), .val (.int tc), .val (.int (0 : Int32)), .val (.int (t2.toInt8.toInt32)), .val (.ref tb), .val (.int t9), .val (.int t10), .val (.int (1 : Int32))] [(.int (t2.toInt8.toInt32)), (.int tc), (.int (0 : Int32)), (.int (5 : Int32)), (.int (f1_0_a2_5 tc (nar .byte (t2.toInt8.toInt32))))])) rfl (by rw [hml]; rfl) (lenOf pd_0_2 rfl) rfl (by show 2 * 0 + _ ≤ _; exact Nat.le_of_eq rfl) (hb hby at_337)
  obtain ⟨rfl, N12q, e12⟩ := hQ12
  have N12 := Fr.app N10 N12q
  obtain ⟨cx13, Ar13, qq13, S13, N13_, H13, G13⟩ := id V_tb
  have hin13 : ¬ ((6 : Int32) < 0 ∨ cx13.slots.size ≤ ((6 : Int32)).toNatClampNeg) := inb_of S13 ⟨by decide, by decide⟩
  have hat13 : cx13.slots[((6 : Int32)).toNatClampNeg]? = some (.int (f1_0_a2_6 tc (nar .byte (t2.toInt8.toInt32)))) := (H13 ((6 : Int32)).toNatClampNeg (Nat.lt_of_not_le fun w => hin13 (Or.inr w))).trans (congrArg some (rfl))
  obtain ⟨_, T14, Lc14, X14, hQ14, st14⟩ := own_callS X12 hx hZ (y := (⟨"com/example/endcon/endcon/rules/LineTextEscapePinLaw", "expectedAt", "(IIIB)B"⟩ : MethodName)) hown (hw _ (List.mem_of_getElem? (i := 12) rfl)) (hw _ (List.mem_of_getElem? (i := 13) rfl)) (hw _ (List.mem_of_getElem? (i := 10) rfl)) (hw _ (List.mem_of_getElem? (i := 14) rfl)) (by decide) (W := 1) (argsL := [(.int (6 : Int32)), (.int (0 : Int32)), (.int tc), (.int (t2.toInt8.toInt32))]) (rest := [(.int (f1_0_a2_6 tc (nar .byte (t2.toInt8.toInt32))))]) (rm3 l Z a0 hw [] (6 : Int32) (0 : Int32) tc (t2.toInt8.toInt32) h0 n0 Z0 ) (by decide) (by decide) (c' := 1) (s' := 10) rfl rfl (by decide) (by decide) e12 (g := (mkF m 368 #[.val (.int t0), .val (.int t1), .val (.int t2), .val (.int t3), .val (.int tc), .val (.int tc), .val (.int (0 : Int32)), .val (.int (t2.toInt8.toInt32)), .val (.ref tb), .val (.int t9), .val (.int t10), .val (.int (1 : Int32))] [(.int (t2.toInt8.toInt32)), (.int tc), (.int (0 : Int32)), (.int (6 : Int32)), (.int (f1_0_a2_6 tc (nar .byte (t2.toInt8.toInt32))))])) rfl (by rw [hml]; rfl) (lenOf pd_0_2 rfl) rfl (by show 2 * 0 + _ ≤ _; exact Nat.le_of_eq rfl) (hb hby at_368)
  obtain ⟨rfl, N14q, e14⟩ := hQ14
  have N14 := Fr.app N12 N14q
  obtain ⟨cx15, Ar15, qq15, S15, N15_, H15, G15⟩ := id V_tb
  have hin15 : ¬ ((7 : Int32) < 0 ∨ cx15.slots.size ≤ ((7 : Int32)).toNatClampNeg) := inb_of S15 ⟨by decide, by decide⟩
  have hat15 : cx15.slots[((7 : Int32)).toNatClampNeg]? = some (.int (f1_0_a2_7 tc (nar .byte (t2.toInt8.toInt32)))) := (H15 ((7 : Int32)).toNatClampNeg (Nat.lt_of_not_le fun w => hin15 (Or.inr w))).trans (congrArg some (rfl))
  obtain ⟨_, T16, Lc16, X16, hQ16, st16⟩ := own_callS X14 hx hZ (y := (⟨"com/example/endcon/endcon/rules/LineTextEscapePinLaw", "expectedAt", "(IIIB)B"⟩ : MethodName)) hown (hw _ (List.mem_of_getElem? (i := 12) rfl)) (hw _ (List.mem_of_getElem? (i := 13) rfl)) (hw _ (List.mem_of_getElem? (i := 10) rfl)) (hw _ (List.mem_of_getElem? (i := 14) rfl)) (by decide) (W := 1) (argsL := [(.int (7 : Int32)), (.int (0 : Int32)), (.int tc), (.int (t2.toInt8.toInt32))]) (rest := [(.int (f1_0_a2_7 tc (nar .byte (t2.toInt8.toInt32))))]) (rm3 l Z a0 hw [] (7 : Int32) (0 : Int32) tc (t2.toInt8.toInt32) h0 n0 Z0 ) (by decide) (by decide) (c' := 1) (s' := 10) rfl rfl (by decide) (by decide) e14 (g := (mkF m 399 #[.val (.int t0), .val (.int t1), .val (.int t2), .val (.int t3), .val (.int tc), .val (.int tc), .val (.int (0 : Int32)), .val (.int (t2.toInt8.toInt32)), .val (.ref tb), .val (.int t9), .val (.int t10), .val (.int (1 : Int32))] [(.int (t2.toInt8.toInt32)), (.int tc), (.int (0 : Int32)), (.int (7 : Int32)), (.int (f1_0_a2_7 tc (nar .byte (t2.toInt8.toInt32))))])) rfl (by rw [hml]; rfl) (lenOf pd_0_2 rfl) rfl (by show 2 * 0 + _ ≤ _; exact Nat.le_of_eq rfl) (hb hby at_399)
  obtain ⟨rfl, N16q, e16⟩ := hQ16
  have N16 := Fr.app N14 N16q
  obtain ⟨cx17, Ar17, qq17, S17, N17_, H17, G17⟩ := id V_tb
  have hin17 : ¬ ((8 : Int32) < 0 ∨ cx17.slots.size ≤ ((8 : Int32)).toNatClampNeg) := inb_of S17 ⟨by decide, by decide⟩
  have hat17 : cx17.slots[((8 : Int32)).toNatClampNeg]? = some (.int (f1_0_a2_8 tc (nar .byte (t2.toInt8.toInt32)))) := (H17 ((8 : Int32)).toNatClampNeg (Nat.lt_of_not_le fun w => hin17 (Or.inr w))).trans (congrArg some (rfl))
  obtain ⟨_, T18, Lc18, X18, hQ18, st18⟩ := own_callS X16 hx hZ (y := (⟨"com/example/endcon/endcon/rules/LineTextEscapePinLaw", "expectedAt", "(IIIB)B"⟩ : MethodName)) hown (hw _ (List.mem_of_getElem? (i := 12) rfl)) (hw _ (List.mem_of_getElem? (i := 13) rfl)) (hw _ (List.mem_of_getElem? (i := 10) rfl)) (hw _ (List.mem_of_getElem? (i := 14) rfl)) (by decide) (W := 1) (argsL := [(.int (8 : Int32)), (.int (0 : Int32)), (.int tc), (.int (t2.toInt8.toInt32))]) (rest := [(.int (f1_0_a2_8 tc (nar .byte (t2.toInt8.toInt32))))]) (rm3 l Z a0 hw [] (8 : Int32) (0 : Int32) tc (t2.toInt8.toInt32) h0 n0 Z0 ) (by decide) (by decide) (c' := 1) (s' := 10) rfl rfl (by decide) (by decide) e16 (g := (mkF m 430 #[.val (.int t0), .val (.int t1), .val (.int t2), .val (.int t3), .val (.int tc), .val (.int tc), .val (.int (0 : Int32)), .val (.int (t2.toInt8.toInt32)), .val (.ref tb), .val (.int t9), .val (.int t10), .val (.int (1 : Int32))] [(.int (t2.toInt8.toInt32)), (.int tc), (.int (0 : Int32)), (.int (8 : Int32)), (.int (f1_0_a2_8 tc (nar .byte (t2.toInt8.toInt32))))])) rfl (by rw [hml]; rfl) (lenOf pd_0_2 rfl) rfl (by show 2 * 0 + _ ≤ _; exact Nat.le_of_eq rfl) (hb hby at_430)
  obtain ⟨rfl, N18q, e18⟩ := hQ18
  have N18 := Fr.app N16 N18q
  obtain ⟨cx19, Ar19, qq19, S19, N19_, H19, G19⟩ := id V_tb
  have hin19 : ¬ ((9 : Int32) < 0 ∨ cx19.slots.size ≤ ((9 : Int32)).toNatClampNeg) := inb_of S19 ⟨by decide, by decide⟩
  have hat19 : cx19.slots[((9 : Int32)).toNatClampNeg]? = some (.int (f1_0_a2_9 tc (nar .byte (t2.toInt8.toInt32)))) := (H19 ((9 : Int32)).toNatClampNeg (Nat.lt_of_not_le fun w => hin19 (Or.inr w))).trans (congrArg some (rfl))
  obtain ⟨_, T20, Lc20, X20, hQ20, st20⟩ := own_callS X18 hx hZ (y := (⟨"com/example/endcon/endcon/rules/LineTextEscapePinLaw", "expectedAt", "(IIIB)B"⟩ : MethodName)) hown (hw _ (List.mem_of_getElem? (i := 12) rfl)) (hw _ (List.mem_of_getElem? (i := 13) rfl)) (hw _ (List.mem_of_getElem? (i := 10) rfl)) (hw _ (List.mem_of_getElem? (i := 14) rfl)) (by decide) (W := 1) (argsL := [(.int (9 : Int32)), (.int (0 : Int32)), (.int tc), (.int (t2.toInt8.toInt32))]) (rest := [(.int (f1_0_a2_9 tc (nar .byte (t2.toInt8.toInt32))))]) (rm3 l Z a0 hw [] (9 : Int32) (0 : Int32) tc (t2.toInt8.toInt32) h0 n0 Z0 ) (by decide) (by decide) (c' := 1) (s' := 10) rfl rfl (by decide) (by decide) e18 (g := (mkF m 461 #[.val (.int t0), .val (.int t1), .val (.int t2), .val (.int t3), .val (.int tc), .val (.int tc), .val (.int (0 : Int32)), .val (.int (t2.toInt8.toInt32)), .val (.ref tb), .val (.int t9), .val (.int t10), .val (.int (1 : Int32))] [(.int (t2.toInt8.toInt32)), (.int tc), (.int (0 : Int32)), (.int (9 : Int32)), (.int (f1_0_a2_9 tc (nar .byte (t2.toInt8.toInt32))))])) rfl (by rw [hml]; rfl) (lenOf pd_0_2 rfl) rfl (by show 2 * 0 + _ ≤ _; exact Nat.le_of_eq rfl) (hb hby at_461)
  obtain ⟨rfl, N20q, e20⟩ := hQ20
  have N20 := Fr.app N18 N20q
  obtain ⟨fs, hr, hrun, hended, hW, hsame⟩ := X20.leave (v := some (.int (1 : Int32))) (fun h => by rw [hret] at h; cases h)
  refine ⟨_, _, pre0 _ ?_, hrun, hended, _, _, rfl, ?_, ⟨_, rfl⟩, hW, hsame.mono (by decide) (by decide)⟩
  · show Steps p.tables e below (T0.setTop (mkF m 176 #[.val (.int t0), .val (.int t1), .val (.int t2), .val (.int t3), .val (.int tc), .val (.int tc), .val (.int (0 : Int32)), .val (.int (t2.toInt8.toInt32)), .val (.ref tb), .val (.int t9), .val (.int t10), .val (.int (1 : Int32))] [])) _
    refine own_blk X0 hx bl0_176_1 (own_hb hby bd0_176_1) (pc' := 178) (Ls' := #[.val (.int t0), .val (.int t1), .val (.int t2), .val (.int t3), .val (.int tc), .val (.int tc), .val (.int (0 : Int32)), .val (.int (t2.toInt8.toInt32)), .val (.ref tb), .val (.int t9), .val (.int t10), .val (.int (1 : Int32))]) (st' := [(.int (1 : Int32))]) rfl ?_
    refine XS.ifNo X0.here hx rfl (hb hby at_178) rfl ((if0 _ _).trans (feq (by decide : ¬ ((1 : Int32) = (0 : Int32)))).1) ?_
    show Steps p.tables e below (T0.setTop (mkF m 181 #[.val (.int t0), .val (.int t1), .val (.int t2), .val (.int t3), .val (.int tc), .val (.int tc), .val (.int (0 : Int32)), .val (.int (t2.toInt8.toInt32)), .val (.ref tb), .val (.int t9), .val (.int t10), .val (.int (1 : Int32))] [])) _
    refine own_blk X0 hx bl0_181_2 (own_hb hby bd0_181_2) (pc' := 184) (Ls' := #[.val (.int t0), .val (.int t1), .val (.int t2), .val (.int t3), .val (.int tc), .val (.int tc), .val (.int (0 : Int32)), .val (.int (t2.toInt8.toInt32)), .val (.ref tb), .val (.int t9), .val (.int t10), .val (.int (1 : Int32))]) (st' := [(.int (0 : Int32)), (.ref tb)]) rfl ?_
    refine X0.baloadBytes hx (j := (0 : Int32)) (v := (.int (f1_0_a2_0 tc (nar .byte (t2.toInt8.toInt32))))) (by rw [e0]; exact Ar1.1) (State.isArrayOf_alike hZ.alike Ar1.2.1) Ar1.2.2 hin1 hat1 (g := (mkF m 184 #[.val (.int t0), .val (.int t1), .val (.int t2), .val (.int t3), .val (.int tc), .val (.int tc), .val (.int (0 : Int32)), .val (.int (t2.toInt8.toInt32)), .val (.ref tb), .val (.int t9), .val (.int t10), .val (.int (1 : Int32))] [(.int (0 : Int32)), (.ref tb)])) rfl rfl (hb hby at_184) _ ?_
    show Steps p.tables e below (T0.setTop (mkF m 185 #[.val (.int t0), .val (.int t1), .val (.int t2), .val (.int t3), .val (.int tc), .val (.int tc), .val (.int (0 : Int32)), .val (.int (t2.toInt8.toInt32)), .val (.ref tb), .val (.int t9), .val (.int t10), .val (.int (1 : Int32))] [(.int (f1_0_a2_0 tc (nar .byte (t2.toInt8.toInt32))))])) _
    refine own_blk X0 hx bl0_185_4 (own_hb hby bd0_185_4) (pc' := 192) (Ls' := #[.val (.int t0), .val (.int t1), .val (.int t2), .val (.int t3), .val (.int tc), .val (.int tc), .val (.int (0 : Int32)), .val (.int (t2.toInt8.toInt32)), .val (.ref tb), .val (.int t9), .val (.int t10), .val (.int (1 : Int32))]) (st' := [(.int (t2.toInt8.toInt32)), (.int tc), (.int (0 : Int32)), (.int (0 : Int32)), (.int (f1_0_a2_0 tc (nar .byte (t2.toInt8.toInt32))))]) rfl ?_
    refine st2 _ ?_
    show Steps p.tables e below (T2.setTop (mkF m 195 #[.val (.int t0), .val (.int t1), .val (.int t2), .val (.int t3), .val (.int tc), .val (.int tc), .val (.int (0 : Int32)), .val (.int (t2.toInt8.toInt32)), .val (.ref tb), .val (.int t9), .val (.int t10), .val (.int (1 : Int32))] [(.int (f3 (0 : Int32) (0 : Int32) tc (t2.toInt8.toInt32))), (.int (f1_0_a2_0 tc (nar .byte (t2.toInt8.toInt32))))])) _
    refine XS.icmpNo X2.here hx rfl (hb hby at_195) rfl (teq (own_e0_0 tc t2 hp hp2)).2 ?_
    show Steps p.tables e below (T2.setTop (mkF m 198 #[.val (.int t0), .val (.int t1), .val (.int t2), .val (.int t3), .val (.int tc), .val (.int tc), .val (.int (0 : Int32)), .val (.int (t2.toInt8.toInt32)), .val (.ref tb), .val (.int t9), .val (.int t10), .val (.int (1 : Int32))] [])) _
    refine own_blk X2 hx bl0_198_3 (own_hb hby bd0_198_3) (pc' := 205) (Ls' := #[.val (.int t0), .val (.int t1), .val (.int t2), .val (.int t3), .val (.int tc), .val (.int tc), .val (.int (0 : Int32)), .val (.int (t2.toInt8.toInt32)), .val (.ref tb), .val (.int t9), .val (.int t10), .val (.int (1 : Int32))]) (st' := []) rfl ?_
    refine own_blk X2 hx bl0_205_1 (own_hb hby bd0_205_1) (pc' := 207) (Ls' := #[.val (.int t0), .val (.int t1), .val (.int t2), .val (.int t3), .val (.int tc), .val (.int tc), .val (.int (0 : Int32)), .val (.int (t2.toInt8.toInt32)), .val (.ref tb), .val (.int t9), .val (.int t10), .val (.int (1 : Int32))]) (st' := [(.int (1 : Int32))]) rfl ?_
    refine XS.ifNo X2.here hx rfl (hb hby at_207) rfl ((if0 _ _).trans (feq (by decide : ¬ ((1 : Int32) = (0 : Int32)))).1) ?_
    show Steps p.tables e below (T2.setTop (mkF m 210 #[.val (.int t0), .val (.int t1), .val (.int t2), .val (.int t3), .val (.int tc), .val (.int tc), .val (.int (0 : Int32)), .val (.int (t2.toInt8.toInt32)), .val (.ref tb), .val (.int t9), .val (.int t10), .val (.int (1 : Int32))] [])) _
    refine own_blk X2 hx bl0_210_2 (own_hb hby bd0_210_2) (pc' := 213) (Ls' := #[.val (.int t0), .val (.int t1), .val (.int t2), .val (.int t3), .val (.int tc), .val (.int tc), .val (.int (0 : Int32)), .val (.int (t2.toInt8.toInt32)), .val (.ref tb), .val (.int t9), .val (.int t10), .val (.int (1 : Int32))]) (st' := [(.int (1 : Int32)), (.ref tb)]) rfl ?_
    refine X2.baloadBytes hx (j := (1 : Int32)) (v := (.int (f1_0_a2_1 tc (nar .byte (t2.toInt8.toInt32))))) (by rw [e2]; exact Ar3.1) (State.isArrayOf_alike hZ.alike Ar3.2.1) Ar3.2.2 hin3 hat3 (g := (mkF m 213 #[.val (.int t0), .val (.int t1), .val (.int t2), .val (.int t3), .val (.int tc), .val (.int tc), .val (.int (0 : Int32)), .val (.int (t2.toInt8.toInt32)), .val (.ref tb), .val (.int t9), .val (.int t10), .val (.int (1 : Int32))] [(.int (1 : Int32)), (.ref tb)])) rfl rfl (hb hby at_213) _ ?_
    show Steps p.tables e below (T2.setTop (mkF m 214 #[.val (.int t0), .val (.int t1), .val (.int t2), .val (.int t3), .val (.int tc), .val (.int tc), .val (.int (0 : Int32)), .val (.int (t2.toInt8.toInt32)), .val (.ref tb), .val (.int t9), .val (.int t10), .val (.int (1 : Int32))] [(.int (f1_0_a2_1 tc (nar .byte (t2.toInt8.toInt32))))])) _
    refine own_blk X2 hx bl0_214_4 (own_hb hby bd0_214_4) (pc' := 221) (Ls' := #[.val (.int t0), .val (.int t1), .val (.int t2), .val (.int t3), .val (.int tc), .val (.int tc), .val (.int (0 : Int32)), .val (.int (t2.toInt8.toInt32)), .val (.ref tb), .val (.int t9), .val (.int t10), .val (.int (1 : Int32))]) (st' := [(.int (t2.toInt8.toInt32)), (.int tc), (.int (0 : Int32)), (.int (1 : Int32)), (.int (f1_0_a2_1 tc (nar .byte (t2.toInt8.toInt32))))]) rfl ?_
    refine st4 _ ?_
    show Steps p.tables e below (T4.setTop (mkF m 224 #[.val (.int t0), .val (.int t1), .val (.int t2), .val (.int t3), .val (.int tc), .val (.int tc), .val (.int (0 : Int32)), .val (.int (t2.toInt8.toInt32)), .val (.ref tb), .val (.int t9), .val (.int t10), .val (.int (1 : Int32))] [(.int (f3 (1 : Int32) (0 : Int32) tc (t2.toInt8.toInt32))), (.int (f1_0_a2_1 tc (nar .byte (t2.toInt8.toInt32))))])) _
    refine XS.icmpNo X4.here hx rfl (hb hby at_224) rfl (teq (own_e0_1 tc t2 hp hp2)).2 ?_
    show Steps p.tables e below (T4.setTop (mkF m 227 #[.val (.int t0), .val (.int t1), .val (.int t2), .val (.int t3), .val (.int tc), .val (.int tc), .val (.int (0 : Int32)), .val (.int (t2.toInt8.toInt32)), .val (.ref tb), .val (.int t9), .val (.int t10), .val (.int (1 : Int32))] [])) _
    refine own_blk X4 hx bl0_227_3 (own_hb hby bd0_227_3) (pc' := 234) (Ls' := #[.val (.int t0), .val (.int t1), .val (.int t2), .val (.int t3), .val (.int tc), .val (.int tc), .val (.int (0 : Int32)), .val (.int (t2.toInt8.toInt32)), .val (.ref tb), .val (.int t9), .val (.int t10), .val (.int (1 : Int32))]) (st' := []) rfl ?_
    refine own_blk X4 hx bl0_234_1 (own_hb hby bd0_234_1) (pc' := 236) (Ls' := #[.val (.int t0), .val (.int t1), .val (.int t2), .val (.int t3), .val (.int tc), .val (.int tc), .val (.int (0 : Int32)), .val (.int (t2.toInt8.toInt32)), .val (.ref tb), .val (.int t9), .val (.int t10), .val (.int (1 : Int32))]) (st' := [(.int (1 : Int32))]) rfl ?_
    refine XS.ifNo X4.here hx rfl (hb hby at_236) rfl ((if0 _ _).trans (feq (by decide : ¬ ((1 : Int32) = (0 : Int32)))).1) ?_
    show Steps p.tables e below (T4.setTop (mkF m 239 #[.val (.int t0), .val (.int t1), .val (.int t2), .val (.int t3), .val (.int tc), .val (.int tc), .val (.int (0 : Int32)), .val (.int (t2.toInt8.toInt32)), .val (.ref tb), .val (.int t9), .val (.int t10), .val (.int (1 : Int32))] [])) _
    refine own_blk X4 hx bl0_239_2 (own_hb hby bd0_239_2) (pc' := 242) (Ls' := #[.val (.int t0), .val (.int t1), .val (.int t2), .val (.int t3), .val (.int tc), .val (.int tc), .val (.int (0 : Int32)), .val (.int (t2.toInt8.toInt32)), .val (.ref tb), .val (.int t9), .val (.int t10), .val (.int (1 : Int32))]) (st' := [(.int (2 : Int32)), (.ref tb)]) rfl ?_
    refine X4.baloadBytes hx (j := (2 : Int32)) (v := (.int (f1_0_a2_2 tc (nar .byte (t2.toInt8.toInt32))))) (by rw [e4]; exact Ar5.1) (State.isArrayOf_alike hZ.alike Ar5.2.1) Ar5.2.2 hin5 hat5 (g := (mkF m 242 #[.val (.int t0), .val (.int t1), .val (.int t2), .val (.int t3), .val (.int tc), .val (.int tc), .val (.int (0 : Int32)), .val (.int (t2.toInt8.toInt32)), .val (.ref tb), .val (.int t9), .val (.int t10), .val (.int (1 : Int32))] [(.int (2 : Int32)), (.ref tb)])) rfl rfl (hb hby at_242) _ ?_
    show Steps p.tables e below (T4.setTop (mkF m 243 #[.val (.int t0), .val (.int t1), .val (.int t2), .val (.int t3), .val (.int tc), .val (.int tc), .val (.int (0 : Int32)), .val (.int (t2.toInt8.toInt32)), .val (.ref tb), .val (.int t9), .val (.int t10), .val (.int (1 : Int32))] [(.int (f1_0_a2_2 tc (nar .byte (t2.toInt8.toInt32))))])) _
    refine own_blk X4 hx bl0_243_4 (own_hb hby bd0_243_4) (pc' := 250) (Ls' := #[.val (.int t0), .val (.int t1), .val (.int t2), .val (.int t3), .val (.int tc), .val (.int tc), .val (.int (0 : Int32)), .val (.int (t2.toInt8.toInt32)), .val (.ref tb), .val (.int t9), .val (.int t10), .val (.int (1 : Int32))]) (st' := [(.int (t2.toInt8.toInt32)), (.int tc), (.int (0 : Int32)), (.int (2 : Int32)), (.int (f1_0_a2_2 tc (nar .byte (t2.toInt8.toInt32))))]) rfl ?_
    refine st6 _ ?_
    show Steps p.tables e below (T6.setTop (mkF m 253 #[.val (.int t0), .val (.int t1), .val (.int t2), .val (.int t3), .val (.int tc), .val (.int tc), .val (.int (0 : Int32)), .val (.int (t2.toInt8.toInt32)), .val (.ref tb), .val (.int t9), .val (.int t10), .val (.int (1 : Int32))] [(.int (f3 (2 : Int32) (0 : Int32) tc (t2.toInt8.toInt32))), (.int (f1_0_a2_2 tc (nar .byte (t2.toInt8.toInt32))))])) _
    refine XS.icmpNo X6.here hx rfl (hb hby at_253) rfl (teq (own_e0_2 tc t2 hp hp2)).2 ?_
    show Steps p.tables e below (T6.setTop (mkF m 256 #[.val (.int t0), .val (.int t1), .val (.int t2), .val (.int t3), .val (.int tc), .val (.int tc), .val (.int (0 : Int32)), .val (.int (t2.toInt8.toInt32)), .val (.ref tb), .val (.int t9), .val (.int t10), .val (.int (1 : Int32))] [])) _
    refine own_blk X6 hx bl0_256_3 (own_hb hby bd0_256_3) (pc' := 263) (Ls' := #[.val (.int t0), .val (.int t1), .val (.int t2), .val (.int t3), .val (.int tc), .val (.int tc), .val (.int (0 : Int32)), .val (.int (t2.toInt8.toInt32)), .val (.ref tb), .val (.int t9), .val (.int t10), .val (.int (1 : Int32))]) (st' := []) rfl ?_
    refine own_blk X6 hx bl0_263_1 (own_hb hby bd0_263_1) (pc' := 265) (Ls' := #[.val (.int t0), .val (.int t1), .val (.int t2), .val (.int t3), .val (.int tc), .val (.int tc), .val (.int (0 : Int32)), .val (.int (t2.toInt8.toInt32)), .val (.ref tb), .val (.int t9), .val (.int t10), .val (.int (1 : Int32))]) (st' := [(.int (1 : Int32))]) rfl ?_
    refine XS.ifNo X6.here hx rfl (hb hby at_265) rfl ((if0 _ _).trans (feq (by decide : ¬ ((1 : Int32) = (0 : Int32)))).1) ?_
    show Steps p.tables e below (T6.setTop (mkF m 268 #[.val (.int t0), .val (.int t1), .val (.int t2), .val (.int t3), .val (.int tc), .val (.int tc), .val (.int (0 : Int32)), .val (.int (t2.toInt8.toInt32)), .val (.ref tb), .val (.int t9), .val (.int t10), .val (.int (1 : Int32))] [])) _
    refine own_blk X6 hx bl0_268_2 (own_hb hby bd0_268_2) (pc' := 271) (Ls' := #[.val (.int t0), .val (.int t1), .val (.int t2), .val (.int t3), .val (.int tc), .val (.int tc), .val (.int (0 : Int32)), .val (.int (t2.toInt8.toInt32)), .val (.ref tb), .val (.int t9), .val (.int t10), .val (.int (1 : Int32))]) (st' := [(.int (3 : Int32)), (.ref tb)]) rfl ?_
    refine X6.baloadBytes hx (j := (3 : Int32)) (v := (.int (f1_0_a2_3 tc (nar .byte (t2.toInt8.toInt32))))) (by rw [e6]; exact Ar7.1) (State.isArrayOf_alike hZ.alike Ar7.2.1) Ar7.2.2 hin7 hat7 (g := (mkF m 271 #[.val (.int t0), .val (.int t1), .val (.int t2), .val (.int t3), .val (.int tc), .val (.int tc), .val (.int (0 : Int32)), .val (.int (t2.toInt8.toInt32)), .val (.ref tb), .val (.int t9), .val (.int t10), .val (.int (1 : Int32))] [(.int (3 : Int32)), (.ref tb)])) rfl rfl (hb hby at_271) _ ?_
    show Steps p.tables e below (T6.setTop (mkF m 272 #[.val (.int t0), .val (.int t1), .val (.int t2), .val (.int t3), .val (.int tc), .val (.int tc), .val (.int (0 : Int32)), .val (.int (t2.toInt8.toInt32)), .val (.ref tb), .val (.int t9), .val (.int t10), .val (.int (1 : Int32))] [(.int (f1_0_a2_3 tc (nar .byte (t2.toInt8.toInt32))))])) _
    refine own_blk X6 hx bl0_272_4 (own_hb hby bd0_272_4) (pc' := 279) (Ls' := #[.val (.int t0), .val (.int t1), .val (.int t2), .val (.int t3), .val (.int tc), .val (.int tc), .val (.int (0 : Int32)), .val (.int (t2.toInt8.toInt32)), .val (.ref tb), .val (.int t9), .val (.int t10), .val (.int (1 : Int32))]) (st' := [(.int (t2.toInt8.toInt32)), (.int tc), (.int (0 : Int32)), (.int (3 : Int32)), (.int (f1_0_a2_3 tc (nar .byte (t2.toInt8.toInt32))))]) rfl ?_
    refine st8 _ ?_
    show Steps p.tables e below (T8.setTop (mkF m 282 #[.val (.int t0), .val (.int t1), .val (.int t2), .val (.int t3), .val (.int tc), .val (.int tc), .val (.int (0 : Int32)), .val (.int (t2.toInt8.toInt32)), .val (.ref tb), .val (.int t9), .val (.int t10), .val (.int (1 : Int32))] [(.int (f3 (3 : Int32) (0 : Int32) tc (t2.toInt8.toInt32))), (.int (f1_0_a2_3 tc (nar .byte (t2.toInt8.toInt32))))])) _
    refine XS.icmpNo X8.here hx rfl (hb hby at_282) rfl (teq (own_e0_3 tc t2 hp hp2)).2 ?_
    show Steps p.tables e below (T8.setTop (mkF m 285 #[.val (.int t0), .val (.int t1), .val (.int t2), .val (.int t3), .val (.int tc), .val (.int tc), .val (.int (0 : Int32)), .val (.int (t2.toInt8.toInt32)), .val (.ref tb), .val (.int t9), .val (.int t10), .val (.int (1 : Int32))] [])) _
    refine own_blk X8 hx bl0_285_3 (own_hb hby bd0_285_3) (pc' := 292) (Ls' := #[.val (.int t0), .val (.int t1), .val (.int t2), .val (.int t3), .val (.int tc), .val (.int tc), .val (.int (0 : Int32)), .val (.int (t2.toInt8.toInt32)), .val (.ref tb), .val (.int t9), .val (.int t10), .val (.int (1 : Int32))]) (st' := []) rfl ?_
    refine own_blk X8 hx bl0_292_1 (own_hb hby bd0_292_1) (pc' := 294) (Ls' := #[.val (.int t0), .val (.int t1), .val (.int t2), .val (.int t3), .val (.int tc), .val (.int tc), .val (.int (0 : Int32)), .val (.int (t2.toInt8.toInt32)), .val (.ref tb), .val (.int t9), .val (.int t10), .val (.int (1 : Int32))]) (st' := [(.int (1 : Int32))]) rfl ?_
    refine XS.ifNo X8.here hx rfl (hb hby at_294) rfl ((if0 _ _).trans (feq (by decide : ¬ ((1 : Int32) = (0 : Int32)))).1) ?_
    show Steps p.tables e below (T8.setTop (mkF m 297 #[.val (.int t0), .val (.int t1), .val (.int t2), .val (.int t3), .val (.int tc), .val (.int tc), .val (.int (0 : Int32)), .val (.int (t2.toInt8.toInt32)), .val (.ref tb), .val (.int t9), .val (.int t10), .val (.int (1 : Int32))] [])) _
    refine own_blk X8 hx bl0_297_2 (own_hb hby bd0_297_2) (pc' := 300) (Ls' := #[.val (.int t0), .val (.int t1), .val (.int t2), .val (.int t3), .val (.int tc), .val (.int tc), .val (.int (0 : Int32)), .val (.int (t2.toInt8.toInt32)), .val (.ref tb), .val (.int t9), .val (.int t10), .val (.int (1 : Int32))]) (st' := [(.int (4 : Int32)), (.ref tb)]) rfl ?_
    refine X8.baloadBytes hx (j := (4 : Int32)) (v := (.int (f1_0_a2_4 tc (nar .byte (t2.toInt8.toInt32))))) (by rw [e8]; exact Ar9.1) (State.isArrayOf_alike hZ.alike Ar9.2.1) Ar9.2.2 hin9 hat9 (g := (mkF m 300 #[.val (.int t0), .val (.int t1), .val (.int t2), .val (.int t3), .val (.int tc), .val (.int tc), .val (.int (0 : Int32)), .val (.int (t2.toInt8.toInt32)), .val (.ref tb), .val (.int t9), .val (.int t10), .val (.int (1 : Int32))] [(.int (4 : Int32)), (.ref tb)])) rfl rfl (hb hby at_300) _ ?_
    show Steps p.tables e below (T8.setTop (mkF m 301 #[.val (.int t0), .val (.int t1), .val (.int t2), .val (.int t3), .val (.int tc), .val (.int tc), .val (.int (0 : Int32)), .val (.int (t2.toInt8.toInt32)), .val (.ref tb), .val (.int t9), .val (.int t10), .val (.int (1 : Int32))] [(.int (f1_0_a2_4 tc (nar .byte (t2.toInt8.toInt32))))])) _
    refine own_blk X8 hx bl0_301_4 (own_hb hby bd0_301_4) (pc' := 308) (Ls' := #[.val (.int t0), .val (.int t1), .val (.int t2), .val (.int t3), .val (.int tc), .val (.int tc), .val (.int (0 : Int32)), .val (.int (t2.toInt8.toInt32)), .val (.ref tb), .val (.int t9), .val (.int t10), .val (.int (1 : Int32))]) (st' := [(.int (t2.toInt8.toInt32)), (.int tc), (.int (0 : Int32)), (.int (4 : Int32)), (.int (f1_0_a2_4 tc (nar .byte (t2.toInt8.toInt32))))]) rfl ?_
    refine st10 _ ?_
    show Steps p.tables e below (T10.setTop (mkF m 311 #[.val (.int t0), .val (.int t1), .val (.int t2), .val (.int t3), .val (.int tc), .val (.int tc), .val (.int (0 : Int32)), .val (.int (t2.toInt8.toInt32)), .val (.ref tb), .val (.int t9), .val (.int t10), .val (.int (1 : Int32))] [(.int (f3 (4 : Int32) (0 : Int32) tc (t2.toInt8.toInt32))), (.int (f1_0_a2_4 tc (nar .byte (t2.toInt8.toInt32))))])) _
    refine XS.icmpNo X10.here hx rfl (hb hby at_311) rfl (teq (own_e0_4 tc t2 hp hp2)).2 ?_
    show Steps p.tables e below (T10.setTop (mkF m 314 #[.val (.int t0), .val (.int t1), .val (.int t2), .val (.int t3), .val (.int tc), .val (.int tc), .val (.int (0 : Int32)), .val (.int (t2.toInt8.toInt32)), .val (.ref tb), .val (.int t9), .val (.int t10), .val (.int (1 : Int32))] [])) _
    refine own_blk X10 hx bl0_314_3 (own_hb hby bd0_314_3) (pc' := 321) (Ls' := #[.val (.int t0), .val (.int t1), .val (.int t2), .val (.int t3), .val (.int tc), .val (.int tc), .val (.int (0 : Int32)), .val (.int (t2.toInt8.toInt32)), .val (.ref tb), .val (.int t9), .val (.int t10), .val (.int (1 : Int32))]) (st' := []) rfl ?_
    refine own_blk X10 hx bl0_321_1 (own_hb hby bd0_321_1) (pc' := 323) (Ls' := #[.val (.int t0), .val (.int t1), .val (.int t2), .val (.int t3), .val (.int tc), .val (.int tc), .val (.int (0 : Int32)), .val (.int (t2.toInt8.toInt32)), .val (.ref tb), .val (.int t9), .val (.int t10), .val (.int (1 : Int32))]) (st' := [(.int (1 : Int32))]) rfl ?_
    refine XS.ifNo X10.here hx rfl (hb hby at_323) rfl ((if0 _ _).trans (feq (by decide : ¬ ((1 : Int32) = (0 : Int32)))).1) ?_
    show Steps p.tables e below (T10.setTop (mkF m 326 #[.val (.int t0), .val (.int t1), .val (.int t2), .val (.int t3), .val (.int tc), .val (.int tc), .val (.int (0 : Int32)), .val (.int (t2.toInt8.toInt32)), .val (.ref tb), .val (.int t9), .val (.int t10), .val (.int (1 : Int32))] [])) _
    refine own_blk X10 hx bl0_326_2 (own_hb hby bd0_326_2) (pc' := 329) (Ls' := #[.val (.int t0), .val (.int t1), .val (.int t2), .val (.int t3), .val (.int tc), .val (.int tc), .val (.int (0 : Int32)), .val (.int (t2.toInt8.toInt32)), .val (.ref tb), .val (.int t9), .val (.int t10), .val (.int (1 : Int32))]) (st' := [(.int (5 : Int32)), (.ref tb)]) rfl ?_
    refine X10.baloadBytes hx (j := (5 : Int32)) (v := (.int (f1_0_a2_5 tc (nar .byte (t2.toInt8.toInt32))))) (by rw [e10]; exact Ar11.1) (State.isArrayOf_alike hZ.alike Ar11.2.1) Ar11.2.2 hin11 hat11 (g := (mkF m 329 #[.val (.int t0), .val (.int t1), .val (.int t2), .val (.int t3), .val (.int tc), .val (.int tc), .val (.int (0 : Int32)), .val (.int (t2.toInt8.toInt32)), .val (.ref tb), .val (.int t9), .val (.int t10), .val (.int (1 : Int32))] [(.int (5 : Int32)), (.ref tb)])) rfl rfl (hb hby at_329) _ ?_
    show Steps p.tables e below (T10.setTop (mkF m 330 #[.val (.int t0), .val (.int t1), .val (.int t2), .val (.int t3), .val (.int tc), .val (.int tc), .val (.int (0 : Int32)), .val (.int (t2.toInt8.toInt32)), .val (.ref tb), .val (.int t9), .val (.int t10), .val (.int (1 : Int32))] [(.int (f1_0_a2_5 tc (nar .byte (t2.toInt8.toInt32))))])) _
    refine own_blk X10 hx bl0_330_4 (own_hb hby bd0_330_4) (pc' := 337) (Ls' := #[.val (.int t0), .val (.int t1), .val (.int t2), .val (.int t3), .val (.int tc), .val (.int tc), .val (.int (0 : Int32)), .val (.int (t2.toInt8.toInt32)), .val (.ref tb), .val (.int t9), .val (.int t10), .val (.int (1 : Int32))]) (st' := [(.int (t2.toInt8.toInt32)), (.int tc), (.int (0 : Int32)), (.int (5 : Int32)), (.int (f1_0_a2_5 tc (nar .byte (t2.toInt8.toInt32))))]) rfl ?_
    refine st12 _ ?_
    show Steps p.tables e below (T12.setTop (mkF m 340 #[.val (.int t0), .val (.int t1), .val (.int t2), .val (.int t3), .val (.int tc), .val (.int tc), .val (.int (0 : Int32)), .val (.int (t2.toInt8.toInt32)), .val (.ref tb), .val (.int t9), .val (.int t10), .val (.int (1 : Int32))] [(.int (f3 (5 : Int32) (0 : Int32) tc (t2.toInt8.toInt32))), (.int (f1_0_a2_5 tc (nar .byte (t2.toInt8.toInt32))))])) _
    refine XS.icmpNo X12.here hx rfl (hb hby at_340) rfl (teq (own_e0_5 tc t2 hp hp2)).2 ?_
    show Steps p.tables e below (T12.setTop (mkF m 343 #[.val (.int t0), .val (.int t1), .val (.int t2), .val (.int t3), .val (.int tc), .val (.int tc), .val (.int (0 : Int32)), .val (.int (t2.toInt8.toInt32)), .val (.ref tb), .val (.int t9), .val (.int t10), .val (.int (1 : Int32))] [])) _
    refine own_blk X12 hx bl0_343_3 (own_hb hby bd0_343_3) (pc' := 350) (Ls' := #[.val (.int t0), .val (.int t1), .val (.int t2), .val (.int t3), .val (.int tc), .val (.int tc), .val (.int (0 : Int32)), .val (.int (t2.toInt8.toInt32)), .val (.ref tb), .val (.int t9), .val (.int t10), .val (.int (1 : Int32))]) (st' := []) rfl ?_
    refine own_blk X12 hx bl0_350_1 (own_hb hby bd0_350_1) (pc' := 352) (Ls' := #[.val (.int t0), .val (.int t1), .val (.int t2), .val (.int t3), .val (.int tc), .val (.int tc), .val (.int (0 : Int32)), .val (.int (t2.toInt8.toInt32)), .val (.ref tb), .val (.int t9), .val (.int t10), .val (.int (1 : Int32))]) (st' := [(.int (1 : Int32))]) rfl ?_
    refine XS.ifNo X12.here hx rfl (hb hby at_352) rfl ((if0 _ _).trans (feq (by decide : ¬ ((1 : Int32) = (0 : Int32)))).1) ?_
    show Steps p.tables e below (T12.setTop (mkF m 355 #[.val (.int t0), .val (.int t1), .val (.int t2), .val (.int t3), .val (.int tc), .val (.int tc), .val (.int (0 : Int32)), .val (.int (t2.toInt8.toInt32)), .val (.ref tb), .val (.int t9), .val (.int t10), .val (.int (1 : Int32))] [])) _
    refine own_blk X12 hx bl0_355_2 (own_hb hby bd0_355_2) (pc' := 359) (Ls' := #[.val (.int t0), .val (.int t1), .val (.int t2), .val (.int t3), .val (.int tc), .val (.int tc), .val (.int (0 : Int32)), .val (.int (t2.toInt8.toInt32)), .val (.ref tb), .val (.int t9), .val (.int t10), .val (.int (1 : Int32))]) (st' := [(.int (6 : Int32)), (.ref tb)]) rfl ?_
    refine X12.baloadBytes hx (j := (6 : Int32)) (v := (.int (f1_0_a2_6 tc (nar .byte (t2.toInt8.toInt32))))) (by rw [e12]; exact Ar13.1) (State.isArrayOf_alike hZ.alike Ar13.2.1) Ar13.2.2 hin13 hat13 (g := (mkF m 359 #[.val (.int t0), .val (.int t1), .val (.int t2), .val (.int t3), .val (.int tc), .val (.int tc), .val (.int (0 : Int32)), .val (.int (t2.toInt8.toInt32)), .val (.ref tb), .val (.int t9), .val (.int t10), .val (.int (1 : Int32))] [(.int (6 : Int32)), (.ref tb)])) rfl rfl (hb hby at_359) _ ?_
    show Steps p.tables e below (T12.setTop (mkF m 360 #[.val (.int t0), .val (.int t1), .val (.int t2), .val (.int t3), .val (.int tc), .val (.int tc), .val (.int (0 : Int32)), .val (.int (t2.toInt8.toInt32)), .val (.ref tb), .val (.int t9), .val (.int t10), .val (.int (1 : Int32))] [(.int (f1_0_a2_6 tc (nar .byte (t2.toInt8.toInt32))))])) _
    refine own_blk X12 hx bl0_360_4 (own_hb hby bd0_360_4) (pc' := 368) (Ls' := #[.val (.int t0), .val (.int t1), .val (.int t2), .val (.int t3), .val (.int tc), .val (.int tc), .val (.int (0 : Int32)), .val (.int (t2.toInt8.toInt32)), .val (.ref tb), .val (.int t9), .val (.int t10), .val (.int (1 : Int32))]) (st' := [(.int (t2.toInt8.toInt32)), (.int tc), (.int (0 : Int32)), (.int (6 : Int32)), (.int (f1_0_a2_6 tc (nar .byte (t2.toInt8.toInt32))))]) rfl ?_
    refine st14 _ ?_
    show Steps p.tables e below (T14.setTop (mkF m 371 #[.val (.int t0), .val (.int t1), .val (.int t2), .val (.int t3), .val (.int tc), .val (.int tc), .val (.int (0 : Int32)), .val (.int (t2.toInt8.toInt32)), .val (.ref tb), .val (.int t9), .val (.int t10), .val (.int (1 : Int32))] [(.int (f3 (6 : Int32) (0 : Int32) tc (t2.toInt8.toInt32))), (.int (f1_0_a2_6 tc (nar .byte (t2.toInt8.toInt32))))])) _
    refine XS.icmpNo X14.here hx rfl (hb hby at_371) rfl (teq (own_e0_6 tc t2 hp hp2)).2 ?_
    show Steps p.tables e below (T14.setTop (mkF m 374 #[.val (.int t0), .val (.int t1), .val (.int t2), .val (.int t3), .val (.int tc), .val (.int tc), .val (.int (0 : Int32)), .val (.int (t2.toInt8.toInt32)), .val (.ref tb), .val (.int t9), .val (.int t10), .val (.int (1 : Int32))] [])) _
    refine own_blk X14 hx bl0_374_3 (own_hb hby bd0_374_3) (pc' := 381) (Ls' := #[.val (.int t0), .val (.int t1), .val (.int t2), .val (.int t3), .val (.int tc), .val (.int tc), .val (.int (0 : Int32)), .val (.int (t2.toInt8.toInt32)), .val (.ref tb), .val (.int t9), .val (.int t10), .val (.int (1 : Int32))]) (st' := []) rfl ?_
    refine own_blk X14 hx bl0_381_1 (own_hb hby bd0_381_1) (pc' := 383) (Ls' := #[.val (.int t0), .val (.int t1), .val (.int t2), .val (.int t3), .val (.int tc), .val (.int tc), .val (.int (0 : Int32)), .val (.int (t2.toInt8.toInt32)), .val (.ref tb), .val (.int t9), .val (.int t10), .val (.int (1 : Int32))]) (st' := [(.int (1 : Int32))]) rfl ?_
    refine XS.ifNo X14.here hx rfl (hb hby at_383) rfl ((if0 _ _).trans (feq (by decide : ¬ ((1 : Int32) = (0 : Int32)))).1) ?_
    show Steps p.tables e below (T14.setTop (mkF m 386 #[.val (.int t0), .val (.int t1), .val (.int t2), .val (.int t3), .val (.int tc), .val (.int tc), .val (.int (0 : Int32)), .val (.int (t2.toInt8.toInt32)), .val (.ref tb), .val (.int t9), .val (.int t10), .val (.int (1 : Int32))] [])) _
    refine own_blk X14 hx bl0_386_2 (own_hb hby bd0_386_2) (pc' := 390) (Ls' := #[.val (.int t0), .val (.int t1), .val (.int t2), .val (.int t3), .val (.int tc), .val (.int tc), .val (.int (0 : Int32)), .val (.int (t2.toInt8.toInt32)), .val (.ref tb), .val (.int t9), .val (.int t10), .val (.int (1 : Int32))]) (st' := [(.int (7 : Int32)), (.ref tb)]) rfl ?_
    refine X14.baloadBytes hx (j := (7 : Int32)) (v := (.int (f1_0_a2_7 tc (nar .byte (t2.toInt8.toInt32))))) (by rw [e14]; exact Ar15.1) (State.isArrayOf_alike hZ.alike Ar15.2.1) Ar15.2.2 hin15 hat15 (g := (mkF m 390 #[.val (.int t0), .val (.int t1), .val (.int t2), .val (.int t3), .val (.int tc), .val (.int tc), .val (.int (0 : Int32)), .val (.int (t2.toInt8.toInt32)), .val (.ref tb), .val (.int t9), .val (.int t10), .val (.int (1 : Int32))] [(.int (7 : Int32)), (.ref tb)])) rfl rfl (hb hby at_390) _ ?_
    show Steps p.tables e below (T14.setTop (mkF m 391 #[.val (.int t0), .val (.int t1), .val (.int t2), .val (.int t3), .val (.int tc), .val (.int tc), .val (.int (0 : Int32)), .val (.int (t2.toInt8.toInt32)), .val (.ref tb), .val (.int t9), .val (.int t10), .val (.int (1 : Int32))] [(.int (f1_0_a2_7 tc (nar .byte (t2.toInt8.toInt32))))])) _
    refine own_blk X14 hx bl0_391_4 (own_hb hby bd0_391_4) (pc' := 399) (Ls' := #[.val (.int t0), .val (.int t1), .val (.int t2), .val (.int t3), .val (.int tc), .val (.int tc), .val (.int (0 : Int32)), .val (.int (t2.toInt8.toInt32)), .val (.ref tb), .val (.int t9), .val (.int t10), .val (.int (1 : Int32))]) (st' := [(.int (t2.toInt8.toInt32)), (.int tc), (.int (0 : Int32)), (.int (7 : Int32)), (.int (f1_0_a2_7 tc (nar .byte (t2.toInt8.toInt32))))]) rfl ?_
    refine st16 _ ?_
    show Steps p.tables e below (T16.setTop (mkF m 402 #[.val (.int t0), .val (.int t1), .val (.int t2), .val (.int t3), .val (.int tc), .val (.int tc), .val (.int (0 : Int32)), .val (.int (t2.toInt8.toInt32)), .val (.ref tb), .val (.int t9), .val (.int t10), .val (.int (1 : Int32))] [(.int (f3 (7 : Int32) (0 : Int32) tc (t2.toInt8.toInt32))), (.int (f1_0_a2_7 tc (nar .byte (t2.toInt8.toInt32))))])) _
    refine XS.icmpNo X16.here hx rfl (hb hby at_402) rfl (teq (own_e0_7 tc t2 hp hp2)).2 ?_
    show Steps p.tables e below (T16.setTop (mkF m 405 #[.val (.int t0), .val (.int t1), .val (.int t2), .val (.int t3), .val (.int tc), .val (.int tc), .val (.int (0 : Int32)), .val (.int (t2.toInt8.toInt32)), .val (.ref tb), .val (.int t9), .val (.int t10), .val (.int (1 : Int32))] [])) _
    refine own_blk X16 hx bl0_405_3 (own_hb hby bd0_405_3) (pc' := 412) (Ls' := #[.val (.int t0), .val (.int t1), .val (.int t2), .val (.int t3), .val (.int tc), .val (.int tc), .val (.int (0 : Int32)), .val (.int (t2.toInt8.toInt32)), .val (.ref tb), .val (.int t9), .val (.int t10), .val (.int (1 : Int32))]) (st' := []) rfl ?_
    refine own_blk X16 hx bl0_412_1 (own_hb hby bd0_412_1) (pc' := 414) (Ls' := #[.val (.int t0), .val (.int t1), .val (.int t2), .val (.int t3), .val (.int tc), .val (.int tc), .val (.int (0 : Int32)), .val (.int (t2.toInt8.toInt32)), .val (.ref tb), .val (.int t9), .val (.int t10), .val (.int (1 : Int32))]) (st' := [(.int (1 : Int32))]) rfl ?_
    refine XS.ifNo X16.here hx rfl (hb hby at_414) rfl ((if0 _ _).trans (feq (by decide : ¬ ((1 : Int32) = (0 : Int32)))).1) ?_
    show Steps p.tables e below (T16.setTop (mkF m 417 #[.val (.int t0), .val (.int t1), .val (.int t2), .val (.int t3), .val (.int tc), .val (.int tc), .val (.int (0 : Int32)), .val (.int (t2.toInt8.toInt32)), .val (.ref tb), .val (.int t9), .val (.int t10), .val (.int (1 : Int32))] [])) _
    refine own_blk X16 hx bl0_417_2 (own_hb hby bd0_417_2) (pc' := 421) (Ls' := #[.val (.int t0), .val (.int t1), .val (.int t2), .val (.int t3), .val (.int tc), .val (.int tc), .val (.int (0 : Int32)), .val (.int (t2.toInt8.toInt32)), .val (.ref tb), .val (.int t9), .val (.int t10), .val (.int (1 : Int32))]) (st' := [(.int (8 : Int32)), (.ref tb)]) rfl ?_
    refine X16.baloadBytes hx (j := (8 : Int32)) (v := (.int (f1_0_a2_8 tc (nar .byte (t2.toInt8.toInt32))))) (by rw [e16]; exact Ar17.1) (State.isArrayOf_alike hZ.alike Ar17.2.1) Ar17.2.2 hin17 hat17 (g := (mkF m 421 #[.val (.int t0), .val (.int t1), .val (.int t2), .val (.int t3), .val (.int tc), .val (.int tc), .val (.int (0 : Int32)), .val (.int (t2.toInt8.toInt32)), .val (.ref tb), .val (.int t9), .val (.int t10), .val (.int (1 : Int32))] [(.int (8 : Int32)), (.ref tb)])) rfl rfl (hb hby at_421) _ ?_
    show Steps p.tables e below (T16.setTop (mkF m 422 #[.val (.int t0), .val (.int t1), .val (.int t2), .val (.int t3), .val (.int tc), .val (.int tc), .val (.int (0 : Int32)), .val (.int (t2.toInt8.toInt32)), .val (.ref tb), .val (.int t9), .val (.int t10), .val (.int (1 : Int32))] [(.int (f1_0_a2_8 tc (nar .byte (t2.toInt8.toInt32))))])) _
    refine own_blk X16 hx bl0_422_4 (own_hb hby bd0_422_4) (pc' := 430) (Ls' := #[.val (.int t0), .val (.int t1), .val (.int t2), .val (.int t3), .val (.int tc), .val (.int tc), .val (.int (0 : Int32)), .val (.int (t2.toInt8.toInt32)), .val (.ref tb), .val (.int t9), .val (.int t10), .val (.int (1 : Int32))]) (st' := [(.int (t2.toInt8.toInt32)), (.int tc), (.int (0 : Int32)), (.int (8 : Int32)), (.int (f1_0_a2_8 tc (nar .byte (t2.toInt8.toInt32))))]) rfl ?_
    refine st18 _ ?_
    show Steps p.tables e below (T18.setTop (mkF m 433 #[.val (.int t0), .val (.int t1), .val (.int t2), .val (.int t3), .val (.int tc), .val (.int tc), .val (.int (0 : Int32)), .val (.int (t2.toInt8.toInt32)), .val (.ref tb), .val (.int t9), .val (.int t10), .val (.int (1 : Int32))] [(.int (f3 (8 : Int32) (0 : Int32) tc (t2.toInt8.toInt32))), (.int (f1_0_a2_8 tc (nar .byte (t2.toInt8.toInt32))))])) _
    refine XS.icmpNo X18.here hx rfl (hb hby at_433) rfl (teq (own_e0_8 tc t2 hp hp2)).2 ?_
    show Steps p.tables e below (T18.setTop (mkF m 436 #[.val (.int t0), .val (.int t1), .val (.int t2), .val (.int t3), .val (.int tc), .val (.int tc), .val (.int (0 : Int32)), .val (.int (t2.toInt8.toInt32)), .val (.ref tb), .val (.int t9), .val (.int t10), .val (.int (1 : Int32))] [])) _
    refine own_blk X18 hx bl0_436_3 (own_hb hby bd0_436_3) (pc' := 443) (Ls' := #[.val (.int t0), .val (.int t1), .val (.int t2), .val (.int t3), .val (.int tc), .val (.int tc), .val (.int (0 : Int32)), .val (.int (t2.toInt8.toInt32)), .val (.ref tb), .val (.int t9), .val (.int t10), .val (.int (1 : Int32))]) (st' := []) rfl ?_
    refine own_blk X18 hx bl0_443_1 (own_hb hby bd0_443_1) (pc' := 445) (Ls' := #[.val (.int t0), .val (.int t1), .val (.int t2), .val (.int t3), .val (.int tc), .val (.int tc), .val (.int (0 : Int32)), .val (.int (t2.toInt8.toInt32)), .val (.ref tb), .val (.int t9), .val (.int t10), .val (.int (1 : Int32))]) (st' := [(.int (1 : Int32))]) rfl ?_
    refine XS.ifNo X18.here hx rfl (hb hby at_445) rfl ((if0 _ _).trans (feq (by decide : ¬ ((1 : Int32) = (0 : Int32)))).1) ?_
    show Steps p.tables e below (T18.setTop (mkF m 448 #[.val (.int t0), .val (.int t1), .val (.int t2), .val (.int t3), .val (.int tc), .val (.int tc), .val (.int (0 : Int32)), .val (.int (t2.toInt8.toInt32)), .val (.ref tb), .val (.int t9), .val (.int t10), .val (.int (1 : Int32))] [])) _
    refine own_blk X18 hx bl0_448_2 (own_hb hby bd0_448_2) (pc' := 452) (Ls' := #[.val (.int t0), .val (.int t1), .val (.int t2), .val (.int t3), .val (.int tc), .val (.int tc), .val (.int (0 : Int32)), .val (.int (t2.toInt8.toInt32)), .val (.ref tb), .val (.int t9), .val (.int t10), .val (.int (1 : Int32))]) (st' := [(.int (9 : Int32)), (.ref tb)]) rfl ?_
    refine X18.baloadBytes hx (j := (9 : Int32)) (v := (.int (f1_0_a2_9 tc (nar .byte (t2.toInt8.toInt32))))) (by rw [e18]; exact Ar19.1) (State.isArrayOf_alike hZ.alike Ar19.2.1) Ar19.2.2 hin19 hat19 (g := (mkF m 452 #[.val (.int t0), .val (.int t1), .val (.int t2), .val (.int t3), .val (.int tc), .val (.int tc), .val (.int (0 : Int32)), .val (.int (t2.toInt8.toInt32)), .val (.ref tb), .val (.int t9), .val (.int t10), .val (.int (1 : Int32))] [(.int (9 : Int32)), (.ref tb)])) rfl rfl (hb hby at_452) _ ?_
    show Steps p.tables e below (T18.setTop (mkF m 453 #[.val (.int t0), .val (.int t1), .val (.int t2), .val (.int t3), .val (.int tc), .val (.int tc), .val (.int (0 : Int32)), .val (.int (t2.toInt8.toInt32)), .val (.ref tb), .val (.int t9), .val (.int t10), .val (.int (1 : Int32))] [(.int (f1_0_a2_9 tc (nar .byte (t2.toInt8.toInt32))))])) _
    refine own_blk X18 hx bl0_453_4 (own_hb hby bd0_453_4) (pc' := 461) (Ls' := #[.val (.int t0), .val (.int t1), .val (.int t2), .val (.int t3), .val (.int tc), .val (.int tc), .val (.int (0 : Int32)), .val (.int (t2.toInt8.toInt32)), .val (.ref tb), .val (.int t9), .val (.int t10), .val (.int (1 : Int32))]) (st' := [(.int (t2.toInt8.toInt32)), (.int tc), (.int (0 : Int32)), (.int (9 : Int32)), (.int (f1_0_a2_9 tc (nar .byte (t2.toInt8.toInt32))))]) rfl ?_
    refine st20 _ ?_
    show Steps p.tables e below (T20.setTop (mkF m 464 #[.val (.int t0), .val (.int t1), .val (.int t2), .val (.int t3), .val (.int tc), .val (.int tc), .val (.int (0 : Int32)), .val (.int (t2.toInt8.toInt32)), .val (.ref tb), .val (.int t9), .val (.int t10), .val (.int (1 : Int32))] [(.int (f3 (9 : Int32) (0 : Int32) tc (t2.toInt8.toInt32))), (.int (f1_0_a2_9 tc (nar .byte (t2.toInt8.toInt32))))])) _
    refine XS.icmpNo X20.here hx rfl (hb hby at_464) rfl (teq (own_e0_9 tc t2 hp hp2)).2 ?_
    show Steps p.tables e below (T20.setTop (mkF m 467 #[.val (.int t0), .val (.int t1), .val (.int t2), .val (.int t3), .val (.int tc), .val (.int tc), .val (.int (0 : Int32)), .val (.int (t2.toInt8.toInt32)), .val (.ref tb), .val (.int t9), .val (.int t10), .val (.int (1 : Int32))] [])) _
    refine own_blk X20 hx bl0_467_3 (own_hb hby bd0_467_3) (pc' := 474) (Ls' := #[.val (.int t0), .val (.int t1), .val (.int t2), .val (.int t3), .val (.int tc), .val (.int tc), .val (.int (0 : Int32)), .val (.int (t2.toInt8.toInt32)), .val (.ref tb), .val (.int t9), .val (.int t10), .val (.int (1 : Int32))]) (st' := []) rfl ?_
    refine own_blk X20 hx bl0_474_1 (own_hb hby bd0_474_1) (pc' := 476) (Ls' := #[.val (.int t0), .val (.int t1), .val (.int t2), .val (.int t3), .val (.int tc), .val (.int tc), .val (.int (0 : Int32)), .val (.int (t2.toInt8.toInt32)), .val (.ref tb), .val (.int t9), .val (.int t10), .val (.int (1 : Int32))]) (st' := [(.int (1 : Int32))]) rfl ?_
    exact retN X20 hx (t := .boolean) hret (by simp) (hb hby at_476) hr
  · exact ⟨by rw [fB0], N20⟩
theorem pd_0_0 : parseMethodDescriptor "(C[BI)I" = some ⟨[.char, (.array .byte), .int], some .int⟩ := by decide +kernel
theorem pd_0_1 : parseMethodDescriptor "(I)I" = some ⟨[.int], some .int⟩ := by decide +kernel
def bl0_58_3 : List (Nat × Instr × Nat) := [(58, .iload_n 2, 1), (59, .i2b, 1), (60, .istore 7, 2)]
theorem bd0_58_3 : own_dec code bl0_58_3 = true := by decide +kernel
def bl0_62_1 : List (Nat × Instr × Nat) := [(62, .bipush 10, 2)]
theorem bd0_62_1 : own_dec code bl0_62_1 = true := by decide +kernel
def bl0_66_1 : List (Nat × Instr × Nat) := [(66, .astore 8, 2)]
theorem bd0_66_1 : own_dec code bl0_66_1 = true := by decide +kernel
def bl0_68_3 : List (Nat × Instr × Nat) := [(68, .aload 8, 2), (70, .iconst 0, 1), (71, .iload 7, 2)]
theorem bd0_68_3 : own_dec code bl0_68_3 = true := by decide +kernel
def bl0_74_3 : List (Nat × Instr × Nat) := [(74, .aload 8, 2), (76, .iconst 1, 1), (77, .iload 7, 2)]
theorem bd0_74_3 : own_dec code bl0_74_3 = true := by decide +kernel
def bl0_80_3 : List (Nat × Instr × Nat) := [(80, .aload 8, 2), (82, .iconst 2, 1), (83, .iload 7, 2)]
theorem bd0_80_3 : own_dec code bl0_80_3 = true := by decide +kernel
def bl0_86_3 : List (Nat × Instr × Nat) := [(86, .aload 8, 2), (88, .iconst 3, 1), (89, .iload 7, 2)]
theorem bd0_86_3 : own_dec code bl0_86_3 = true := by decide +kernel
def bl0_92_3 : List (Nat × Instr × Nat) := [(92, .aload 8, 2), (94, .iconst 4, 1), (95, .iload 7, 2)]
theorem bd0_92_3 : own_dec code bl0_92_3 = true := by decide +kernel
def bl0_98_3 : List (Nat × Instr × Nat) := [(98, .aload 8, 2), (100, .iconst 5, 1), (101, .iload 7, 2)]
theorem bd0_98_3 : own_dec code bl0_98_3 = true := by decide +kernel
def bl0_104_3 : List (Nat × Instr × Nat) := [(104, .aload 8, 2), (106, .bipush 6, 2), (108, .iload 7, 2)]
theorem bd0_104_3 : own_dec code bl0_104_3 = true := by decide +kernel
def bl0_111_3 : List (Nat × Instr × Nat) := [(111, .aload 8, 2), (113, .bipush 7, 2), (115, .iload 7, 2)]
theorem bd0_111_3 : own_dec code bl0_111_3 = true := by decide +kernel
def bl0_118_3 : List (Nat × Instr × Nat) := [(118, .aload 8, 2), (120, .bipush 8, 2), (122, .iload 7, 2)]
theorem bd0_118_3 : own_dec code bl0_118_3 = true := by decide +kernel
def bl0_125_3 : List (Nat × Instr × Nat) := [(125, .aload 8, 2), (127, .bipush 9, 2), (129, .iload 7, 2)]
theorem bd0_125_3 : own_dec code bl0_125_3 = true := by decide +kernel
def bl0_132_3 : List (Nat × Instr × Nat) := [(132, .iload 5, 2), (134, .aload 8, 2), (136, .iload 6, 2)]
theorem bd0_132_3 : own_dec code bl0_132_3 = true := by decide +kernel
def bl0_141_1 : List (Nat × Instr × Nat) := [(141, .istore 9, 2)]
theorem bd0_141_1 : own_dec code bl0_141_1 = true := by decide +kernel
def bl0_143_1 : List (Nat × Instr × Nat) := [(143, .iload 4, 2)]
theorem bd0_143_1 : own_dec code bl0_143_1 = true := by decide +kernel
def bl0_155_2 : List (Nat × Instr × Nat) := [(155, .bipush 6, 2), (157, .istore 10, 2)]
theorem bd0_155_2 : own_dec code bl0_155_2 = true := by decide +kernel
def bl0_159_4 : List (Nat × Instr × Nat) := [(159, .iload 9, 2), (161, .iload 6, 2), (163, .iload 10, 2), (165, .iadd, 1)]
theorem bd0_159_4 : own_dec code bl0_159_4 = true := by decide +kernel
def bl0_169_3 : List (Nat × Instr × Nat) := [(169, .iconst 1, 1), (170, .goto 4, 3), (174, .istore 11, 2)]
theorem bd0_169_3 : own_dec code bl0_169_3 = true := by decide +kernel
def bl0_151_3 : List (Nat × Instr × Nat) := [(151, .iconst 2, 1), (152, .goto 5, 3), (157, .istore 10, 2)]
theorem bd0_151_3 : own_dec code bl0_151_3 = true := by decide +kernel
def fA0 (t0 : Int32) (t1 : Int32) (t2 : Int32) (t3 : Int32) (tc : Int32) : Int32 := (if (f2 tc) = (0 : Int32) then (fB0 t0 t1 t2 t3 tc (f1_0 tc (nar .byte (t2.toInt8.toInt32))) (6 : Int32)) else (fB0 t0 t1 t2 t3 tc (f1_0 tc (nar .byte (t2.toInt8.toInt32))) (2 : Int32)))
set_option maxRecDepth 65536 in
set_option maxHeartbeats 40000000 in
theorem tlA0 {p : Program} {l : Launch} {e : Env} {s : State} {m : MethodId} {args : Array Value} {below : List Frame} {meth : Method} {c : Code} {s₁ T0 : State} {locs : List Loc} {Z : State} {a0 : Array Value} {h0 : Heap} {n0 : Nat} {E : JFrame} (t0 : Int32) (t1 : Int32) (t2 : Int32) (t3 : Int32) (tc : Int32) (w1 : Addr) (cl1 : Cell)
    (X0 : Stand p l e room_1 s m args below meth c T0 locs 0 0) (hx : p.tables.exec = Jvm.exec) (hZ : Z.Warmed39 s.vm) (hw : ∀ d ∈ tables_1, d.before a0 Z = true) (hby : c.code = code) (hml : c.maxLocals = 12) (hown : s.vm.findClass "com/example/endcon/endcon/rules/LineTextEscapePinLaw" = some m.cls) (hret : meth.sig.returnType = some .boolean) (hlk : meth.locks = false) (e0 : T0.heap = h0) (N0 : Fr n0 locs) (Z0 : n0 ≤ h0.size)
    (pre0 : ∀ t, Steps p.tables e below (T0.setTop (mkF m 58 #[.val (.int t0), .val (.int t1), .val (.int t2), .val (.int t3), .val (.int tc), .val (.int tc), .val (.int (0 : Int32)), .unset, .unset, .unset, .unset, .unset] [])) t → Steps p.tables e below (s₁.setTop E) t) (S_H : Sta Z h0 "com/example/endcon/endcon/rules/LineText" "HEX_DIGITS" "[B" (.ref w1)) (Ar_w1 : Arr Z h0 w1 cl1 .byte) (sz1 : cl1.slots.size = (16 : Int32).toNatClampNeg) (hv : ∀ j : Int32, ¬ j < 0 → j < 16 → cl1.slots[j.toNatClampNeg]? = some (.int (own_tab j))) (hp : ¬ (tc < 0)) (hp2 : tc < 65536) :
    ∃ s₂ o, Steps p.tables e below (s₁.setTop E) s₂ ∧ s₂.status = .running ∧ Ended s₂ below o ∧ ∃ v L, o = .returned v ∧ (v = some (.int (fA0 t0 t1 t2 t3 tc)) ∧ Fr n0 L) ∧ FrameEnd s o s₂ L room_1.cells room_1.slots := by
  obtain ⟨T1, h1, k1, X1, e1, E1, A1, st1⟩ := newP X0 hx hZ (hw _ (List.mem_of_getElem? (i := 1) rfl)) e0 (g := (mkF m 64 #[.val (.int t0), .val (.int t1), .val (.int t2), .val (.int t3), .val (.int tc), .val (.int tc), .val (.int (0 : Int32)), .val (.int (t2.toInt8.toInt32)), .unset, .unset, .unset, .unset] [(.int (10 : Int32))])) rfl (hb hby at_64) rfl (by decide) (cap := 10) (by decide) (by decide) (by decide) (by decide)
  obtain ⟨b1, g1⟩ : ∃ z, z = h0.size := ⟨_, rfl⟩
  rw [← g1] at A1 st1
  have ne_w1_b1 : w1 ≠ b1 := Nat.ne_of_lt (Nat.lt_of_lt_of_le Ar_w1.lt (Nat.le_of_eq g1.symm))
  have g_b1 : n0 ≤ b1 := Nat.le_trans Z0 (Nat.le_of_eq g1.symm)
  have zs2 : n0 ≤ h1.size := Nat.le_trans Z0 E1.1
  have V_b1 : Arv Z h1 b1 k1 .byte (10 : Int32) [(.int (0 : Int32)), (.int (0 : Int32)), (.int (0 : Int32)), (.int (0 : Int32)), (.int (0 : Int32)), (.int (0 : Int32)), (.int (0 : Int32)), (.int (0 : Int32)), (.int (0 : Int32)), (.int (0 : Int32))] (.int (0 : Int32)) := (Arv.new A1 (by decide)).pad (pad_rep [] (.int (0 : Int32)) 10)
  obtain ⟨cx3, Ar3, qq3, S3, N3_, H3, G3⟩ := id V_b1
  have hin3 : ¬ ((0 : Int32) < 0 ∨ cx3.slots.size ≤ ((0 : Int32)).toNatClampNeg) := inb_of S3 ⟨by decide, by decide⟩
  obtain ⟨T3, h3, X3, e3, W3, st3⟩ := stB X1 hx hZ e1 Ar3 (j := (0 : Int32)) hin3 (g := (mkF m 73 #[.val (.int t0), .val (.int t1), .val (.int t2), .val (.int t3), .val (.int tc), .val (.int tc), .val (.int (0 : Int32)), .val (.int (t2.toInt8.toInt32)), .val (.ref b1), .unset, .unset, .unset] [(.int (t2.toInt8.toInt32)), (.int (0 : Int32)), (.ref b1)])) rfl rfl (hb hby at_73)
  have V3 : Arv Z h3 b1 k1 .byte (10 : Int32) [(.int (nar .byte (t2.toInt8.toInt32))), (.int (0 : Int32)), (.int (0 : Int32)), (.int (0 : Int32)), (.int (0 : Int32)), (.int (0 : Int32)), (.int (0 : Int32)), (.int (0 : Int32)), (.int (0 : Int32)), (.int (0 : Int32))] (.int (0 : Int32)) := Arv.set Ar3 qq3 S3 N3_ H3 G3 (fits_nar_byte _) W3 0 rfl (Nat.le_of_ble_eq_true rfl)
  have zs4 : n0 ≤ h3.size := Nat.le_trans zs2 (Keep.of_wr W3).1
  have N3 := Fr.snoc X3 N0 g_b1
  obtain ⟨cx5, Ar5, qq5, S5, N5_, H5, G5⟩ := id V3
  have hin5 : ¬ ((1 : Int32) < 0 ∨ cx5.slots.size ≤ ((1 : Int32)).toNatClampNeg) := inb_of S5 ⟨by decide, by decide⟩
  obtain ⟨T5, h5, X5, e5, W5, st5⟩ := stB X3 hx hZ e3 Ar5 (j := (1 : Int32)) hin5 (g := (mkF m 79 #[.val (.int t0), .val (.int t1), .val (.int t2), .val (.int t3), .val (.int tc), .val (.int tc), .val (.int (0 : Int32)), .val (.int (t2.toInt8.toInt32)), .val (.ref b1), .unset, .unset, .unset] [(.int (t2.toInt8.toInt32)), (.int (1 : Int32)), (.ref b1)])) rfl rfl (hb hby at_79)
  have V5 : Arv Z h5 b1 k1 .byte (10 : Int32) [(.int (nar .byte (t2.toInt8.toInt32))), (.int (nar .byte (t2.toInt8.toInt32))), (.int (0 : Int32)), (.int (0 : Int32)), (.int (0 : Int32)), (.int (0 : Int32)), (.int (0 : Int32)), (.int (0 : Int32)), (.int (0 : Int32)), (.int (0 : Int32))] (.int (0 : Int32)) := Arv.set Ar5 qq5 S5 N5_ H5 G5 (fits_nar_byte _) W5 1 rfl (Nat.le_of_ble_eq_true rfl)
  have zs6 : n0 ≤ h5.size := Nat.le_trans zs4 (Keep.of_wr W5).1
  have N5 := Fr.snoc X5 N3 g_b1
  obtain ⟨cx7, Ar7, qq7, S7, N7_, H7, G7⟩ := id V5
  have hin7 : ¬ ((2 : Int32) < 0 ∨ cx7.slots.size ≤ ((2 : Int32)).toNatClampNeg) := inb_of S7 ⟨by decide, by decide⟩
  obtain ⟨T7, h7, X7, e7, W7, st7⟩ := stB X5 hx hZ e5 Ar7 (j := (2 : Int32)) hin7 (g := (mkF m 85 #[.val (.int t0), .val (.int t1), .val (.int t2), .val (.int t3), .val (.int tc), .val (.int tc), .val (.int (0 : Int32)), .val (.int (t2.toInt8.toInt32)), .val (.ref b1), .unset, .unset, .unset] [(.int (t2.toInt8.toInt32)), (.int (2 : Int32)), (.ref b1)])) rfl rfl (hb hby at_85)
  have V7 : Arv Z h7 b1 k1 .byte (10 : Int32) [(.int (nar .byte (t2.toInt8.toInt32))), (.int (nar .byte (t2.toInt8.toInt32))), (.int (nar .byte (t2.toInt8.toInt32))), (.int (0 : Int32)), (.int (0 : Int32)), (.int (0 : Int32)), (.int (0 : Int32)), (.int (0 : Int32)), (.int (0 : Int32)), (.int (0 : Int32))] (.int (0 : Int32)) := Arv.set Ar7 qq7 S7 N7_ H7 G7 (fits_nar_byte _) W7 2 rfl (Nat.le_of_ble_eq_true rfl)
  have zs8 : n0 ≤ h7.size := Nat.le_trans zs6 (Keep.of_wr W7).1
  have N7 := Fr.snoc X7 N5 g_b1
  obtain ⟨cx9, Ar9, qq9, S9, N9_, H9, G9⟩ := id V7
  have hin9 : ¬ ((3 : Int32) < 0 ∨ cx9.slots.size ≤ ((3 : Int32)).toNatClampNeg) := inb_of S9 ⟨by decide, by decide⟩
  obtain ⟨T9, h9, X9, e9, W9, st9⟩ := stB X7 hx hZ e7 Ar9 (j := (3 : Int32)) hin9 (g := (mkF m 91 #[.val (.int t0), .val (.int t1), .val (.int t2), .val (.int t3), .val (.int tc), .val (.int tc), .val (.int (0 : Int32)), .val (.int (t2.toInt8.toInt32)), .val (.ref b1), .unset, .unset, .unset] [(.int (t2.toInt8.toInt32)), (.int (3 : Int32)), (.ref b1)])) rfl rfl (hb hby at_91)
  have V9 : Arv Z h9 b1 k1 .byte (10 : Int32) [(.int (nar .byte (t2.toInt8.toInt32))), (.int (nar .byte (t2.toInt8.toInt32))), (.int (nar .byte (t2.toInt8.toInt32))), (.int (nar .byte (t2.toInt8.toInt32))), (.int (0 : Int32)), (.int (0 : Int32)), (.int (0 : Int32)), (.int (0 : Int32)), (.int (0 : Int32)), (.int (0 : Int32))] (.int (0 : Int32)) := Arv.set Ar9 qq9 S9 N9_ H9 G9 (fits_nar_byte _) W9 3 rfl (Nat.le_of_ble_eq_true rfl)
  have zs10 : n0 ≤ h9.size := Nat.le_trans zs8 (Keep.of_wr W9).1
  have N9 := Fr.snoc X9 N7 g_b1
  obtain ⟨cx11, Ar11, qq11, S11, N11_, H11, G11⟩ := id V9
  have hin11 : ¬ ((4 : Int32) < 0 ∨ cx11.slots.size ≤ ((4 : Int32)).toNatClampNeg) := inb_of S11 ⟨by decide, by decide⟩
  obtain ⟨T11, h11, X11, e11, W11, st11⟩ := stB X9 hx hZ e9 Ar11 (j := (4 : Int32)) hin11 (g := (mkF m 97 #[.val (.int t0), .val (.int t1), .val (.int t2), .val (.int t3), .val (.int tc), .val (.int tc), .val (.int (0 : Int32)), .val (.int (t2.toInt8.toInt32)), .val (.ref b1), .unset, .unset, .unset] [(.int (t2.toInt8.toInt32)), (.int (4 : Int32)), (.ref b1)])) rfl rfl (hb hby at_97)
  have V11 : Arv Z h11 b1 k1 .byte (10 : Int32) [(.int (nar .byte (t2.toInt8.toInt32))), (.int (nar .byte (t2.toInt8.toInt32))), (.int (nar .byte (t2.toInt8.toInt32))), (.int (nar .byte (t2.toInt8.toInt32))), (.int (nar .byte (t2.toInt8.toInt32))), (.int (0 : Int32)), (.int (0 : Int32)), (.int (0 : Int32)), (.int (0 : Int32)), (.int (0 : Int32))] (.int (0 : Int32)) := Arv.set Ar11 qq11 S11 N11_ H11 G11 (fits_nar_byte _) W11 4 rfl (Nat.le_of_ble_eq_true rfl)
  have zs12 : n0 ≤ h11.size := Nat.le_trans zs10 (Keep.of_wr W11).1
  have N11 := Fr.snoc X11 N9 g_b1
  obtain ⟨cx13, Ar13, qq13, S13, N13_, H13, G13⟩ := id V11
  have hin13 : ¬ ((5 : Int32) < 0 ∨ cx13.slots.size ≤ ((5 : Int32)).toNatClampNeg) := inb_of S13 ⟨by decide, by decide⟩
  obtain ⟨T13, h13, X13, e13, W13, st13⟩ := stB X11 hx hZ e11 Ar13 (j := (5 : Int32)) hin13 (g := (mkF m 103 #[.val (.int t0), .val (.int t1), .val (.int t2), .val (.int t3), .val (.int tc), .val (.int tc), .val (.int (0 : Int32)), .val (.int (t2.toInt8.toInt32)), .val (.ref b1), .unset, .unset, .unset] [(.int (t2.toInt8.toInt32)), (.int (5 : Int32)), (.ref b1)])) rfl rfl (hb hby at_103)
  have V13 : Arv Z h13 b1 k1 .byte (10 : Int32) [(.int (nar .byte (t2.toInt8.toInt32))), (.int (nar .byte (t2.toInt8.toInt32))), (.int (nar .byte (t2.toInt8.toInt32))), (.int (nar .byte (t2.toInt8.toInt32))), (.int (nar .byte (t2.toInt8.toInt32))), (.int (nar .byte (t2.toInt8.toInt32))), (.int (0 : Int32)), (.int (0 : Int32)), (.int (0 : Int32)), (.int (0 : Int32))] (.int (0 : Int32)) := Arv.set Ar13 qq13 S13 N13_ H13 G13 (fits_nar_byte _) W13 5 rfl (Nat.le_of_ble_eq_true rfl)
  have zs14 : n0 ≤ h13.size := Nat.le_trans zs12 (Keep.of_wr W13).1
  have N13 := Fr.snoc X13 N11 g_b1
  obtain ⟨cx15, Ar15, qq15, S15, N15_, H15, G15⟩ := id V13
  have hin15 : ¬ ((6 : Int32) < 0 ∨ cx15.slots.size ≤ ((6 : Int32)).toNatClampNeg) := inb_of S15 ⟨by decide, by decide⟩
  obtain ⟨T15, h15, X15, e15, W15, st15⟩ := stB X13 hx hZ e13 Ar15 (j := (6 : Int32)) hin15 (g := (mkF m 110 #[.val (.int t0), .val (.int t1), .val (.int t2), .val (.int t3), .val (.int tc), .val (.int tc), .val (.int (0 : Int32)), .val (.int (t2.toInt8.toInt32)), .val (.ref b1), .unset, .unset, .unset] [(.int (t2.toInt8.toInt32)), (.int (6 : Int32)), (.ref b1)])) rfl rfl (hb hby at_110)
  have V15 : Arv Z h15 b1 k1 .byte (10 : Int32) [(.int (nar .byte (t2.toInt8.toInt32))), (.int (nar .byte (t2.toInt8.toInt32))), (.int (nar .byte (t2.toInt8.toInt32))), (.int (nar .byte (t2.toInt8.toInt32))), (.int (nar .byte (t2.toInt8.toInt32))), (.int (nar .byte (t2.toInt8.toInt32))), (.int (nar .byte (t2.toInt8.toInt32))), (.int (0 : Int32)), (.int (0 : Int32)), (.int (0 : Int32))] (.int (0 : Int32)) := Arv.set Ar15 qq15 S15 N15_ H15 G15 (fits_nar_byte _) W15 6 rfl (Nat.le_of_ble_eq_true rfl)
  have zs16 : n0 ≤ h15.size := Nat.le_trans zs14 (Keep.of_wr W15).1
  have N15 := Fr.snoc X15 N13 g_b1
  obtain ⟨cx17, Ar17, qq17, S17, N17_, H17, G17⟩ := id V15
  have hin17 : ¬ ((7 : Int32) < 0 ∨ cx17.slots.size ≤ ((7 : Int32)).toNatClampNeg) := inb_of S17 ⟨by decide, by decide⟩
  obtain ⟨T17, h17, X17, e17, W17, st17⟩ := stB X15 hx hZ e15 Ar17 (j := (7 : Int32)) hin17 (g := (mkF m 117 #[.val (.int t0), .val (.int t1), .val (.int t2), .val (.int t3), .val (.int tc), .val (.int tc), .val (.int (0 : Int32)), .val (.int (t2.toInt8.toInt32)), .val (.ref b1), .unset, .unset, .unset] [(.int (t2.toInt8.toInt32)), (.int (7 : Int32)), (.ref b1)])) rfl rfl (hb hby at_117)
  have V17 : Arv Z h17 b1 k1 .byte (10 : Int32) [(.int (nar .byte (t2.toInt8.toInt32))), (.int (nar .byte (t2.toInt8.toInt32))), (.int (nar .byte (t2.toInt8.toInt32))), (.int (nar .byte (t2.toInt8.toInt32))), (.int (nar .byte (t2.toInt8.toInt32))), (.int (nar .byte (t2.toInt8.toInt32))), (.int (nar .byte (t2.toInt8.toInt32))), (.int (nar .byte (t2.toInt8.toInt32))), (.int (0 : Int32)), (.int (0 : Int32))] (.int (0 : Int32)) := Arv.set Ar17 qq17 S17 N17_ H17 G17 (fits_nar_byte _) W17 7 rfl (Nat.le_of_ble_eq_true rfl)
  have zs18 : n0 ≤ h17.size := Nat.le_trans zs16 (Keep.of_wr W17).1
  have N17 := Fr.snoc X17 N15 g_b1
  obtain ⟨cx19, Ar19, qq19, S19, N19_, H19, G19⟩ := id V17
  have hin19 : ¬ ((8 : Int32) < 0 ∨ cx19.slots.size ≤ ((8 : Int32)).toNatClampNeg) := inb_of S19 ⟨by decide, by decide⟩
  obtain ⟨T19, h19, X19, e19, W19, st19⟩ := stB X17 hx hZ e17 Ar19 (j := (8 : Int32)) hin19 (g := (mkF m 124 #[.val (.int t0), .val (.int t1), .val (.int t2), .val (.int t3), .val (.int tc), .val (.int tc), .val (.int (0 : Int32)), .val (.int (t2.toInt8.toInt32)), .val (.ref b1), .unset, .unset, .unset] [(.int (t2.toInt8.toInt32)), (.int (8 : Int32)), (.ref b1)])) rfl rfl (hb hby at_124)
  have V19 : Arv Z h19 b1 k1 .byte (10 : Int32) [(.int (nar .byte (t2.toInt8.toInt32))), (.int (nar .byte (t2.toInt8.toInt32))), (.int (nar .byte (t2.toInt8.toInt32))), (.int (nar .byte (t2.toInt8.toInt32))), (.int (nar .byte (t2.toInt8.toInt32))), (.int (nar .byte (t2.toInt8.toInt32))), (.int (nar .byte (t2.toInt8.toInt32))), (.int (nar .byte (t2.toInt8.toInt32))), (.int (nar .byte (t2.toInt8.toInt32))), (.int (0 : Int32))] (.int (0 : Int32)) := Arv.set Ar19 qq19 S19 N19_ H19 G19 (fits_nar_byte _) W19 8 rfl (Nat.le_of_ble_eq_true rfl)
  have zs20 : n0 ≤ h19.size := Nat.le_trans zs18 (Keep.of_wr W19).1
  have N19 := Fr.snoc X19 N17 g_b1
  obtain ⟨cx21, Ar21, qq21, S21, N21_, H21, G21⟩ := id V19
  have hin21 : ¬ ((9 : Int32) < 0 ∨ cx21.slots.size ≤ ((9 : Int32)).toNatClampNeg) := inb_of S21 ⟨by decide, by decide⟩
  obtain ⟨T21, h21, X21, e21, W21, st21⟩ := stB X19 hx hZ e19 Ar21 (j := (9 : Int32)) hin21 (g := (mkF m 131 #[.val (.int t0), .val (.int t1), .val (.int t2), .val (.int t3), .val (.int tc), .val (.int tc), .val (.int (0 : Int32)), .val (.int (t2.toInt8.toInt32)), .val (.ref b1), .unset, .unset, .unset] [(.int (t2.toInt8.toInt32)), (.int (9 : Int32)), (.ref b1)])) rfl rfl (hb hby at_131)
  have V21 : Arv Z h21 b1 k1 .byte (10 : Int32) [(.int (nar .byte (t2.toInt8.toInt32))), (.int (nar .byte (t2.toInt8.toInt32))), (.int (nar .byte (t2.toInt8.toInt32))), (.int (nar .byte (t2.toInt8.toInt32))), (.int (nar .byte (t2.toInt8.toInt32))), (.int (nar .byte (t2.toInt8.toInt32))), (.int (nar .byte (t2.toInt8.toInt32))), (.int (nar .byte (t2.toInt8.toInt32))), (.int (nar .byte (t2.toInt8.toInt32))), (.int (nar .byte (t2.toInt8.toInt32)))] (.int (0 : Int32)) := Arv.set Ar21 qq21 S21 N21_ H21 G21 (fits_nar_byte _) W21 9 rfl (Nat.le_of_ble_eq_true rfl)
  have zs22 : n0 ≤ h21.size := Nat.le_trans zs20 (Keep.of_wr W21).1
  have N21 := Fr.snoc X21 N19 g_b1
  have fa24 : Sta Z h21 "com/example/endcon/endcon/rules/LineText" "HEX_DIGITS" "[B" (.ref w1) := (((((((((((S_H.ext E1).wr W3).wr W5).wr W7).wr W9).wr W11).wr W13).wr W15).wr W17).wr W19).wr W21)
  have fa25 : Arr Z h21 w1 cl1 .byte := (((((((((((Ar_w1.ext E1).other W3 ne_w1_b1).other W5 ne_w1_b1).other W7 ne_w1_b1).other W9 ne_w1_b1).other W11 ne_w1_b1).other W13 ne_w1_b1).other W15 ne_w1_b1).other W17 ne_w1_b1).other W19 ne_w1_b1).other W21 ne_w1_b1)
  obtain ⟨_, T23, Lc23, X23, hQ23, st23⟩ := own_callS X21 hx hZ (y := (⟨"com/example/endcon/endcon/rules/LineText", "escape", "(C[BI)I"⟩ : MethodName)) hown (hw _ (List.mem_of_getElem? (i := 2) rfl)) (hw _ (List.mem_of_getElem? (i := 3) rfl)) (hw _ (List.mem_of_getElem? (i := 4) rfl)) (hw _ (List.mem_of_getElem? (i := 5) rfl)) (by decide) (W := 0) (argsL := [(.int tc), (.ref b1), (.int (0 : Int32))]) (rest := []) (rm1_0 l Z a0 hw [] tc b1 (nar .byte (t2.toInt8.toInt32)) w1 cl1 k1 h21 n0 zs22 V21 g_b1 fa24 ne_w1_b1 fa25 sz1 hv hp hp2) (by decide) (by decide) (c' := 1) (s' := 10) rfl rfl (by decide) (by decide) e21 (g := (mkF m 138 #[.val (.int t0), .val (.int t1), .val (.int t2), .val (.int t3), .val (.int tc), .val (.int tc), .val (.int (0 : Int32)), .val (.int (t2.toInt8.toInt32)), .val (.ref b1), .unset, .unset, .unset] [(.int (0 : Int32)), (.ref b1), (.int tc)])) rfl (by rw [hml]; rfl) (lenOf pd_0_0 rfl) rfl (by show 2 * 0 + _ ≤ _; exact Nat.le_of_eq rfl) (hb hby at_138)
  obtain ⟨rfl, N23q, K23, Vc23_a2⟩ := hQ23
  have N23 := Fr.app N21 N23q
  have zs26 : n0 ≤ T23.heap.size := Nat.le_trans zs22 K23.1
  obtain ⟨_, T27, Lc27, X27, hQ27, st27⟩ := own_callS X23 hx hZ (y := (⟨"com/example/endcon/endcon/rules/LineTextEscapePinLaw", "shortForm", "(I)I"⟩ : MethodName)) hown (hw _ (List.mem_of_getElem? (i := 8) rfl)) (hw _ (List.mem_of_getElem? (i := 9) rfl)) (hw _ (List.mem_of_getElem? (i := 10) rfl)) (hw _ (List.mem_of_getElem? (i := 11) rfl)) (by decide) (W := 0) (argsL := [(.int tc)]) (rest := []) (rm2 l Z a0 hw [] tc T23.heap n0 zs26 ) (by decide) (by decide) (c' := 1) (s' := 10) rfl rfl (by decide) (by decide) rfl (g := (mkF m 145 #[.val (.int t0), .val (.int t1), .val (.int t2), .val (.int t3), .val (.int tc), .val (.int tc), .val (.int (0 : Int32)), .val (.int (t2.toInt8.toInt32)), .val (.ref b1), .val (.int (f1_0 tc (nar .byte (t2.toInt8.toInt32)))), .unset, .unset] [(.int tc)])) rfl (by rw [hml]; rfl) (lenOf pd_0_1 rfl) rfl (by show 2 * 0 + _ ≤ _; exact Nat.le_of_eq rfl) (hb hby at_145)
  obtain ⟨rfl, N27q, e27⟩ := hQ27
  have N27 := Fr.app N23 N27q
  have pre28 : ∀ t, Steps p.tables e below (T27.setTop (mkF m 148 #[.val (.int t0), .val (.int t1), .val (.int t2), .val (.int t3), .val (.int tc), .val (.int tc), .val (.int (0 : Int32)), .val (.int (t2.toInt8.toInt32)), .val (.ref b1), .val (.int (f1_0 tc (nar .byte (t2.toInt8.toInt32)))), .unset, .unset] [(.int (f2 tc))])) t → Steps p.tables e below (s₁.setTop E) t := fun t kt => by
    refine pre0 _ ?_
    show Steps p.tables e below (T0.setTop (mkF m 58 #[.val (.int t0), .val (.int t1), .val (.int t2), .val (.int t3), .val (.int tc), .val (.int tc), .val (.int (0 : Int32)), .unset, .unset, .unset, .unset, .unset] [])) _
    refine own_blk X0 hx bl0_58_3 (own_hb hby bd0_58_3) (pc' := 62) (Ls' := #[.val (.int t0), .val (.int t1), .val (.int t2), .val (.int t3), .val (.int tc), .val (.int tc), .val (.int (0 : Int32)), .val (.int (t2.toInt8.toInt32)), .unset, .unset, .unset, .unset]) (st' := []) rfl ?_
    refine own_blk X0 hx bl0_62_1 (own_hb hby bd0_62_1) (pc' := 64) (Ls' := #[.val (.int t0), .val (.int t1), .val (.int t2), .val (.int t3), .val (.int tc), .val (.int tc), .val (.int (0 : Int32)), .val (.int (t2.toInt8.toInt32)), .unset, .unset, .unset, .unset]) (st' := [(.int (10 : Int32))]) rfl ?_
    refine st1 _ ?_
    show Steps p.tables e below (T1.setTop (mkF m 66 #[.val (.int t0), .val (.int t1), .val (.int t2), .val (.int t3), .val (.int tc), .val (.int tc), .val (.int (0 : Int32)), .val (.int (t2.toInt8.toInt32)), .unset, .unset, .unset, .unset] [(.ref b1)])) _
    refine own_blk X1 hx bl0_66_1 (own_hb hby bd0_66_1) (pc' := 68) (Ls' := #[.val (.int t0), .val (.int t1), .val (.int t2), .val (.int t3), .val (.int tc), .val (.int tc), .val (.int (0 : Int32)), .val (.int (t2.toInt8.toInt32)), .val (.ref b1), .unset, .unset, .unset]) (st' := []) rfl ?_
    refine own_blk X1 hx bl0_68_3 (own_hb hby bd0_68_3) (pc' := 73) (Ls' := #[.val (.int t0), .val (.int t1), .val (.int t2), .val (.int t3), .val (.int tc), .val (.int tc), .val (.int (0 : Int32)), .val (.int (t2.toInt8.toInt32)), .val (.ref b1), .unset, .unset, .unset]) (st' := [(.int (t2.toInt8.toInt32)), (.int (0 : Int32)), (.ref b1)]) rfl ?_
    refine st3 _ ?_
    show Steps p.tables e below (T3.setTop (mkF m 74 #[.val (.int t0), .val (.int t1), .val (.int t2), .val (.int t3), .val (.int tc), .val (.int tc), .val (.int (0 : Int32)), .val (.int (t2.toInt8.toInt32)), .val (.ref b1), .unset, .unset, .unset] [])) _
    refine own_blk X3 hx bl0_74_3 (own_hb hby bd0_74_3) (pc' := 79) (Ls' := #[.val (.int t0), .val (.int t1), .val (.int t2), .val (.int t3), .val (.int tc), .val (.int tc), .val (.int (0 : Int32)), .val (.int (t2.toInt8.toInt32)), .val (.ref b1), .unset, .unset, .unset]) (st' := [(.int (t2.toInt8.toInt32)), (.int (1 : Int32)), (.ref b1)]) rfl ?_
    refine st5 _ ?_
    show Steps p.tables e below (T5.setTop (mkF m 80 #[.val (.int t0), .val (.int t1), .val (.int t2), .val (.int t3), .val (.int tc), .val (.int tc), .val (.int (0 : Int32)), .val (.int (t2.toInt8.toInt32)), .val (.ref b1), .unset, .unset, .unset] [])) _
    refine own_blk X5 hx bl0_80_3 (own_hb hby bd0_80_3) (pc' := 85) (Ls' := #[.val (.int t0), .val (.int t1), .val (.int t2), .val (.int t3), .val (.int tc), .val (.int tc), .val (.int (0 : Int32)), .val (.int (t2.toInt8.toInt32)), .val (.ref b1), .unset, .unset, .unset]) (st' := [(.int (t2.toInt8.toInt32)), (.int (2 : Int32)), (.ref b1)]) rfl ?_
    refine st7 _ ?_
    show Steps p.tables e below (T7.setTop (mkF m 86 #[.val (.int t0), .val (.int t1), .val (.int t2), .val (.int t3), .val (.int tc), .val (.int tc), .val (.int (0 : Int32)), .val (.int (t2.toInt8.toInt32)), .val (.ref b1), .unset, .unset, .unset] [])) _
    refine own_blk X7 hx bl0_86_3 (own_hb hby bd0_86_3) (pc' := 91) (Ls' := #[.val (.int t0), .val (.int t1), .val (.int t2), .val (.int t3), .val (.int tc), .val (.int tc), .val (.int (0 : Int32)), .val (.int (t2.toInt8.toInt32)), .val (.ref b1), .unset, .unset, .unset]) (st' := [(.int (t2.toInt8.toInt32)), (.int (3 : Int32)), (.ref b1)]) rfl ?_
    refine st9 _ ?_
    show Steps p.tables e below (T9.setTop (mkF m 92 #[.val (.int t0), .val (.int t1), .val (.int t2), .val (.int t3), .val (.int tc), .val (.int tc), .val (.int (0 : Int32)), .val (.int (t2.toInt8.toInt32)), .val (.ref b1), .unset, .unset, .unset] [])) _
    refine own_blk X9 hx bl0_92_3 (own_hb hby bd0_92_3) (pc' := 97) (Ls' := #[.val (.int t0), .val (.int t1), .val (.int t2), .val (.int t3), .val (.int tc), .val (.int tc), .val (.int (0 : Int32)), .val (.int (t2.toInt8.toInt32)), .val (.ref b1), .unset, .unset, .unset]) (st' := [(.int (t2.toInt8.toInt32)), (.int (4 : Int32)), (.ref b1)]) rfl ?_
    refine st11 _ ?_
    show Steps p.tables e below (T11.setTop (mkF m 98 #[.val (.int t0), .val (.int t1), .val (.int t2), .val (.int t3), .val (.int tc), .val (.int tc), .val (.int (0 : Int32)), .val (.int (t2.toInt8.toInt32)), .val (.ref b1), .unset, .unset, .unset] [])) _
    refine own_blk X11 hx bl0_98_3 (own_hb hby bd0_98_3) (pc' := 103) (Ls' := #[.val (.int t0), .val (.int t1), .val (.int t2), .val (.int t3), .val (.int tc), .val (.int tc), .val (.int (0 : Int32)), .val (.int (t2.toInt8.toInt32)), .val (.ref b1), .unset, .unset, .unset]) (st' := [(.int (t2.toInt8.toInt32)), (.int (5 : Int32)), (.ref b1)]) rfl ?_
    refine st13 _ ?_
    show Steps p.tables e below (T13.setTop (mkF m 104 #[.val (.int t0), .val (.int t1), .val (.int t2), .val (.int t3), .val (.int tc), .val (.int tc), .val (.int (0 : Int32)), .val (.int (t2.toInt8.toInt32)), .val (.ref b1), .unset, .unset, .unset] [])) _
    refine own_blk X13 hx bl0_104_3 (own_hb hby bd0_104_3) (pc' := 110) (Ls' := #[.val (.int t0), .val (.int t1), .val (.int t2), .val (.int t3), .val (.int tc), .val (.int tc), .val (.int (0 : Int32)), .val (.int (t2.toInt8.toInt32)), .val (.ref b1), .unset, .unset, .unset]) (st' := [(.int (t2.toInt8.toInt32)), (.int (6 : Int32)), (.ref b1)]) rfl ?_
    refine st15 _ ?_
    show Steps p.tables e below (T15.setTop (mkF m 111 #[.val (.int t0), .val (.int t1), .val (.int t2), .val (.int t3), .val (.int tc), .val (.int tc), .val (.int (0 : Int32)), .val (.int (t2.toInt8.toInt32)), .val (.ref b1), .unset, .unset, .unset] [])) _
    refine own_blk X15 hx bl0_111_3 (own_hb hby bd0_111_3) (pc' := 117) (Ls' := #[.val (.int t0), .val (.int t1), .val (.int t2), .val (.int t3), .val (.int tc), .val (.int tc), .val (.int (0 : Int32)), .val (.int (t2.toInt8.toInt32)), .val (.ref b1), .unset, .unset, .unset]) (st' := [(.int (t2.toInt8.toInt32)), (.int (7 : Int32)), (.ref b1)]) rfl ?_
    refine st17 _ ?_
    show Steps p.tables e below (T17.setTop (mkF m 118 #[.val (.int t0), .val (.int t1), .val (.int t2), .val (.int t3), .val (.int tc), .val (.int tc), .val (.int (0 : Int32)), .val (.int (t2.toInt8.toInt32)), .val (.ref b1), .unset, .unset, .unset] [])) _
    refine own_blk X17 hx bl0_118_3 (own_hb hby bd0_118_3) (pc' := 124) (Ls' := #[.val (.int t0), .val (.int t1), .val (.int t2), .val (.int t3), .val (.int tc), .val (.int tc), .val (.int (0 : Int32)), .val (.int (t2.toInt8.toInt32)), .val (.ref b1), .unset, .unset, .unset]) (st' := [(.int (t2.toInt8.toInt32)), (.int (8 : Int32)), (.ref b1)]) rfl ?_
    refine st19 _ ?_
    show Steps p.tables e below (T19.setTop (mkF m 125 #[.val (.int t0), .val (.int t1), .val (.int t2), .val (.int t3), .val (.int tc), .val (.int tc), .val (.int (0 : Int32)), .val (.int (t2.toInt8.toInt32)), .val (.ref b1), .unset, .unset, .unset] [])) _
    refine own_blk X19 hx bl0_125_3 (own_hb hby bd0_125_3) (pc' := 131) (Ls' := #[.val (.int t0), .val (.int t1), .val (.int t2), .val (.int t3), .val (.int tc), .val (.int tc), .val (.int (0 : Int32)), .val (.int (t2.toInt8.toInt32)), .val (.ref b1), .unset, .unset, .unset]) (st' := [(.int (t2.toInt8.toInt32)), (.int (9 : Int32)), (.ref b1)]) rfl ?_
    refine st21 _ ?_
    show Steps p.tables e below (T21.setTop (mkF m 132 #[.val (.int t0), .val (.int t1), .val (.int t2), .val (.int t3), .val (.int tc), .val (.int tc), .val (.int (0 : Int32)), .val (.int (t2.toInt8.toInt32)), .val (.ref b1), .unset, .unset, .unset] [])) _
    refine own_blk X21 hx bl0_132_3 (own_hb hby bd0_132_3) (pc' := 138) (Ls' := #[.val (.int t0), .val (.int t1), .val (.int t2), .val (.int t3), .val (.int tc), .val (.int tc), .val (.int (0 : Int32)), .val (.int (t2.toInt8.toInt32)), .val (.ref b1), .unset, .unset, .unset]) (st' := [(.int (0 : Int32)), (.ref b1), (.int tc)]) rfl ?_
    refine st23 _ ?_
    show Steps p.tables e below (T23.setTop (mkF m 141 #[.val (.int t0), .val (.int t1), .val (.int t2), .val (.int t3), .val (.int tc), .val (.int tc), .val (.int (0 : Int32)), .val (.int (t2.toInt8.toInt32)), .val (.ref b1), .unset, .unset, .unset] [(.int (f1_0 tc (nar .byte (t2.toInt8.toInt32))))])) _
    refine own_blk X23 hx bl0_141_1 (own_hb hby bd0_141_1) (pc' := 143) (Ls' := #[.val (.int t0), .val (.int t1), .val (.int t2), .val (.int t3), .val (.int tc), .val (.int tc), .val (.int (0 : Int32)), .val (.int (t2.toInt8.toInt32)), .val (.ref b1), .val (.int (f1_0 tc (nar .byte (t2.toInt8.toInt32)))), .unset, .unset]) (st' := []) rfl ?_
    refine own_blk X23 hx bl0_143_1 (own_hb hby bd0_143_1) (pc' := 145) (Ls' := #[.val (.int t0), .val (.int t1), .val (.int t2), .val (.int t3), .val (.int tc), .val (.int tc), .val (.int (0 : Int32)), .val (.int (t2.toInt8.toInt32)), .val (.ref b1), .val (.int (f1_0 tc (nar .byte (t2.toInt8.toInt32)))), .unset, .unset]) (st' := [(.int tc)]) rfl ?_
    refine st27 _ ?_
    exact kt
  by_cases hc29 : (f2 tc) = (0 : Int32)
  · have pre30 : ∀ t, Steps p.tables e below (T27.setTop (mkF m 176 #[.val (.int t0), .val (.int t1), .val (.int t2), .val (.int t3), .val (.int tc), .val (.int tc), .val (.int (0 : Int32)), .val (.int (t2.toInt8.toInt32)), .val (.ref b1), .val (.int (f1_0 tc (nar .byte (t2.toInt8.toInt32)))), .val (.int (6 : Int32)), .val (.int (1 : Int32))] [])) t → Steps p.tables e below (s₁.setTop E) t := fun t kt => by
      refine pre28 _ ?_
      show Steps p.tables e below (T27.setTop (mkF m 148 #[.val (.int t0), .val (.int t1), .val (.int t2), .val (.int t3), .val (.int tc), .val (.int tc), .val (.int (0 : Int32)), .val (.int (t2.toInt8.toInt32)), .val (.ref b1), .val (.int (f1_0 tc (nar .byte (t2.toInt8.toInt32)))), .unset, .unset] [(.int (f2 tc))])) _
      refine XS.ifYes X27.here hx rfl (pc0 := 148) (pc' := 155) rfl (hb hby at_148) rfl ((if0 _ _).trans (teq hc29).1) (by decide) (by decide) ?_
      show Steps p.tables e below (T27.setTop (mkF m 155 #[.val (.int t0), .val (.int t1), .val (.int t2), .val (.int t3), .val (.int tc), .val (.int tc), .val (.int (0 : Int32)), .val (.int (t2.toInt8.toInt32)), .val (.ref b1), .val (.int (f1_0 tc (nar .byte (t2.toInt8.toInt32)))), .unset, .unset] [])) _
      refine own_blk X27 hx bl0_155_2 (own_hb hby bd0_155_2) (pc' := 159) (Ls' := #[.val (.int t0), .val (.int t1), .val (.int t2), .val (.int t3), .val (.int tc), .val (.int tc), .val (.int (0 : Int32)), .val (.int (t2.toInt8.toInt32)), .val (.ref b1), .val (.int (f1_0 tc (nar .byte (t2.toInt8.toInt32)))), .val (.int (6 : Int32)), .unset]) (st' := []) rfl ?_
      refine own_blk X27 hx bl0_159_4 (own_hb hby bd0_159_4) (pc' := 166) (Ls' := #[.val (.int t0), .val (.int t1), .val (.int t2), .val (.int t3), .val (.int tc), .val (.int tc), .val (.int (0 : Int32)), .val (.int (t2.toInt8.toInt32)), .val (.ref b1), .val (.int (f1_0 tc (nar .byte (t2.toInt8.toInt32)))), .val (.int (6 : Int32)), .unset]) (st' := [(.int (6 : Int32)), (.int (f1_0 tc (nar .byte (t2.toInt8.toInt32))))]) rfl ?_
      refine XS.icmpNo X27.here hx rfl (hb hby at_166) rfl (teq (own_end0z tc (nar .byte (t2.toInt8.toInt32)) hc29)).2 ?_
      show Steps p.tables e below (T27.setTop (mkF m 169 #[.val (.int t0), .val (.int t1), .val (.int t2), .val (.int t3), .val (.int tc), .val (.int tc), .val (.int (0 : Int32)), .val (.int (t2.toInt8.toInt32)), .val (.ref b1), .val (.int (f1_0 tc (nar .byte (t2.toInt8.toInt32)))), .val (.int (6 : Int32)), .unset] [])) _
      refine own_blk X27 hx bl0_169_3 (own_hb hby bd0_169_3) (pc' := 176) (Ls' := #[.val (.int t0), .val (.int t1), .val (.int t2), .val (.int t3), .val (.int tc), .val (.int tc), .val (.int (0 : Int32)), .val (.int (t2.toInt8.toInt32)), .val (.ref b1), .val (.int (f1_0 tc (nar .byte (t2.toInt8.toInt32)))), .val (.int (6 : Int32)), .val (.int (1 : Int32))]) (st' := []) rfl ?_
      exact kt
    obtain ⟨s231, o31, u31a, u31b, u31c, v31, L31, rfl, ⟨rfl, u31d⟩, u31e⟩ := tlB0 t0 t1 t2 t3 tc (f1_0 tc (nar .byte (t2.toInt8.toInt32))) (6 : Int32) b1 k1 X27 hx hZ hw hby hml hown hret hlk e27 N27 zs26 pre30 Vc23_a2 hp hp2
    exact ⟨s231, _, u31a, u31b, u31c, _, _, rfl, ⟨by rw [fA0, if_pos hc29], u31d⟩, u31e⟩
  · have pre32 : ∀ t, Steps p.tables e below (T27.setTop (mkF m 176 #[.val (.int t0), .val (.int t1), .val (.int t2), .val (.int t3), .val (.int tc), .val (.int tc), .val (.int (0 : Int32)), .val (.int (t2.toInt8.toInt32)), .val (.ref b1), .val (.int (f1_0 tc (nar .byte (t2.toInt8.toInt32)))), .val (.int (2 : Int32)), .val (.int (1 : Int32))] [])) t → Steps p.tables e below (s₁.setTop E) t := fun t kt => by
      refine pre28 _ ?_
      show Steps p.tables e below (T27.setTop (mkF m 148 #[.val (.int t0), .val (.int t1), .val (.int t2), .val (.int t3), .val (.int tc), .val (.int tc), .val (.int (0 : Int32)), .val (.int (t2.toInt8.toInt32)), .val (.ref b1), .val (.int (f1_0 tc (nar .byte (t2.toInt8.toInt32)))), .unset, .unset] [(.int (f2 tc))])) _
      refine XS.ifNo X27.here hx rfl (hb hby at_148) rfl ((if0 _ _).trans (feq hc29).1) ?_
      show Steps p.tables e below (T27.setTop (mkF m 151 #[.val (.int t0), .val (.int t1), .val (.int t2), .val (.int t3), .val (.int tc), .val (.int tc), .val (.int (0 : Int32)), .val (.int (t2.toInt8.toInt32)), .val (.ref b1), .val (.int (f1_0 tc (nar .byte (t2.toInt8.toInt32)))), .unset, .unset] [])) _
      refine own_blk X27 hx bl0_151_3 (own_hb hby bd0_151_3) (pc' := 159) (Ls' := #[.val (.int t0), .val (.int t1), .val (.int t2), .val (.int t3), .val (.int tc), .val (.int tc), .val (.int (0 : Int32)), .val (.int (t2.toInt8.toInt32)), .val (.ref b1), .val (.int (f1_0 tc (nar .byte (t2.toInt8.toInt32)))), .val (.int (2 : Int32)), .unset]) (st' := []) rfl ?_
      refine own_blk X27 hx bl0_159_4 (own_hb hby bd0_159_4) (pc' := 166) (Ls' := #[.val (.int t0), .val (.int t1), .val (.int t2), .val (.int t3), .val (.int tc), .val (.int tc), .val (.int (0 : Int32)), .val (.int (t2.toInt8.toInt32)), .val (.ref b1), .val (.int (f1_0 tc (nar .byte (t2.toInt8.toInt32)))), .val (.int (2 : Int32)), .unset]) (st' := [(.int (2 : Int32)), (.int (f1_0 tc (nar .byte (t2.toInt8.toInt32))))]) rfl ?_
      refine XS.icmpNo X27.here hx rfl (hb hby at_166) rfl (teq (own_end0n tc (nar .byte (t2.toInt8.toInt32)) hc29)).2 ?_
      show Steps p.tables e below (T27.setTop (mkF m 169 #[.val (.int t0), .val (.int t1), .val (.int t2), .val (.int t3), .val (.int tc), .val (.int tc), .val (.int (0 : Int32)), .val (.int (t2.toInt8.toInt32)), .val (.ref b1), .val (.int (f1_0 tc (nar .byte (t2.toInt8.toInt32)))), .val (.int (2 : Int32)), .unset] [])) _
      refine own_blk X27 hx bl0_169_3 (own_hb hby bd0_169_3) (pc' := 176) (Ls' := #[.val (.int t0), .val (.int t1), .val (.int t2), .val (.int t3), .val (.int tc), .val (.int tc), .val (.int (0 : Int32)), .val (.int (t2.toInt8.toInt32)), .val (.ref b1), .val (.int (f1_0 tc (nar .byte (t2.toInt8.toInt32)))), .val (.int (2 : Int32)), .val (.int (1 : Int32))]) (st' := []) rfl ?_
      exact kt
    obtain ⟨s233, o33, u33a, u33b, u33c, v33, L33, rfl, ⟨rfl, u33d⟩, u33e⟩ := tlB0 t0 t1 t2 t3 tc (f1_0 tc (nar .byte (t2.toInt8.toInt32))) (2 : Int32) b1 k1 X27 hx hZ hw hby hml hown hret hlk e27 N27 zs26 pre32 Vc23_a2 hp hp2
    exact ⟨s233, _, u33a, u33b, u33c, _, _, rfl, ⟨by rw [fA0, if_neg hc29], u33d⟩, u33e⟩
theorem own_ic {x : Int32} (h : ¬ x < 0 ∧ x < 65536) : (x.toUInt32.toUInt16.toUInt32.toInt32) = x := by
  apply Int32.toInt_inj.mp
  have q := c_i2c x
  have l0 : (0 : Int32).toInt = 0 := by decide
  have l65536 : (65536 : Int32).toInt = 65536 := by decide
  simp only [Int32.lt_iff_toInt_lt, l0, l65536] at h
  omega
theorem own_kk (x : Int32) : 0 ≤ ((x &&& (2147483647 : Int32)) % (67 : Int32)).toInt ∧ ((x &&& (2147483647 : Int32)) % (67 : Int32)).toInt < 67 := by
  have h := c_mask x 2147483647 31 (by decide) (by decide)
  have l : (67 : Int32).toInt = 67 := by decide
  have q := (c_iremV (x &&& 2147483647) 67).1 (by rw [h]; omega) (by rw [l]; omega)
  rw [l] at q
  exact ⟨q.1, q.2.1⟩
theorem own_r1 (x : Int32) (h : ((x &&& (2147483647 : Int32)) % (67 : Int32)) < (32 : Int32)) : ¬ ((x &&& (2147483647 : Int32)) % (67 : Int32)) < 0 ∧ ((x &&& (2147483647 : Int32)) % (67 : Int32)) < 65536 := by
  have q := own_kk x
  generalize ((x &&& (2147483647 : Int32)) % (67 : Int32)) = k at *
  have l0 : (0 : Int32).toInt = 0 := by decide
  have l65536 : (65536 : Int32).toInt = 65536 := by decide
  simp only [Int32.lt_iff_toInt_lt, l0, l65536] at *
  omega
theorem own_r2 (x : Int32) (h1 : ¬ (((x &&& (2147483647 : Int32)) % (67 : Int32)) < (32 : Int32))) (h2 : ((x &&& (2147483647 : Int32)) % (67 : Int32)) < (65 : Int32)) : ¬ ((127 : Int32) + (((x &&& (2147483647 : Int32)) % (67 : Int32)) - (32 : Int32))) < 0 ∧ ((127 : Int32) + (((x &&& (2147483647 : Int32)) % (67 : Int32)) - (32 : Int32))) < 65536 := by
  have q := own_kk x
  generalize ((x &&& (2147483647 : Int32)) % (67 : Int32)) = k at *
  have l0 : (0 : Int32).toInt = 0 := by decide
  have l65536 : (65536 : Int32).toInt = 65536 := by decide
  have l32 : (32 : Int32).toInt = 32 := by decide
  have l65 : (65 : Int32).toInt = 65 := by decide
  have l127 : (127 : Int32).toInt = 127 := by decide
  have l8232 : (8232 : Int32).toInt = 8232 := by decide
  have a1 := c_isub k 32
  have a2 := c_iadd 127 (k - 32)
  have r1 := rng32 (k - 32)
  have r2 := rng32 (127 + (k - 32))
  simp only [Int32.lt_iff_toInt_lt, l0, l32, l65, l127, l65536] at *
  omega
theorem own_r3 (x : Int32) (h2 : ¬ (((x &&& (2147483647 : Int32)) % (67 : Int32)) < (65 : Int32))) : ¬ ((8232 : Int32) + (((x &&& (2147483647 : Int32)) % (67 : Int32)) - (65 : Int32))) < 0 ∧ ((8232 : Int32) + (((x &&& (2147483647 : Int32)) % (67 : Int32)) - (65 : Int32))) < 65536 := by
  have q := own_kk x
  generalize ((x &&& (2147483647 : Int32)) % (67 : Int32)) = k at *
  have l0 : (0 : Int32).toInt = 0 := by decide
  have l65536 : (65536 : Int32).toInt = 65536 := by decide
  have l32 : (32 : Int32).toInt = 32 := by decide
  have l65 : (65 : Int32).toInt = 65 := by decide
  have l127 : (127 : Int32).toInt = 127 := by decide
  have l8232 : (8232 : Int32).toInt = 8232 := by decide
  have a1 := c_isub k 65
  have a2 := c_iadd 8232 (k - 65)
  have r1 := rng32 (k - 65)
  have r2 := rng32 (8232 + (k - 65))
  simp only [Int32.lt_iff_toInt_lt, l0, l32, l65, l8232, l65536] at *
  omega
theorem pn_0 : plainName "com/example/endcon/endcon/rules/LineTextEscapePinLaw" = true := by first | (simp [plainName, overriddenIn]; done) | decide +kernel
theorem ef_0 (m : MethodId) (x0 : Int32) (x1 : Int32) (x2 : Int32) : entryFrame m #[(.int x0), (.int x1), (.int x2)] maxLocals = mkF m 0 #[.val (.int x0), .val (.int x1), .val (.int x2), .unset, .unset, .unset, .unset, .unset, .unset, .unset, .unset, .unset] [] := by first | (simp [entryFrame, mkF, argsToLocals, Value.category, maxLocals]; done) | rfl
def bl0_0_1 : List (Nat × Instr × Nat) := [(0, .iload_n 0, 1)]
theorem bd0_0_1 : own_dec code bl0_0_1 = true := by decide +kernel
def bl0_3_2 : List (Nat × Instr × Nat) := [(3, .iand, 1), (4, .bipush 67, 2)]
theorem bd0_3_2 : own_dec code bl0_3_2 = true := by decide +kernel
def bl0_7_1 : List (Nat × Instr × Nat) := [(7, .istore_n 3, 1)]
theorem bd0_7_1 : own_dec code bl0_7_1 = true := by decide +kernel
def bl0_8_2 : List (Nat × Instr × Nat) := [(8, .iload_n 3, 1), (9, .bipush 32, 2)]
theorem bd0_8_2 : own_dec code bl0_8_2 = true := by decide +kernel
def bl0_14_2 : List (Nat × Instr × Nat) := [(14, .iload_n 3, 1), (15, .istore 4, 2)]
theorem bd0_14_2 : own_dec code bl0_14_2 = true := by decide +kernel
def bl0_17_3 : List (Nat × Instr × Nat) := [(17, .goto 31, 3), (48, .iload 4, 2), (50, .i2c, 1)]
theorem bd0_17_3 : own_dec code bl0_17_3 = true := by decide +kernel
def bl0_51_1 : List (Nat × Instr × Nat) := [(51, .istore 5, 2)]
theorem bd0_51_1 : own_dec code bl0_51_1 = true := by decide +kernel
def bl0_53_3 : List (Nat × Instr × Nat) := [(53, .iload_n 1, 1), (54, .iconst 3, 1), (55, .iand, 1)]
theorem bd0_53_3 : own_dec code bl0_53_3 = true := by decide +kernel
def bl0_56_1 : List (Nat × Instr × Nat) := [(56, .istore 6, 2)]
theorem bd0_56_1 : own_dec code bl0_56_1 = true := by decide +kernel
def bl0_20_2 : List (Nat × Instr × Nat) := [(20, .iload_n 3, 1), (21, .bipush 65, 2)]
theorem bd0_20_2 : own_dec code bl0_20_2 = true := by decide +kernel
def bl0_26_6 : List (Nat × Instr × Nat) := [(26, .bipush 127, 2), (28, .iload_n 3, 1), (29, .bipush 32, 2), (31, .isub, 1), (32, .iadd, 1), (33, .istore 4, 2)]
theorem bd0_26_6 : own_dec code bl0_26_6 = true := by decide +kernel
def bl0_35_3 : List (Nat × Instr × Nat) := [(35, .goto 13, 3), (48, .iload 4, 2), (50, .i2c, 1)]
theorem bd0_35_3 : own_dec code bl0_35_3 = true := by decide +kernel
def bl0_38_6 : List (Nat × Instr × Nat) := [(38, .sipush 8232, 3), (41, .iload_n 3, 1), (42, .bipush 65, 2), (44, .isub, 1), (45, .iadd, 1), (46, .istore 4, 2)]
theorem bd0_38_6 : own_dec code bl0_38_6 = true := by decide +kernel
def bl0_48_2 : List (Nat × Instr × Nat) := [(48, .iload 4, 2), (50, .i2c, 1)]
theorem bd0_48_2 : own_dec code bl0_48_2 = true := by decide +kernel

def f0_0 (p1 : Int32) (p2 : Int32) (p3 : Int32) : Int32 := (if ((p1 &&& (2147483647 : Int32)) % (67 : Int32)) < (32 : Int32) then (fA0 p1 p2 p3 ((p1 &&& (2147483647 : Int32)) % (67 : Int32)) ((p1 &&& (2147483647 : Int32)) % (67 : Int32))) else (if ((p1 &&& (2147483647 : Int32)) % (67 : Int32)) < (65 : Int32) then (fA0 p1 p2 p3 ((p1 &&& (2147483647 : Int32)) % (67 : Int32)) ((127 : Int32) + (((p1 &&& (2147483647 : Int32)) % (67 : Int32)) - (32 : Int32)))) else (fA0 p1 p2 p3 ((p1 &&& (2147483647 : Int32)) % (67 : Int32)) ((8232 : Int32) + (((p1 &&& (2147483647 : Int32)) % (67 : Int32)) - (65 : Int32))))))
def Q0_0 (Z : State) (p1 : Int32) (p2 : Int32) (p3 : Int32) (w1 : Addr) (cl1 : Cell) (h0 : Heap) (n0 : Nat) (v : Option Value) (h : Heap) (L : List Loc) : Prop := v = some (.int (f0_0 p1 p2 p3)) ∧ Fr n0 L
set_option maxRecDepth 65536 in
set_option maxHeartbeats 40000000 in
theorem rm0_0 (l : Launch) (Z : State) (a0 : Array Value) (hw : ∀ d ∈ tables_1, d.before a0 Z = true) (ws : List Jvm.Cond) (p1 : Int32) (p2 : Int32) (p3 : Int32) (w1 : Addr) (cl1 : Cell) (h0 : Heap) (n0 : Nat) (Z0 : n0 ≤ h0.size) (S_HEX_DIGITS : Sta Z h0 "com/example/endcon/endcon/rules/LineText" "HEX_DIGITS" "[B" (.ref w1)) (Ar_w1 : Arr Z h0 w1 cl1 .byte) (sz1 : cl1.slots.size = (16 : Int32).toNatClampNeg) (hv : ∀ j : Int32, ¬ j < 0 → j < 16 → cl1.slots[j.toNatClampNeg]? = some (.int (own_tab j))) (hn : (p2 &&& (3 : Int32)) = (0 : Int32)) :
    MetFree l x (head1 (Jvm.Cond.code x code maxLocals ret :: ws) room_1) (fun a U => a = #[(.int p1), (.int p2), (.int p3)] ∧ Z.Warmed39 U.vm ∧ U.heap = h0) (fun _ _ _ _ _ => True) (fun _ U o U' => ∃ v L, o = .returned v ∧ Q0_0 Z p1 p2 p3 w1 cl1 h0 n0 v U'.heap L ∧ FrameEnd U o U' L room_1.cells room_1.slots) := by
  refine MetFree.of_bodySF (plainFor_of_name pn_0) hisR ?_
  intro p e s m args below meth c s₁ Bd hml0 hP hK
  obtain ⟨rfl, hZ, hh⟩ := hP
  have hx := Bd.exec
  have hby := Bd.bytes
  have hml : c.maxLocals = 12 := hml0
  have hown : s.vm.findClass "com/example/endcon/endcon/rules/LineTextEscapePinLaw" = some m.cls := findClass_of_methodNamed Bd.named
  have hnm := (name_of_methodNamed Bd.named Bd.method).1
  have X0 : Stand p l e room_1 s m #[(.int p1), (.int p2), (.int p3)] below meth c s₁ [] 0 0 := Stand.of_body Bd
  have e0 : s₁.heap = h0 := by rw [← hh, Bd.state]; rfl
  have N0 := Fr.nil n0
  have pre0 : ∀ t, Steps p.tables e below (s₁.setTop (mkF m 0 #[.val (.int p1), .val (.int p2), .val (.int p3), .unset, .unset, .unset, .unset, .unset, .unset, .unset, .unset, .unset] [])) t → Steps p.tables e below (s₁.setTop (entryFrame m #[(.int p1), (.int p2), (.int p3)] maxLocals)) t := fun t k => castTop (ef_0 m p1 p2 p3) k
  have pre1 : ∀ t, Steps p.tables e below (s₁.setTop (mkF m 11 #[.val (.int p1), .val (.int p2), .val (.int p3), .val (.int ((p1 &&& (2147483647 : Int32)) % (67 : Int32))), .unset, .unset, .unset, .unset, .unset, .unset, .unset, .unset] [(.int (32 : Int32)), (.int ((p1 &&& (2147483647 : Int32)) % (67 : Int32)))])) t → Steps p.tables e below (s₁.setTop (entryFrame m #[(.int p1), (.int p2), (.int p3)] maxLocals)) t := fun t kt => by
    refine pre0 _ ?_
    show Steps p.tables e below (s₁.setTop (mkF m 0 #[.val (.int p1), .val (.int p2), .val (.int p3), .unset, .unset, .unset, .unset, .unset, .unset, .unset, .unset, .unset] [])) _
    refine own_blk X0 hx bl0_0_1 (own_hb hby bd0_0_1) (pc' := 1) (Ls' := #[.val (.int p1), .val (.int p2), .val (.int p3), .unset, .unset, .unset, .unset, .unset, .unset, .unset, .unset, .unset]) (st' := [(.int p1)]) rfl ?_
    refine X0.ldcInt hx hown (mvT hZ (hw _ (List.mem_of_getElem? (i := 0) rfl))) (g := (mkF m 1 #[.val (.int p1), .val (.int p2), .val (.int p3), .unset, .unset, .unset, .unset, .unset, .unset, .unset, .unset, .unset] [(.int p1)])) rfl (hb hby at_1) _ ?_
    show Steps p.tables e below (s₁.setTop (mkF m 3 #[.val (.int p1), .val (.int p2), .val (.int p3), .unset, .unset, .unset, .unset, .unset, .unset, .unset, .unset, .unset] [(.int (2147483647 : Int32)), (.int p1)])) _
    refine own_blk X0 hx bl0_3_2 (own_hb hby bd0_3_2) (pc' := 6) (Ls' := #[.val (.int p1), .val (.int p2), .val (.int p3), .unset, .unset, .unset, .unset, .unset, .unset, .unset, .unset, .unset]) (st' := [(.int (67 : Int32)), (.int (p1 &&& (2147483647 : Int32)))]) rfl ?_
    refine iremM X0 hx rfl (hb hby at_6) rfl (by decide : ¬ ((67 : Int32) = (0 : Int32))) ?_
    show Steps p.tables e below (s₁.setTop (mkF m 7 #[.val (.int p1), .val (.int p2), .val (.int p3), .unset, .unset, .unset, .unset, .unset, .unset, .unset, .unset, .unset] [(.int ((p1 &&& (2147483647 : Int32)) % (67 : Int32)))])) _
    refine own_blk X0 hx bl0_7_1 (own_hb hby bd0_7_1) (pc' := 8) (Ls' := #[.val (.int p1), .val (.int p2), .val (.int p3), .val (.int ((p1 &&& (2147483647 : Int32)) % (67 : Int32))), .unset, .unset, .unset, .unset, .unset, .unset, .unset, .unset]) (st' := []) rfl ?_
    refine own_blk X0 hx bl0_8_2 (own_hb hby bd0_8_2) (pc' := 11) (Ls' := #[.val (.int p1), .val (.int p2), .val (.int p3), .val (.int ((p1 &&& (2147483647 : Int32)) % (67 : Int32))), .unset, .unset, .unset, .unset, .unset, .unset, .unset, .unset]) (st' := [(.int (32 : Int32)), (.int ((p1 &&& (2147483647 : Int32)) % (67 : Int32)))]) rfl ?_
    exact kt
  by_cases hc2 : ((p1 &&& (2147483647 : Int32)) % (67 : Int32)) < (32 : Int32)
  · have pre3 : ∀ t, Steps p.tables e below (s₁.setTop (mkF m 58 #[.val (.int p1), .val (.int p2), .val (.int p3), .val (.int ((p1 &&& (2147483647 : Int32)) % (67 : Int32))), .val (.int ((p1 &&& (2147483647 : Int32)) % (67 : Int32))), .val (.int ((p1 &&& (2147483647 : Int32)) % (67 : Int32))), .val (.int (0 : Int32)), .unset, .unset, .unset, .unset, .unset] [])) t → Steps p.tables e below (s₁.setTop (entryFrame m #[(.int p1), (.int p2), (.int p3)] maxLocals)) t := fun t kt => by
      refine pre1 _ ?_
      show Steps p.tables e below (s₁.setTop (mkF m 11 #[.val (.int p1), .val (.int p2), .val (.int p3), .val (.int ((p1 &&& (2147483647 : Int32)) % (67 : Int32))), .unset, .unset, .unset, .unset, .unset, .unset, .unset, .unset] [(.int (32 : Int32)), (.int ((p1 &&& (2147483647 : Int32)) % (67 : Int32)))])) _
      refine XS.icmpNo X0.here hx rfl (hb hby at_11) rfl (tlt hc2).2.1 ?_
      show Steps p.tables e below (s₁.setTop (mkF m 14 #[.val (.int p1), .val (.int p2), .val (.int p3), .val (.int ((p1 &&& (2147483647 : Int32)) % (67 : Int32))), .unset, .unset, .unset, .unset, .unset, .unset, .unset, .unset] [])) _
      refine own_blk X0 hx bl0_14_2 (own_hb hby bd0_14_2) (pc' := 17) (Ls' := #[.val (.int p1), .val (.int p2), .val (.int p3), .val (.int ((p1 &&& (2147483647 : Int32)) % (67 : Int32))), .val (.int ((p1 &&& (2147483647 : Int32)) % (67 : Int32))), .unset, .unset, .unset, .unset, .unset, .unset, .unset]) (st' := []) rfl ?_
      refine own_blk X0 hx bl0_17_3 (own_hb hby bd0_17_3) (pc' := 51) (Ls' := #[.val (.int p1), .val (.int p2), .val (.int p3), .val (.int ((p1 &&& (2147483647 : Int32)) % (67 : Int32))), .val (.int ((p1 &&& (2147483647 : Int32)) % (67 : Int32))), .unset, .unset, .unset, .unset, .unset, .unset, .unset]) (st' := [(.int (((p1 &&& (2147483647 : Int32)) % (67 : Int32)).toUInt32.toUInt16.toUInt32.toInt32))]) rfl ?_
      rw [own_ic (own_r1 p1 hc2)]
      show Steps p.tables e below (s₁.setTop (mkF m 51 #[.val (.int p1), .val (.int p2), .val (.int p3), .val (.int ((p1 &&& (2147483647 : Int32)) % (67 : Int32))), .val (.int ((p1 &&& (2147483647 : Int32)) % (67 : Int32))), .unset, .unset, .unset, .unset, .unset, .unset, .unset] [(.int ((p1 &&& (2147483647 : Int32)) % (67 : Int32)))])) _
      refine own_blk X0 hx bl0_51_1 (own_hb hby bd0_51_1) (pc' := 53) (Ls' := #[.val (.int p1), .val (.int p2), .val (.int p3), .val (.int ((p1 &&& (2147483647 : Int32)) % (67 : Int32))), .val (.int ((p1 &&& (2147483647 : Int32)) % (67 : Int32))), .val (.int ((p1 &&& (2147483647 : Int32)) % (67 : Int32))), .unset, .unset, .unset, .unset, .unset, .unset]) (st' := []) rfl ?_
      refine own_blk X0 hx bl0_53_3 (own_hb hby bd0_53_3) (pc' := 56) (Ls' := #[.val (.int p1), .val (.int p2), .val (.int p3), .val (.int ((p1 &&& (2147483647 : Int32)) % (67 : Int32))), .val (.int ((p1 &&& (2147483647 : Int32)) % (67 : Int32))), .val (.int ((p1 &&& (2147483647 : Int32)) % (67 : Int32))), .unset, .unset, .unset, .unset, .unset, .unset]) (st' := [(.int (p2 &&& (3 : Int32)))]) rfl ?_
      rw [hn]
      show Steps p.tables e below (s₁.setTop (mkF m 56 #[.val (.int p1), .val (.int p2), .val (.int p3), .val (.int ((p1 &&& (2147483647 : Int32)) % (67 : Int32))), .val (.int ((p1 &&& (2147483647 : Int32)) % (67 : Int32))), .val (.int ((p1 &&& (2147483647 : Int32)) % (67 : Int32))), .unset, .unset, .unset, .unset, .unset, .unset] [(.int (0 : Int32))])) _
      refine own_blk X0 hx bl0_56_1 (own_hb hby bd0_56_1) (pc' := 58) (Ls' := #[.val (.int p1), .val (.int p2), .val (.int p3), .val (.int ((p1 &&& (2147483647 : Int32)) % (67 : Int32))), .val (.int ((p1 &&& (2147483647 : Int32)) % (67 : Int32))), .val (.int ((p1 &&& (2147483647 : Int32)) % (67 : Int32))), .val (.int (0 : Int32)), .unset, .unset, .unset, .unset, .unset]) (st' := []) rfl ?_
      exact kt
    obtain ⟨s24, o4, u4a, u4b, u4c, v4, L4, rfl, ⟨rfl, u4d⟩, u4e⟩ := tlA0 p1 p2 p3 ((p1 &&& (2147483647 : Int32)) % (67 : Int32)) ((p1 &&& (2147483647 : Int32)) % (67 : Int32)) w1 cl1 X0 hx hZ hw hby hml hown Bd.returns Bd.notSynchronized e0 N0 Z0 pre3 S_HEX_DIGITS Ar_w1 sz1 hv (own_r1 p1 hc2).1 (own_r1 p1 hc2).2
    exact ⟨s24, _, u4a, u4b, u4c, _, _, rfl, ⟨by rw [f0_0, if_pos hc2], u4d⟩, u4e⟩
  · have pre5 : ∀ t, Steps p.tables e below (s₁.setTop (mkF m 23 #[.val (.int p1), .val (.int p2), .val (.int p3), .val (.int ((p1 &&& (2147483647 : Int32)) % (67 : Int32))), .unset, .unset, .unset, .unset, .unset, .unset, .unset, .unset] [(.int (65 : Int32)), (.int ((p1 &&& (2147483647 : Int32)) % (67 : Int32)))])) t → Steps p.tables e below (s₁.setTop (entryFrame m #[(.int p1), (.int p2), (.int p3)] maxLocals)) t := fun t kt => by
      refine pre1 _ ?_
      show Steps p.tables e below (s₁.setTop (mkF m 11 #[.val (.int p1), .val (.int p2), .val (.int p3), .val (.int ((p1 &&& (2147483647 : Int32)) % (67 : Int32))), .unset, .unset, .unset, .unset, .unset, .unset, .unset, .unset] [(.int (32 : Int32)), (.int ((p1 &&& (2147483647 : Int32)) % (67 : Int32)))])) _
      refine XS.icmpYes X0.here hx rfl (pc0 := 11) (pc' := 20) rfl (hb hby at_11) rfl (flt hc2).2.1 (by decide) (by decide) ?_
      show Steps p.tables e below (s₁.setTop (mkF m 20 #[.val (.int p1), .val (.int p2), .val (.int p3), .val (.int ((p1 &&& (2147483647 : Int32)) % (67 : Int32))), .unset, .unset, .unset, .unset, .unset, .unset, .unset, .unset] [])) _
      refine own_blk X0 hx bl0_20_2 (own_hb hby bd0_20_2) (pc' := 23) (Ls' := #[.val (.int p1), .val (.int p2), .val (.int p3), .val (.int ((p1 &&& (2147483647 : Int32)) % (67 : Int32))), .unset, .unset, .unset, .unset, .unset, .unset, .unset, .unset]) (st' := [(.int (65 : Int32)), (.int ((p1 &&& (2147483647 : Int32)) % (67 : Int32)))]) rfl ?_
      exact kt
    by_cases hc6 : ((p1 &&& (2147483647 : Int32)) % (67 : Int32)) < (65 : Int32)
    · have pre7 : ∀ t, Steps p.tables e below (s₁.setTop (mkF m 58 #[.val (.int p1), .val (.int p2), .val (.int p3), .val (.int ((p1 &&& (2147483647 : Int32)) % (67 : Int32))), .val (.int ((127 : Int32) + (((p1 &&& (2147483647 : Int32)) % (67 : Int32)) - (32 : Int32)))), .val (.int ((127 : Int32) + (((p1 &&& (2147483647 : Int32)) % (67 : Int32)) - (32 : Int32)))), .val (.int (0 : Int32)), .unset, .unset, .unset, .unset, .unset] [])) t → Steps p.tables e below (s₁.setTop (entryFrame m #[(.int p1), (.int p2), (.int p3)] maxLocals)) t := fun t kt => by
        refine pre5 _ ?_
        show Steps p.tables e below (s₁.setTop (mkF m 23 #[.val (.int p1), .val (.int p2), .val (.int p3), .val (.int ((p1 &&& (2147483647 : Int32)) % (67 : Int32))), .unset, .unset, .unset, .unset, .unset, .unset, .unset, .unset] [(.int (65 : Int32)), (.int ((p1 &&& (2147483647 : Int32)) % (67 : Int32)))])) _
        refine XS.icmpNo X0.here hx rfl (hb hby at_23) rfl (tlt hc6).2.1 ?_
        show Steps p.tables e below (s₁.setTop (mkF m 26 #[.val (.int p1), .val (.int p2), .val (.int p3), .val (.int ((p1 &&& (2147483647 : Int32)) % (67 : Int32))), .unset, .unset, .unset, .unset, .unset, .unset, .unset, .unset] [])) _
        refine own_blk X0 hx bl0_26_6 (own_hb hby bd0_26_6) (pc' := 35) (Ls' := #[.val (.int p1), .val (.int p2), .val (.int p3), .val (.int ((p1 &&& (2147483647 : Int32)) % (67 : Int32))), .val (.int ((127 : Int32) + (((p1 &&& (2147483647 : Int32)) % (67 : Int32)) - (32 : Int32)))), .unset, .unset, .unset, .unset, .unset, .unset, .unset]) (st' := []) rfl ?_
        refine own_blk X0 hx bl0_35_3 (own_hb hby bd0_35_3) (pc' := 51) (Ls' := #[.val (.int p1), .val (.int p2), .val (.int p3), .val (.int ((p1 &&& (2147483647 : Int32)) % (67 : Int32))), .val (.int ((127 : Int32) + (((p1 &&& (2147483647 : Int32)) % (67 : Int32)) - (32 : Int32)))), .unset, .unset, .unset, .unset, .unset, .unset, .unset]) (st' := [(.int (((127 : Int32) + (((p1 &&& (2147483647 : Int32)) % (67 : Int32)) - (32 : Int32))).toUInt32.toUInt16.toUInt32.toInt32))]) rfl ?_
        rw [own_ic (own_r2 p1 hc2 hc6)]
        show Steps p.tables e below (s₁.setTop (mkF m 51 #[.val (.int p1), .val (.int p2), .val (.int p3), .val (.int ((p1 &&& (2147483647 : Int32)) % (67 : Int32))), .val (.int ((127 : Int32) + (((p1 &&& (2147483647 : Int32)) % (67 : Int32)) - (32 : Int32)))), .unset, .unset, .unset, .unset, .unset, .unset, .unset] [(.int ((127 : Int32) + (((p1 &&& (2147483647 : Int32)) % (67 : Int32)) - (32 : Int32))))])) _
        refine own_blk X0 hx bl0_51_1 (own_hb hby bd0_51_1) (pc' := 53) (Ls' := #[.val (.int p1), .val (.int p2), .val (.int p3), .val (.int ((p1 &&& (2147483647 : Int32)) % (67 : Int32))), .val (.int ((127 : Int32) + (((p1 &&& (2147483647 : Int32)) % (67 : Int32)) - (32 : Int32)))), .val (.int ((127 : Int32) + (((p1 &&& (2147483647 : Int32)) % (67 : Int32)) - (32 : Int32)))), .unset, .unset, .unset, .unset, .unset, .unset]) (st' := []) rfl ?_
        refine own_blk X0 hx bl0_53_3 (own_hb hby bd0_53_3) (pc' := 56) (Ls' := #[.val (.int p1), .val (.int p2), .val (.int p3), .val (.int ((p1 &&& (2147483647 : Int32)) % (67 : Int32))), .val (.int ((127 : Int32) + (((p1 &&& (2147483647 : Int32)) % (67 : Int32)) - (32 : Int32)))), .val (.int ((127 : Int32) + (((p1 &&& (2147483647 : Int32)) % (67 : Int32)) - (32 : Int32)))), .unset, .unset, .unset, .unset, .unset, .unset]) (st' := [(.int (p2 &&& (3 : Int32)))]) rfl ?_
        rw [hn]
        show Steps p.tables e below (s₁.setTop (mkF m 56 #[.val (.int p1), .val (.int p2), .val (.int p3), .val (.int ((p1 &&& (2147483647 : Int32)) % (67 : Int32))), .val (.int ((127 : Int32) + (((p1 &&& (2147483647 : Int32)) % (67 : Int32)) - (32 : Int32)))), .val (.int ((127 : Int32) + (((p1 &&& (2147483647 : Int32)) % (67 : Int32)) - (32 : Int32)))), .unset, .unset, .unset, .unset, .unset, .unset] [(.int (0 : Int32))])) _
        refine own_blk X0 hx bl0_56_1 (own_hb hby bd0_56_1) (pc' := 58) (Ls' := #[.val (.int p1), .val (.int p2), .val (.int p3), .val (.int ((p1 &&& (2147483647 : Int32)) % (67 : Int32))), .val (.int ((127 : Int32) + (((p1 &&& (2147483647 : Int32)) % (67 : Int32)) - (32 : Int32)))), .val (.int ((127 : Int32) + (((p1 &&& (2147483647 : Int32)) % (67 : Int32)) - (32 : Int32)))), .val (.int (0 : Int32)), .unset, .unset, .unset, .unset, .unset]) (st' := []) rfl ?_
        exact kt
      obtain ⟨s28, o8, u8a, u8b, u8c, v8, L8, rfl, ⟨rfl, u8d⟩, u8e⟩ := tlA0 p1 p2 p3 ((p1 &&& (2147483647 : Int32)) % (67 : Int32)) ((127 : Int32) + (((p1 &&& (2147483647 : Int32)) % (67 : Int32)) - (32 : Int32))) w1 cl1 X0 hx hZ hw hby hml hown Bd.returns Bd.notSynchronized e0 N0 Z0 pre7 S_HEX_DIGITS Ar_w1 sz1 hv (own_r2 p1 hc2 hc6).1 (own_r2 p1 hc2 hc6).2
      exact ⟨s28, _, u8a, u8b, u8c, _, _, rfl, ⟨by rw [f0_0, if_neg hc2, if_pos hc6], u8d⟩, u8e⟩
    · have pre9 : ∀ t, Steps p.tables e below (s₁.setTop (mkF m 58 #[.val (.int p1), .val (.int p2), .val (.int p3), .val (.int ((p1 &&& (2147483647 : Int32)) % (67 : Int32))), .val (.int ((8232 : Int32) + (((p1 &&& (2147483647 : Int32)) % (67 : Int32)) - (65 : Int32)))), .val (.int ((8232 : Int32) + (((p1 &&& (2147483647 : Int32)) % (67 : Int32)) - (65 : Int32)))), .val (.int (0 : Int32)), .unset, .unset, .unset, .unset, .unset] [])) t → Steps p.tables e below (s₁.setTop (entryFrame m #[(.int p1), (.int p2), (.int p3)] maxLocals)) t := fun t kt => by
        refine pre5 _ ?_
        show Steps p.tables e below (s₁.setTop (mkF m 23 #[.val (.int p1), .val (.int p2), .val (.int p3), .val (.int ((p1 &&& (2147483647 : Int32)) % (67 : Int32))), .unset, .unset, .unset, .unset, .unset, .unset, .unset, .unset] [(.int (65 : Int32)), (.int ((p1 &&& (2147483647 : Int32)) % (67 : Int32)))])) _
        refine XS.icmpYes X0.here hx rfl (pc0 := 23) (pc' := 38) rfl (hb hby at_23) rfl (flt hc6).2.1 (by decide) (by decide) ?_
        show Steps p.tables e below (s₁.setTop (mkF m 38 #[.val (.int p1), .val (.int p2), .val (.int p3), .val (.int ((p1 &&& (2147483647 : Int32)) % (67 : Int32))), .unset, .unset, .unset, .unset, .unset, .unset, .unset, .unset] [])) _
        refine own_blk X0 hx bl0_38_6 (own_hb hby bd0_38_6) (pc' := 48) (Ls' := #[.val (.int p1), .val (.int p2), .val (.int p3), .val (.int ((p1 &&& (2147483647 : Int32)) % (67 : Int32))), .val (.int ((8232 : Int32) + (((p1 &&& (2147483647 : Int32)) % (67 : Int32)) - (65 : Int32)))), .unset, .unset, .unset, .unset, .unset, .unset, .unset]) (st' := []) rfl ?_
        refine own_blk X0 hx bl0_48_2 (own_hb hby bd0_48_2) (pc' := 51) (Ls' := #[.val (.int p1), .val (.int p2), .val (.int p3), .val (.int ((p1 &&& (2147483647 : Int32)) % (67 : Int32))), .val (.int ((8232 : Int32) + (((p1 &&& (2147483647 : Int32)) % (67 : Int32)) - (65 : Int32)))), .unset, .unset, .unset, .unset, .unset, .unset, .unset]) (st' := [(.int (((8232 : Int32) + (((p1 &&& (2147483647 : Int32)) % (67 : Int32)) - (65 : Int32))).toUInt32.toUInt16.toUInt32.toInt32))]) rfl ?_
        rw [own_ic (own_r3 p1 hc6)]
        show Steps p.tables e below (s₁.setTop (mkF m 51 #[.val (.int p1), .val (.int p2), .val (.int p3), .val (.int ((p1 &&& (2147483647 : Int32)) % (67 : Int32))), .val (.int ((8232 : Int32) + (((p1 &&& (2147483647 : Int32)) % (67 : Int32)) - (65 : Int32)))), .unset, .unset, .unset, .unset, .unset, .unset, .unset] [(.int ((8232 : Int32) + (((p1 &&& (2147483647 : Int32)) % (67 : Int32)) - (65 : Int32))))])) _
        refine own_blk X0 hx bl0_51_1 (own_hb hby bd0_51_1) (pc' := 53) (Ls' := #[.val (.int p1), .val (.int p2), .val (.int p3), .val (.int ((p1 &&& (2147483647 : Int32)) % (67 : Int32))), .val (.int ((8232 : Int32) + (((p1 &&& (2147483647 : Int32)) % (67 : Int32)) - (65 : Int32)))), .val (.int ((8232 : Int32) + (((p1 &&& (2147483647 : Int32)) % (67 : Int32)) - (65 : Int32)))), .unset, .unset, .unset, .unset, .unset, .unset]) (st' := []) rfl ?_
        refine own_blk X0 hx bl0_53_3 (own_hb hby bd0_53_3) (pc' := 56) (Ls' := #[.val (.int p1), .val (.int p2), .val (.int p3), .val (.int ((p1 &&& (2147483647 : Int32)) % (67 : Int32))), .val (.int ((8232 : Int32) + (((p1 &&& (2147483647 : Int32)) % (67 : Int32)) - (65 : Int32)))), .val (.int ((8232 : Int32) + (((p1 &&& (2147483647 : Int32)) % (67 : Int32)) - (65 : Int32)))), .unset, .unset, .unset, .unset, .unset, .unset]) (st' := [(.int (p2 &&& (3 : Int32)))]) rfl ?_
        rw [hn]
        show Steps p.tables e below (s₁.setTop (mkF m 56 #[.val (.int p1), .val (.int p2), .val (.int p3), .val (.int ((p1 &&& (2147483647 : Int32)) % (67 : Int32))), .val (.int ((8232 : Int32) + (((p1 &&& (2147483647 : Int32)) % (67 : Int32)) - (65 : Int32)))), .val (.int ((8232 : Int32) + (((p1 &&& (2147483647 : Int32)) % (67 : Int32)) - (65 : Int32)))), .unset, .unset, .unset, .unset, .unset, .unset] [(.int (0 : Int32))])) _
        refine own_blk X0 hx bl0_56_1 (own_hb hby bd0_56_1) (pc' := 58) (Ls' := #[.val (.int p1), .val (.int p2), .val (.int p3), .val (.int ((p1 &&& (2147483647 : Int32)) % (67 : Int32))), .val (.int ((8232 : Int32) + (((p1 &&& (2147483647 : Int32)) % (67 : Int32)) - (65 : Int32)))), .val (.int ((8232 : Int32) + (((p1 &&& (2147483647 : Int32)) % (67 : Int32)) - (65 : Int32)))), .val (.int (0 : Int32)), .unset, .unset, .unset, .unset, .unset]) (st' := []) rfl ?_
        exact kt
      obtain ⟨s210, o10, u10a, u10b, u10c, v10, L10, rfl, ⟨rfl, u10d⟩, u10e⟩ := tlA0 p1 p2 p3 ((p1 &&& (2147483647 : Int32)) % (67 : Int32)) ((8232 : Int32) + (((p1 &&& (2147483647 : Int32)) % (67 : Int32)) - (65 : Int32))) w1 cl1 X0 hx hZ hw hby hml hown Bd.returns Bd.notSynchronized e0 N0 Z0 pre9 S_HEX_DIGITS Ar_w1 sz1 hv (own_r3 p1 hc6).1 (own_r3 p1 hc6).2
      exact ⟨s210, _, u10a, u10b, u10c, _, _, rfl, ⟨by rw [f0_0, if_neg hc2, if_neg hc6], u10d⟩, u10e⟩
theorem own_law0 (a b c : Int32) : f0_0 a b c = 1 := by
  unfold f0_0 fA0 fB0
  simp only [ite_self]

def f1_1 (p1 : Int32) (u : Int32) : Int32 := (if p1 = (8 : Int32) then (3 : Int32) else (if p1 = (9 : Int32) then (3 : Int32) else (if p1 = (10 : Int32) then (3 : Int32) else (if p1 = (11 : Int32) then (7 : Int32) else (if p1 = (12 : Int32) then (3 : Int32) else (if p1 = (13 : Int32) then (3 : Int32) else (7 : Int32)))))))
def f1_1_a2_0 (p1 : Int32) (u : Int32) : Int32 := u
def f1_1_a2_1 (p1 : Int32) (u : Int32) : Int32 := (nar .byte (92 : Int32))
def f1_1_a2_2 (p1 : Int32) (u : Int32) : Int32 := (if p1 = (8 : Int32) then (nar .byte (98 : Int32)) else (if p1 = (9 : Int32) then (nar .byte (116 : Int32)) else (if p1 = (10 : Int32) then (nar .byte (110 : Int32)) else (if p1 = (11 : Int32) then (nar .byte (117 : Int32)) else (if p1 = (12 : Int32) then (nar .byte (102 : Int32)) else (if p1 = (13 : Int32) then (nar .byte (114 : Int32)) else (nar .byte (117 : Int32))))))))
def f1_1_a2_3 (p1 : Int32) (u : Int32) : Int32 := (if p1 = (8 : Int32) then u else (if p1 = (9 : Int32) then u else (if p1 = (10 : Int32) then u else (if p1 = (11 : Int32) then (nar .byte (own_tab (p1 >>> ((12 : Int32) &&& 31)))) else (if p1 = (12 : Int32) then u else (if p1 = (13 : Int32) then u else (nar .byte (own_tab (p1 >>> ((12 : Int32) &&& 31))))))))))
def f1_1_a2_4 (p1 : Int32) (u : Int32) : Int32 := (if p1 = (8 : Int32) then u else (if p1 = (9 : Int32) then u else (if p1 = (10 : Int32) then u else (if p1 = (11 : Int32) then (nar .byte (own_tab ((p1 >>> ((8 : Int32) &&& 31)) &&& (15 : Int32)))) else (if p1 = (12 : Int32) then u else (if p1 = (13 : Int32) then u else (nar .byte (own_tab ((p1 >>> ((8 : Int32) &&& 31)) &&& (15 : Int32))))))))))
def f1_1_a2_5 (p1 : Int32) (u : Int32) : Int32 := (if p1 = (8 : Int32) then u else (if p1 = (9 : Int32) then u else (if p1 = (10 : Int32) then u else (if p1 = (11 : Int32) then (nar .byte (own_tab ((p1 >>> ((4 : Int32) &&& 31)) &&& (15 : Int32)))) else (if p1 = (12 : Int32) then u else (if p1 = (13 : Int32) then u else (nar .byte (own_tab ((p1 >>> ((4 : Int32) &&& 31)) &&& (15 : Int32))))))))))
def f1_1_a2_6 (p1 : Int32) (u : Int32) : Int32 := (if p1 = (8 : Int32) then u else (if p1 = (9 : Int32) then u else (if p1 = (10 : Int32) then u else (if p1 = (11 : Int32) then (nar .byte (own_tab (p1 &&& (15 : Int32)))) else (if p1 = (12 : Int32) then u else (if p1 = (13 : Int32) then u else (nar .byte (own_tab (p1 &&& (15 : Int32))))))))))
def f1_1_a2_7 (p1 : Int32) (u : Int32) : Int32 := u
def f1_1_a2_8 (p1 : Int32) (u : Int32) : Int32 := u
def f1_1_a2_9 (p1 : Int32) (u : Int32) : Int32 := u
def Q1_1 (Z : State) (p1 : Int32) (a2 : Addr) (u : Int32) (w1 : Addr) (cl1 : Cell) (k_a2 : ClassId) (h0 : Heap) (n0 : Nat) (v : Option Value) (h : Heap) (L : List Loc) : Prop := v = some (.int (f1_1 p1 u)) ∧ Fr n0 L ∧ Keep h0 h [a2] ∧ Arv Z h a2 k_a2 .byte (10 : Int32) [(.int (f1_1_a2_0 p1 u)), (.int (f1_1_a2_1 p1 u)), (.int (f1_1_a2_2 p1 u)), (.int (f1_1_a2_3 p1 u)), (.int (f1_1_a2_4 p1 u)), (.int (f1_1_a2_5 p1 u)), (.int (f1_1_a2_6 p1 u)), (.int (f1_1_a2_7 p1 u)), (.int (f1_1_a2_8 p1 u)), (.int (f1_1_a2_9 p1 u))] (.int (0 : Int32))
set_option maxRecDepth 65536 in
set_option maxHeartbeats 40000000 in
theorem rm1_1 (l : Launch) (Z : State) (a0 : Array Value) (hw : ∀ d ∈ tables_1, d.before a0 Z = true) (ws : List Jvm.Cond) (p1 : Int32) (a2 : Addr) (u : Int32) (w1 : Addr) (cl1 : Cell) (k_a2 : ClassId) (h0 : Heap) (n0 : Nat) (Z0 : n0 ≤ h0.size) (V_a2 : Arv Z h0 a2 k_a2 .byte (10 : Int32) [(.int u), (.int u), (.int u), (.int u), (.int u), (.int u), (.int u), (.int u), (.int u), (.int u)] (.int (0 : Int32))) (g_a2 : n0 ≤ a2) (S_HEX_DIGITS : Sta Z h0 "com/example/endcon/endcon/rules/LineText" "HEX_DIGITS" "[B" (.ref w1)) (ne_w1_a2 : w1 ≠ a2) (Ar_w1 : Arr Z h0 w1 cl1 .byte) (sz1 : cl1.slots.size = (16 : Int32).toNatClampNeg) (hv : ∀ j : Int32, ¬ j < 0 → j < 16 → cl1.slots[j.toNatClampNeg]? = some (.int (own_tab j))) (hp : ¬ (p1 < 0)) (hp2 : p1 < 65536) :
    MetFree l (⟨"com/example/endcon/endcon/rules/LineText", "escape", "(C[BI)I"⟩ : MethodName) (head1 (Jvm.Cond.code (⟨"com/example/endcon/endcon/rules/LineText", "escape", "(C[BI)I"⟩ : MethodName) prog_84_method_3_code 5 (some .int) :: ws) ({ frames := 0, cells := 0, slots := 0, locals := 0 } : Room)) (fun a U => a = #[(.int p1), (.ref a2), (.int (1 : Int32))] ∧ Z.Warmed39 U.vm ∧ U.heap = h0) (fun _ _ _ _ _ => True) (fun _ U o U' => ∃ v L, o = .returned v ∧ Q1_1 Z p1 a2 u w1 cl1 k_a2 h0 n0 v U'.heap L ∧ FrameEnd U o U' L ({ frames := 0, cells := 0, slots := 0, locals := 0 } : Room).cells ({ frames := 0, cells := 0, slots := 0, locals := 0 } : Room).slots) := by
  refine MetFree.of_bodySF (plainFor_of_name pn_1) hisR ?_
  intro p e s m args below meth c s₁ Bd hml0 hP hK
  obtain ⟨rfl, hZ, hh⟩ := hP
  have hx := Bd.exec
  have hby := Bd.bytes
  have hml : c.maxLocals = 5 := hml0
  have hown : s.vm.findClass "com/example/endcon/endcon/rules/LineText" = some m.cls := findClass_of_methodNamed Bd.named
  have hnm := (name_of_methodNamed Bd.named Bd.method).1
  have X0 : Stand p l e ({ frames := 0, cells := 0, slots := 0, locals := 0 } : Room) s m #[(.int p1), (.ref a2), (.int (1 : Int32))] below meth c s₁ [] 0 0 := Stand.of_body Bd
  have e0 : s₁.heap = h0 := by rw [← hh, Bd.state]; rfl
  have N0 := Fr.nil n0
  have pre0 : ∀ t, Steps p.tables e below (s₁.setTop (mkF m 0 #[.val (.int p1), .val (.ref a2), .val (.int (1 : Int32)), .unset, .unset] [])) t → Steps p.tables e below (s₁.setTop (entryFrame m #[(.int p1), (.ref a2), (.int (1 : Int32))] 5)) t := fun t k => castTop (ef_1 m p1 a2 (1 : Int32)) k
  obtain ⟨cx1, Ar1, qq1, S1, N1_, H1, G1⟩ := id V_a2
  have hin1 : ¬ ((1 : Int32) < 0 ∨ cx1.slots.size ≤ ((1 : Int32)).toNatClampNeg) := inb_of S1 ⟨by decide, by decide⟩
  obtain ⟨T1, h1, X1, e1, W1, st1⟩ := stB X0 hx hZ e0 Ar1 (j := (1 : Int32)) hin1 (g := (mkF m 4 #[.val (.int p1), .val (.ref a2), .val (.int (1 : Int32)), .unset, .unset] [(.int (92 : Int32)), (.int (1 : Int32)), (.ref a2)])) rfl rfl (hb hby d1_4)
  have V1 : Arv Z h1 a2 k_a2 .byte (10 : Int32) [(.int u), (.int (nar .byte (92 : Int32))), (.int u), (.int u), (.int u), (.int u), (.int u), (.int u), (.int u), (.int u)] (.int (0 : Int32)) := Arv.set Ar1 qq1 S1 N1_ H1 G1 (fits_nar_byte _) W1 1 rfl (Nat.le_of_ble_eq_true rfl)
  have zs2 : n0 ≤ h1.size := Nat.le_trans Z0 (Keep.of_wr W1).1
  have kp3 : Keep h0 h1 [a2] := (Keep.refl h0 [a2]).wr W1 (Or.inl (List.mem_of_getElem? (i := 0) rfl))
  have N1 := Fr.snoc X1 N0 g_a2
  have pre4 : ∀ t, Steps p.tables e below (T1.setTop (mkF m 6 #[.val (.int p1), .val (.ref a2), .val (.int (1 : Int32)), .unset, .unset] [(.int p1)])) t → Steps p.tables e below (s₁.setTop (entryFrame m #[(.int p1), (.ref a2), (.int (1 : Int32))] 5)) t := fun t kt => by
    refine pre0 _ ?_
    show Steps p.tables e below (s₁.setTop (mkF m 0 #[.val (.int p1), .val (.ref a2), .val (.int (1 : Int32)), .unset, .unset] [])) _
    refine own_blk X0 hx bl1_0_3 (own_hb hby bd1_0_3) (pc' := 4) (Ls' := #[.val (.int p1), .val (.ref a2), .val (.int (1 : Int32)), .unset, .unset]) (st' := [(.int (92 : Int32)), (.int (1 : Int32)), (.ref a2)]) rfl ?_
    refine st1 _ ?_
    show Steps p.tables e below (T1.setTop (mkF m 5 #[.val (.int p1), .val (.ref a2), .val (.int (1 : Int32)), .unset, .unset] [])) _
    refine own_blk X1 hx bl1_5_1 (own_hb hby bd1_5_1) (pc' := 6) (Ls' := #[.val (.int p1), .val (.ref a2), .val (.int (1 : Int32)), .unset, .unset]) (st' := [(.int p1)]) rfl ?_
    exact kt
  by_cases hc5 : p1 = (8 : Int32)
  · obtain ⟨cx6, Ar6, qq6, S6, N6_, H6, G6⟩ := id V1
    have hin6 : ¬ ((2 : Int32) < 0 ∨ cx6.slots.size ≤ ((2 : Int32)).toNatClampNeg) := inb_of S6 ⟨by decide, by decide⟩
    obtain ⟨T6, h6, X6, e6, W6, st6⟩ := stB X1 hx hZ e1 Ar6 (j := (2 : Int32)) hin6 (g := (mkF m 80 #[.val (.int p1), .val (.ref a2), .val (.int (1 : Int32)), .val (.int (98 : Int32)), .unset] [(.int (98 : Int32)), (.int (2 : Int32)), (.ref a2)])) rfl rfl (hb hby d1_80)
    have V6 : Arv Z h6 a2 k_a2 .byte (10 : Int32) [(.int u), (.int (nar .byte (92 : Int32))), (.int (nar .byte (98 : Int32))), (.int u), (.int u), (.int u), (.int u), (.int u), (.int u), (.int u)] (.int (0 : Int32)) := Arv.set Ar6 qq6 S6 N6_ H6 G6 (fits_nar_byte _) W6 2 rfl (Nat.le_of_ble_eq_true rfl)
    have zs7 : n0 ≤ h6.size := Nat.le_trans zs2 (Keep.of_wr W6).1
    have kp8 : Keep h0 h6 [a2] := kp3.wr W6 (Or.inl (List.mem_of_getElem? (i := 0) rfl))
    have N6 := Fr.snoc X6 N1 g_a2
    obtain ⟨fs, hr, hrun, hended, hW, hsame⟩ := X6.leave (v := some (.int (3 : Int32))) (fun h => by rw [Bd.returns] at h; cases h)
    refine ⟨_, _, pre4 _ ?_, hrun, hended, _, _, rfl, ?_, ⟨_, rfl⟩, hW, hsame.mono (by decide) (by decide)⟩
    · show Steps p.tables e below (T1.setTop (mkF m 6 #[.val (.int p1), .val (.ref a2), .val (.int (1 : Int32)), .unset, .unset] [(.int p1)])) _
      refine XS.tswIn X1.here hx rfl (pc0 := 6) (pc' := 44) (o := 38) rfl (hb hby d1_6) rfl (by rw [hc5]; decide) (by rw [hc5]; rfl) (by decide) (by decide) ?_
      show Steps p.tables e below (T1.setTop (mkF m 44 #[.val (.int p1), .val (.ref a2), .val (.int (1 : Int32)), .unset, .unset] [])) _
      refine own_blk X1 hx bl1_44_3 (own_hb hby bd1_44_3) (pc' := 71) (Ls' := #[.val (.int p1), .val (.ref a2), .val (.int (1 : Int32)), .val (.int (98 : Int32)), .unset]) (st' := []) rfl ?_
      refine own_blk X1 hx bl1_71_1 (own_hb hby bd1_71_1) (pc' := 72) (Ls' := #[.val (.int p1), .val (.ref a2), .val (.int (1 : Int32)), .val (.int (98 : Int32)), .unset]) (st' := [(.int (98 : Int32))]) rfl ?_
      refine XS.ifNo X1.here hx rfl (hb hby d1_72) rfl ((if0 _ _).trans (feq (by decide : ¬ ((98 : Int32) = (0 : Int32)))).1) ?_
      show Steps p.tables e below (T1.setTop (mkF m 75 #[.val (.int p1), .val (.ref a2), .val (.int (1 : Int32)), .val (.int (98 : Int32)), .unset] [])) _
      refine own_blk X1 hx bl1_75_5 (own_hb hby bd1_75_5) (pc' := 80) (Ls' := #[.val (.int p1), .val (.ref a2), .val (.int (1 : Int32)), .val (.int (98 : Int32)), .unset]) (st' := [(.int (98 : Int32)), (.int (2 : Int32)), (.ref a2)]) rfl ?_
      refine st6 _ ?_
      show Steps p.tables e below (T6.setTop (mkF m 81 #[.val (.int p1), .val (.ref a2), .val (.int (1 : Int32)), .val (.int (98 : Int32)), .unset] [])) _
      refine own_blk X6 hx bl1_81_4 (own_hb hby bd1_81_4) (pc' := 86) (Ls' := #[.val (.int p1), .val (.ref a2), .val (.int (1 : Int32)), .val (.int (98 : Int32)), .val (.int (3 : Int32))]) (st' := []) rfl ?_
      refine own_blk X6 hx bl1_86_2 (own_hb hby bd1_86_2) (pc' := 161) (Ls' := #[.val (.int p1), .val (.ref a2), .val (.int (1 : Int32)), .val (.int (98 : Int32)), .val (.int (3 : Int32))]) (st' := [(.int (3 : Int32))]) rfl ?_
      exact retI X6 hx Bd.returns (hb hby d1_161) hr
    · show Q1_1 Z p1 a2 u w1 cl1 k_a2 h0 n0 _ T6.heap _
      rw [e6]
      have lf9 : Arv Z h6 a2 k_a2 .byte (10 : Int32) [(.int (f1_1_a2_0 p1 u)), (.int (f1_1_a2_1 p1 u)), (.int (f1_1_a2_2 p1 u)), (.int (f1_1_a2_3 p1 u)), (.int (f1_1_a2_4 p1 u)), (.int (f1_1_a2_5 p1 u)), (.int (f1_1_a2_6 p1 u)), (.int (f1_1_a2_7 p1 u)), (.int (f1_1_a2_8 p1 u)), (.int (f1_1_a2_9 p1 u))] (.int (0 : Int32)) := by simp only [f1_1_a2_0, f1_1_a2_1, f1_1_a2_2, f1_1_a2_3, f1_1_a2_4, f1_1_a2_5, f1_1_a2_6, f1_1_a2_7, f1_1_a2_8, f1_1_a2_9, if_pos hc5]; exact V6
      exact ⟨by rw [f1_1, if_pos hc5], N6, kp8, lf9⟩
  · by_cases hc10 : p1 = (9 : Int32)
    · obtain ⟨cx11, Ar11, qq11, S11, N11_, H11, G11⟩ := id V1
      have hin11 : ¬ ((2 : Int32) < 0 ∨ cx11.slots.size ≤ ((2 : Int32)).toNatClampNeg) := inb_of S11 ⟨by decide, by decide⟩
      obtain ⟨T11, h11, X11, e11, W11, st11⟩ := stB X1 hx hZ e1 Ar11 (j := (2 : Int32)) hin11 (g := (mkF m 80 #[.val (.int p1), .val (.ref a2), .val (.int (1 : Int32)), .val (.int (116 : Int32)), .unset] [(.int (116 : Int32)), (.int (2 : Int32)), (.ref a2)])) rfl rfl (hb hby d1_80)
      have V11 : Arv Z h11 a2 k_a2 .byte (10 : Int32) [(.int u), (.int (nar .byte (92 : Int32))), (.int (nar .byte (116 : Int32))), (.int u), (.int u), (.int u), (.int u), (.int u), (.int u), (.int u)] (.int (0 : Int32)) := Arv.set Ar11 qq11 S11 N11_ H11 G11 (fits_nar_byte _) W11 2 rfl (Nat.le_of_ble_eq_true rfl)
      have zs12 : n0 ≤ h11.size := Nat.le_trans zs2 (Keep.of_wr W11).1
      have kp13 : Keep h0 h11 [a2] := kp3.wr W11 (Or.inl (List.mem_of_getElem? (i := 0) rfl))
      have N11 := Fr.snoc X11 N1 g_a2
      obtain ⟨fs, hr, hrun, hended, hW, hsame⟩ := X11.leave (v := some (.int (3 : Int32))) (fun h => by rw [Bd.returns] at h; cases h)
      refine ⟨_, _, pre4 _ ?_, hrun, hended, _, _, rfl, ?_, ⟨_, rfl⟩, hW, hsame.mono (by decide) (by decide)⟩
      · show Steps p.tables e below (T1.setTop (mkF m 6 #[.val (.int p1), .val (.ref a2), .val (.int (1 : Int32)), .unset, .unset] [(.int p1)])) _
        refine XS.tswIn X1.here hx rfl (pc0 := 6) (pc' := 49) (o := 43) rfl (hb hby d1_6) rfl (by rw [hc10]; decide) (by rw [hc10]; rfl) (by decide) (by decide) ?_
        show Steps p.tables e below (T1.setTop (mkF m 49 #[.val (.int p1), .val (.ref a2), .val (.int (1 : Int32)), .unset, .unset] [])) _
        refine own_blk X1 hx bl1_49_3 (own_hb hby bd1_49_3) (pc' := 71) (Ls' := #[.val (.int p1), .val (.ref a2), .val (.int (1 : Int32)), .val (.int (116 : Int32)), .unset]) (st' := []) rfl ?_
        refine own_blk X1 hx bl1_71_1 (own_hb hby bd1_71_1) (pc' := 72) (Ls' := #[.val (.int p1), .val (.ref a2), .val (.int (1 : Int32)), .val (.int (116 : Int32)), .unset]) (st' := [(.int (116 : Int32))]) rfl ?_
        refine XS.ifNo X1.here hx rfl (hb hby d1_72) rfl ((if0 _ _).trans (feq (by decide : ¬ ((116 : Int32) = (0 : Int32)))).1) ?_
        show Steps p.tables e below (T1.setTop (mkF m 75 #[.val (.int p1), .val (.ref a2), .val (.int (1 : Int32)), .val (.int (116 : Int32)), .unset] [])) _
        refine own_blk X1 hx bl1_75_5 (own_hb hby bd1_75_5) (pc' := 80) (Ls' := #[.val (.int p1), .val (.ref a2), .val (.int (1 : Int32)), .val (.int (116 : Int32)), .unset]) (st' := [(.int (116 : Int32)), (.int (2 : Int32)), (.ref a2)]) rfl ?_
        refine st11 _ ?_
        show Steps p.tables e below (T11.setTop (mkF m 81 #[.val (.int p1), .val (.ref a2), .val (.int (1 : Int32)), .val (.int (116 : Int32)), .unset] [])) _
        refine own_blk X11 hx bl1_81_4 (own_hb hby bd1_81_4) (pc' := 86) (Ls' := #[.val (.int p1), .val (.ref a2), .val (.int (1 : Int32)), .val (.int (116 : Int32)), .val (.int (3 : Int32))]) (st' := []) rfl ?_
        refine own_blk X11 hx bl1_86_2 (own_hb hby bd1_86_2) (pc' := 161) (Ls' := #[.val (.int p1), .val (.ref a2), .val (.int (1 : Int32)), .val (.int (116 : Int32)), .val (.int (3 : Int32))]) (st' := [(.int (3 : Int32))]) rfl ?_
        exact retI X11 hx Bd.returns (hb hby d1_161) hr
      · show Q1_1 Z p1 a2 u w1 cl1 k_a2 h0 n0 _ T11.heap _
        rw [e11]
        have lf14 : Arv Z h11 a2 k_a2 .byte (10 : Int32) [(.int (f1_1_a2_0 p1 u)), (.int (f1_1_a2_1 p1 u)), (.int (f1_1_a2_2 p1 u)), (.int (f1_1_a2_3 p1 u)), (.int (f1_1_a2_4 p1 u)), (.int (f1_1_a2_5 p1 u)), (.int (f1_1_a2_6 p1 u)), (.int (f1_1_a2_7 p1 u)), (.int (f1_1_a2_8 p1 u)), (.int (f1_1_a2_9 p1 u))] (.int (0 : Int32)) := by simp only [f1_1_a2_0, f1_1_a2_1, f1_1_a2_2, f1_1_a2_3, f1_1_a2_4, f1_1_a2_5, f1_1_a2_6, f1_1_a2_7, f1_1_a2_8, f1_1_a2_9, if_neg hc5, if_pos hc10]; exact V11
        exact ⟨by rw [f1_1, if_neg hc5, if_pos hc10], N11, kp13, lf14⟩
    · by_cases hc15 : p1 = (10 : Int32)
      · obtain ⟨cx16, Ar16, qq16, S16, N16_, H16, G16⟩ := id V1
        have hin16 : ¬ ((2 : Int32) < 0 ∨ cx16.slots.size ≤ ((2 : Int32)).toNatClampNeg) := inb_of S16 ⟨by decide, by decide⟩
        obtain ⟨T16, h16, X16, e16, W16, st16⟩ := stB X1 hx hZ e1 Ar16 (j := (2 : Int32)) hin16 (g := (mkF m 80 #[.val (.int p1), .val (.ref a2), .val (.int (1 : Int32)), .val (.int (110 : Int32)), .unset] [(.int (110 : Int32)), (.int (2 : Int32)), (.ref a2)])) rfl rfl (hb hby d1_80)
        have V16 : Arv Z h16 a2 k_a2 .byte (10 : Int32) [(.int u), (.int (nar .byte (92 : Int32))), (.int (nar .byte (110 : Int32))), (.int u), (.int u), (.int u), (.int u), (.int u), (.int u), (.int u)] (.int (0 : Int32)) := Arv.set Ar16 qq16 S16 N16_ H16 G16 (fits_nar_byte _) W16 2 rfl (Nat.le_of_ble_eq_true rfl)
        have zs17 : n0 ≤ h16.size := Nat.le_trans zs2 (Keep.of_wr W16).1
        have kp18 : Keep h0 h16 [a2] := kp3.wr W16 (Or.inl (List.mem_of_getElem? (i := 0) rfl))
        have N16 := Fr.snoc X16 N1 g_a2
        obtain ⟨fs, hr, hrun, hended, hW, hsame⟩ := X16.leave (v := some (.int (3 : Int32))) (fun h => by rw [Bd.returns] at h; cases h)
        refine ⟨_, _, pre4 _ ?_, hrun, hended, _, _, rfl, ?_, ⟨_, rfl⟩, hW, hsame.mono (by decide) (by decide)⟩
        · show Steps p.tables e below (T1.setTop (mkF m 6 #[.val (.int p1), .val (.ref a2), .val (.int (1 : Int32)), .unset, .unset] [(.int p1)])) _
          refine XS.tswIn X1.here hx rfl (pc0 := 6) (pc' := 54) (o := 48) rfl (hb hby d1_6) rfl (by rw [hc15]; decide) (by rw [hc15]; rfl) (by decide) (by decide) ?_
          show Steps p.tables e below (T1.setTop (mkF m 54 #[.val (.int p1), .val (.ref a2), .val (.int (1 : Int32)), .unset, .unset] [])) _
          refine own_blk X1 hx bl1_54_3 (own_hb hby bd1_54_3) (pc' := 71) (Ls' := #[.val (.int p1), .val (.ref a2), .val (.int (1 : Int32)), .val (.int (110 : Int32)), .unset]) (st' := []) rfl ?_
          refine own_blk X1 hx bl1_71_1 (own_hb hby bd1_71_1) (pc' := 72) (Ls' := #[.val (.int p1), .val (.ref a2), .val (.int (1 : Int32)), .val (.int (110 : Int32)), .unset]) (st' := [(.int (110 : Int32))]) rfl ?_
          refine XS.ifNo X1.here hx rfl (hb hby d1_72) rfl ((if0 _ _).trans (feq (by decide : ¬ ((110 : Int32) = (0 : Int32)))).1) ?_
          show Steps p.tables e below (T1.setTop (mkF m 75 #[.val (.int p1), .val (.ref a2), .val (.int (1 : Int32)), .val (.int (110 : Int32)), .unset] [])) _
          refine own_blk X1 hx bl1_75_5 (own_hb hby bd1_75_5) (pc' := 80) (Ls' := #[.val (.int p1), .val (.ref a2), .val (.int (1 : Int32)), .val (.int (110 : Int32)), .unset]) (st' := [(.int (110 : Int32)), (.int (2 : Int32)), (.ref a2)]) rfl ?_
          refine st16 _ ?_
          show Steps p.tables e below (T16.setTop (mkF m 81 #[.val (.int p1), .val (.ref a2), .val (.int (1 : Int32)), .val (.int (110 : Int32)), .unset] [])) _
          refine own_blk X16 hx bl1_81_4 (own_hb hby bd1_81_4) (pc' := 86) (Ls' := #[.val (.int p1), .val (.ref a2), .val (.int (1 : Int32)), .val (.int (110 : Int32)), .val (.int (3 : Int32))]) (st' := []) rfl ?_
          refine own_blk X16 hx bl1_86_2 (own_hb hby bd1_86_2) (pc' := 161) (Ls' := #[.val (.int p1), .val (.ref a2), .val (.int (1 : Int32)), .val (.int (110 : Int32)), .val (.int (3 : Int32))]) (st' := [(.int (3 : Int32))]) rfl ?_
          exact retI X16 hx Bd.returns (hb hby d1_161) hr
        · show Q1_1 Z p1 a2 u w1 cl1 k_a2 h0 n0 _ T16.heap _
          rw [e16]
          have lf19 : Arv Z h16 a2 k_a2 .byte (10 : Int32) [(.int (f1_1_a2_0 p1 u)), (.int (f1_1_a2_1 p1 u)), (.int (f1_1_a2_2 p1 u)), (.int (f1_1_a2_3 p1 u)), (.int (f1_1_a2_4 p1 u)), (.int (f1_1_a2_5 p1 u)), (.int (f1_1_a2_6 p1 u)), (.int (f1_1_a2_7 p1 u)), (.int (f1_1_a2_8 p1 u)), (.int (f1_1_a2_9 p1 u))] (.int (0 : Int32)) := by simp only [f1_1_a2_0, f1_1_a2_1, f1_1_a2_2, f1_1_a2_3, f1_1_a2_4, f1_1_a2_5, f1_1_a2_6, f1_1_a2_7, f1_1_a2_8, f1_1_a2_9, if_neg hc5, if_neg hc10, if_pos hc15]; exact V16
          exact ⟨by rw [f1_1, if_neg hc5, if_neg hc10, if_pos hc15], N16, kp18, lf19⟩
      · by_cases hc20 : p1 = (11 : Int32)
        · obtain ⟨cx21, Ar21, qq21, S21, N21_, H21, G21⟩ := id V1
          have hin21 : ¬ ((2 : Int32) < 0 ∨ cx21.slots.size ≤ ((2 : Int32)).toNatClampNeg) := inb_of S21 ⟨by decide, by decide⟩
          obtain ⟨T21, h21, X21, e21, W21, st21⟩ := stB X1 hx hZ e1 Ar21 (j := (2 : Int32)) hin21 (g := (mkF m 95 #[.val (.int p1), .val (.ref a2), .val (.int (1 : Int32)), .val (.int (0 : Int32)), .unset] [(.int (117 : Int32)), (.int (2 : Int32)), (.ref a2)])) rfl rfl (hb hby d1_95)
          have V21 : Arv Z h21 a2 k_a2 .byte (10 : Int32) [(.int u), (.int (nar .byte (92 : Int32))), (.int (nar .byte (117 : Int32))), (.int u), (.int u), (.int u), (.int u), (.int u), (.int u), (.int u)] (.int (0 : Int32)) := Arv.set Ar21 qq21 S21 N21_ H21 G21 (fits_nar_byte _) W21 2 rfl (Nat.le_of_ble_eq_true rfl)
          have zs22 : n0 ≤ h21.size := Nat.le_trans zs2 (Keep.of_wr W21).1
          have kp23 : Keep h0 h21 [a2] := kp3.wr W21 (Or.inl (List.mem_of_getElem? (i := 0) rfl))
          have N21 := Fr.snoc X21 N1 g_a2
          have fa24 : Sta Z h21 "com/example/endcon/endcon/rules/LineText" "HEX_DIGITS" "[B" (.ref w1) := ((S_HEX_DIGITS.wr W1).wr W21)
          obtain ⟨T25, X25, e25, st25⟩ := getS2 X21 hx hZ hown (host := "") (Or.inl (hw _ (List.mem_of_getElem? (i := 6) rfl))) Via.refl e21 fa24 (g := (mkF m 100 #[.val (.int p1), .val (.ref a2), .val (.int (1 : Int32)), .val (.int (0 : Int32)), .unset] [(.int (3 : Int32)), (.ref a2)])) rfl (hb hby d1_100)
          have fa27 : Arr Z h21 w1 cl1 .byte := ((Ar_w1.other W1 ne_w1_a2).other W21 ne_w1_a2)
          have hin26 : ¬ ((p1 >>> ((12 : Int32) &&& 31)) < 0 ∨ cl1.slots.size ≤ ((p1 >>> ((12 : Int32) &&& 31))).toNatClampNeg) := inb_of sz1 (own_sh12 p1 hp hp2)
          have hat26 := hv _ (own_sh12 p1 hp hp2).1 (own_sh12 p1 hp hp2).2
          obtain ⟨cx28, Ar28, qq28, S28, N28_, H28, G28⟩ := id V21
          have hin28 : ¬ ((3 : Int32) < 0 ∨ cx28.slots.size ≤ ((3 : Int32)).toNatClampNeg) := inb_of S28 ⟨by decide, by decide⟩
          obtain ⟨T28, h28, X28, e28, W28, st28⟩ := stB X25 hx hZ e25 Ar28 (j := (3 : Int32)) hin28 (g := (mkF m 108 #[.val (.int p1), .val (.ref a2), .val (.int (1 : Int32)), .val (.int (0 : Int32)), .unset] [(.int (own_tab (p1 >>> ((12 : Int32) &&& 31)))), (.int (3 : Int32)), (.ref a2)])) rfl rfl (hb hby d1_108)
          have V28 : Arv Z h28 a2 k_a2 .byte (10 : Int32) [(.int u), (.int (nar .byte (92 : Int32))), (.int (nar .byte (117 : Int32))), (.int (nar .byte (own_tab (p1 >>> ((12 : Int32) &&& 31))))), (.int u), (.int u), (.int u), (.int u), (.int u), (.int u)] (.int (0 : Int32)) := Arv.set Ar28 qq28 S28 N28_ H28 G28 (fits_nar_byte _) W28 3 rfl (Nat.le_of_ble_eq_true rfl)
          have zs29 : n0 ≤ h28.size := Nat.le_trans zs22 (Keep.of_wr W28).1
          have kp30 : Keep h0 h28 [a2] := kp23.wr W28 (Or.inl (List.mem_of_getElem? (i := 0) rfl))
          have N28 := Fr.snoc X28 N21 g_a2
          have fa31 : Sta Z h28 "com/example/endcon/endcon/rules/LineText" "HEX_DIGITS" "[B" (.ref w1) := (fa24.wr W28)
          obtain ⟨T32, X32, e32, st32⟩ := getS2 X28 hx hZ hown (host := "") (Or.inl (hw _ (List.mem_of_getElem? (i := 6) rfl))) Via.refl e28 fa31 (g := (mkF m 113 #[.val (.int p1), .val (.ref a2), .val (.int (1 : Int32)), .val (.int (0 : Int32)), .unset] [(.int (4 : Int32)), (.ref a2)])) rfl (hb hby d1_113)
          have fa34 : Arr Z h28 w1 cl1 .byte := (fa27.other W28 ne_w1_a2)
          have hin33 : ¬ (((p1 >>> ((8 : Int32) &&& 31)) &&& (15 : Int32)) < 0 ∨ cl1.slots.size ≤ (((p1 >>> ((8 : Int32) &&& 31)) &&& (15 : Int32))).toNatClampNeg) := inb_of sz1 (own_m15 (p1 >>> ((8 : Int32) &&& 31)))
          have hat33 := hv _ (own_m15 (p1 >>> ((8 : Int32) &&& 31))).1 (own_m15 (p1 >>> ((8 : Int32) &&& 31))).2
          obtain ⟨cx35, Ar35, qq35, S35, N35_, H35, G35⟩ := id V28
          have hin35 : ¬ ((4 : Int32) < 0 ∨ cx35.slots.size ≤ ((4 : Int32)).toNatClampNeg) := inb_of S35 ⟨by decide, by decide⟩
          obtain ⟨T35, h35, X35, e35, W35, st35⟩ := stB X32 hx hZ e32 Ar35 (j := (4 : Int32)) hin35 (g := (mkF m 124 #[.val (.int p1), .val (.ref a2), .val (.int (1 : Int32)), .val (.int (0 : Int32)), .unset] [(.int (own_tab ((p1 >>> ((8 : Int32) &&& 31)) &&& (15 : Int32)))), (.int (4 : Int32)), (.ref a2)])) rfl rfl (hb hby d1_124)
          have V35 : Arv Z h35 a2 k_a2 .byte (10 : Int32) [(.int u), (.int (nar .byte (92 : Int32))), (.int (nar .byte (117 : Int32))), (.int (nar .byte (own_tab (p1 >>> ((12 : Int32) &&& 31))))), (.int (nar .byte (own_tab ((p1 >>> ((8 : Int32) &&& 31)) &&& (15 : Int32))))), (.int u), (.int u), (.int u), (.int u), (.int u)] (.int (0 : Int32)) := Arv.set Ar35 qq35 S35 N35_ H35 G35 (fits_nar_byte _) W35 4 rfl (Nat.le_of_ble_eq_true rfl)
          have zs36 : n0 ≤ h35.size := Nat.le_trans zs29 (Keep.of_wr W35).1
          have kp37 : Keep h0 h35 [a2] := kp30.wr W35 (Or.inl (List.mem_of_getElem? (i := 0) rfl))
          have N35 := Fr.snoc X35 N28 g_a2
          have fa38 : Sta Z h35 "com/example/endcon/endcon/rules/LineText" "HEX_DIGITS" "[B" (.ref w1) := (fa31.wr W35)
          obtain ⟨T39, X39, e39, st39⟩ := getS2 X35 hx hZ hown (host := "") (Or.inl (hw _ (List.mem_of_getElem? (i := 6) rfl))) Via.refl e35 fa38 (g := (mkF m 129 #[.val (.int p1), .val (.ref a2), .val (.int (1 : Int32)), .val (.int (0 : Int32)), .unset] [(.int (5 : Int32)), (.ref a2)])) rfl (hb hby d1_129)
          have fa41 : Arr Z h35 w1 cl1 .byte := (fa34.other W35 ne_w1_a2)
          have hin40 : ¬ (((p1 >>> ((4 : Int32) &&& 31)) &&& (15 : Int32)) < 0 ∨ cl1.slots.size ≤ (((p1 >>> ((4 : Int32) &&& 31)) &&& (15 : Int32))).toNatClampNeg) := inb_of sz1 (own_m15 (p1 >>> ((4 : Int32) &&& 31)))
          have hat40 := hv _ (own_m15 (p1 >>> ((4 : Int32) &&& 31))).1 (own_m15 (p1 >>> ((4 : Int32) &&& 31))).2
          obtain ⟨cx42, Ar42, qq42, S42, N42_, H42, G42⟩ := id V35
          have hin42 : ¬ ((5 : Int32) < 0 ∨ cx42.slots.size ≤ ((5 : Int32)).toNatClampNeg) := inb_of S42 ⟨by decide, by decide⟩
          obtain ⟨T42, h42, X42, e42, W42, st42⟩ := stB X39 hx hZ e39 Ar42 (j := (5 : Int32)) hin42 (g := (mkF m 139 #[.val (.int p1), .val (.ref a2), .val (.int (1 : Int32)), .val (.int (0 : Int32)), .unset] [(.int (own_tab ((p1 >>> ((4 : Int32) &&& 31)) &&& (15 : Int32)))), (.int (5 : Int32)), (.ref a2)])) rfl rfl (hb hby d1_139)
          have V42 : Arv Z h42 a2 k_a2 .byte (10 : Int32) [(.int u), (.int (nar .byte (92 : Int32))), (.int (nar .byte (117 : Int32))), (.int (nar .byte (own_tab (p1 >>> ((12 : Int32) &&& 31))))), (.int (nar .byte (own_tab ((p1 >>> ((8 : Int32) &&& 31)) &&& (15 : Int32))))), (.int (nar .byte (own_tab ((p1 >>> ((4 : Int32) &&& 31)) &&& (15 : Int32))))), (.int u), (.int u), (.int u), (.int u)] (.int (0 : Int32)) := Arv.set Ar42 qq42 S42 N42_ H42 G42 (fits_nar_byte _) W42 5 rfl (Nat.le_of_ble_eq_true rfl)
          have zs43 : n0 ≤ h42.size := Nat.le_trans zs36 (Keep.of_wr W42).1
          have kp44 : Keep h0 h42 [a2] := kp37.wr W42 (Or.inl (List.mem_of_getElem? (i := 0) rfl))
          have N42 := Fr.snoc X42 N35 g_a2
          have fa45 : Sta Z h42 "com/example/endcon/endcon/rules/LineText" "HEX_DIGITS" "[B" (.ref w1) := (fa38.wr W42)
          obtain ⟨T46, X46, e46, st46⟩ := getS2 X42 hx hZ hown (host := "") (Or.inl (hw _ (List.mem_of_getElem? (i := 6) rfl))) Via.refl e42 fa45 (g := (mkF m 144 #[.val (.int p1), .val (.ref a2), .val (.int (1 : Int32)), .val (.int (0 : Int32)), .unset] [(.int (6 : Int32)), (.ref a2)])) rfl (hb hby d1_144)
          have fa48 : Arr Z h42 w1 cl1 .byte := (fa41.other W42 ne_w1_a2)
          have hin47 : ¬ ((p1 &&& (15 : Int32)) < 0 ∨ cl1.slots.size ≤ ((p1 &&& (15 : Int32))).toNatClampNeg) := inb_of sz1 (own_m15 p1)
          have hat47 := hv _ (own_m15 p1).1 (own_m15 p1).2
          obtain ⟨cx49, Ar49, qq49, S49, N49_, H49, G49⟩ := id V42
          have hin49 : ¬ ((6 : Int32) < 0 ∨ cx49.slots.size ≤ ((6 : Int32)).toNatClampNeg) := inb_of S49 ⟨by decide, by decide⟩
          obtain ⟨T49, h49, X49, e49, W49, st49⟩ := stB X46 hx hZ e46 Ar49 (j := (6 : Int32)) hin49 (g := (mkF m 152 #[.val (.int p1), .val (.ref a2), .val (.int (1 : Int32)), .val (.int (0 : Int32)), .unset] [(.int (own_tab (p1 &&& (15 : Int32)))), (.int (6 : Int32)), (.ref a2)])) rfl rfl (hb hby d1_152)
          have V49 : Arv Z h49 a2 k_a2 .byte (10 : Int32) [(.int u), (.int (nar .byte (92 : Int32))), (.int (nar .byte (117 : Int32))), (.int (nar .byte (own_tab (p1 >>> ((12 : Int32) &&& 31))))), (.int (nar .byte (own_tab ((p1 >>> ((8 : Int32) &&& 31)) &&& (15 : Int32))))), (.int (nar .byte (own_tab ((p1 >>> ((4 : Int32) &&& 31)) &&& (15 : Int32))))), (.int (nar .byte (own_tab (p1 &&& (15 : Int32))))), (.int u), (.int u), (.int u)] (.int (0 : Int32)) := Arv.set Ar49 qq49 S49 N49_ H49 G49 (fits_nar_byte _) W49 6 rfl (Nat.le_of_ble_eq_true rfl)
          have zs50 : n0 ≤ h49.size := Nat.le_trans zs43 (Keep.of_wr W49).1
          have kp51 : Keep h0 h49 [a2] := kp44.wr W49 (Or.inl (List.mem_of_getElem? (i := 0) rfl))
          have N49 := Fr.snoc X49 N42 g_a2
          obtain ⟨fs, hr, hrun, hended, hW, hsame⟩ := X49.leave (v := some (.int (7 : Int32))) (fun h => by rw [Bd.returns] at h; cases h)
          refine ⟨_, _, pre4 _ ?_, hrun, hended, _, _, rfl, ?_, ⟨_, rfl⟩, hW, hsame.mono (by decide) (by decide)⟩
          · show Steps p.tables e below (T1.setTop (mkF m 6 #[.val (.int p1), .val (.ref a2), .val (.int (1 : Int32)), .unset, .unset] [(.int p1)])) _
            refine XS.tswIn X1.here hx rfl (pc0 := 6) (pc' := 69) (o := 63) rfl (hb hby d1_6) rfl (by rw [hc20]; decide) (by rw [hc20]; rfl) (by decide) (by decide) ?_
            show Steps p.tables e below (T1.setTop (mkF m 69 #[.val (.int p1), .val (.ref a2), .val (.int (1 : Int32)), .unset, .unset] [])) _
            refine own_blk X1 hx bl1_69_2 (own_hb hby bd1_69_2) (pc' := 71) (Ls' := #[.val (.int p1), .val (.ref a2), .val (.int (1 : Int32)), .val (.int (0 : Int32)), .unset]) (st' := []) rfl ?_
            refine own_blk X1 hx bl1_71_1 (own_hb hby bd1_71_1) (pc' := 72) (Ls' := #[.val (.int p1), .val (.ref a2), .val (.int (1 : Int32)), .val (.int (0 : Int32)), .unset]) (st' := [(.int (0 : Int32))]) rfl ?_
            refine XS.ifYes X1.here hx rfl (pc0 := 72) (pc' := 89) rfl (hb hby d1_72) rfl ((if0 _ _).trans (teq (by decide : (0 : Int32) = (0 : Int32))).1) (by decide) (by decide) ?_
            show Steps p.tables e below (T1.setTop (mkF m 89 #[.val (.int p1), .val (.ref a2), .val (.int (1 : Int32)), .val (.int (0 : Int32)), .unset] [])) _
            refine own_blk X1 hx bl1_89_5 (own_hb hby bd1_89_5) (pc' := 95) (Ls' := #[.val (.int p1), .val (.ref a2), .val (.int (1 : Int32)), .val (.int (0 : Int32)), .unset]) (st' := [(.int (117 : Int32)), (.int (2 : Int32)), (.ref a2)]) rfl ?_
            refine st21 _ ?_
            show Steps p.tables e below (T21.setTop (mkF m 96 #[.val (.int p1), .val (.ref a2), .val (.int (1 : Int32)), .val (.int (0 : Int32)), .unset] [])) _
            refine own_blk X21 hx bl1_96_4 (own_hb hby bd1_96_4) (pc' := 100) (Ls' := #[.val (.int p1), .val (.ref a2), .val (.int (1 : Int32)), .val (.int (0 : Int32)), .unset]) (st' := [(.int (3 : Int32)), (.ref a2)]) rfl ?_
            refine st25 _ ?_
            show Steps p.tables e below (T25.setTop (mkF m 103 #[.val (.int p1), .val (.ref a2), .val (.int (1 : Int32)), .val (.int (0 : Int32)), .unset] [(.ref w1), (.int (3 : Int32)), (.ref a2)])) _
            refine own_blk X25 hx bl1_103_3 (own_hb hby bd1_103_3) (pc' := 107) (Ls' := #[.val (.int p1), .val (.ref a2), .val (.int (1 : Int32)), .val (.int (0 : Int32)), .unset]) (st' := [(.int (p1 >>> ((12 : Int32) &&& 31))), (.ref w1), (.int (3 : Int32)), (.ref a2)]) rfl ?_
            refine X25.baloadBytes hx (j := (p1 >>> ((12 : Int32) &&& 31))) (v := (.int (own_tab (p1 >>> ((12 : Int32) &&& 31))))) (by rw [e25]; exact fa27.1) (State.isArrayOf_alike hZ.alike fa27.2.1) fa27.2.2 hin26 hat26 (g := (mkF m 107 #[.val (.int p1), .val (.ref a2), .val (.int (1 : Int32)), .val (.int (0 : Int32)), .unset] [(.int (p1 >>> ((12 : Int32) &&& 31))), (.ref w1), (.int (3 : Int32)), (.ref a2)])) rfl rfl (hb hby d1_107) _ ?_
            show Steps p.tables e below (T25.setTop (mkF m 108 #[.val (.int p1), .val (.ref a2), .val (.int (1 : Int32)), .val (.int (0 : Int32)), .unset] [(.int (own_tab (p1 >>> ((12 : Int32) &&& 31)))), (.int (3 : Int32)), (.ref a2)])) _
            refine st28 _ ?_
            show Steps p.tables e below (T28.setTop (mkF m 109 #[.val (.int p1), .val (.ref a2), .val (.int (1 : Int32)), .val (.int (0 : Int32)), .unset] [])) _
            refine own_blk X28 hx bl1_109_4 (own_hb hby bd1_109_4) (pc' := 113) (Ls' := #[.val (.int p1), .val (.ref a2), .val (.int (1 : Int32)), .val (.int (0 : Int32)), .unset]) (st' := [(.int (4 : Int32)), (.ref a2)]) rfl ?_
            refine st32 _ ?_
            show Steps p.tables e below (T32.setTop (mkF m 116 #[.val (.int p1), .val (.ref a2), .val (.int (1 : Int32)), .val (.int (0 : Int32)), .unset] [(.ref w1), (.int (4 : Int32)), (.ref a2)])) _
            refine own_blk X32 hx bl1_116_5 (own_hb hby bd1_116_5) (pc' := 123) (Ls' := #[.val (.int p1), .val (.ref a2), .val (.int (1 : Int32)), .val (.int (0 : Int32)), .unset]) (st' := [(.int ((p1 >>> ((8 : Int32) &&& 31)) &&& (15 : Int32))), (.ref w1), (.int (4 : Int32)), (.ref a2)]) rfl ?_
            refine X32.baloadBytes hx (j := ((p1 >>> ((8 : Int32) &&& 31)) &&& (15 : Int32))) (v := (.int (own_tab ((p1 >>> ((8 : Int32) &&& 31)) &&& (15 : Int32))))) (by rw [e32]; exact fa34.1) (State.isArrayOf_alike hZ.alike fa34.2.1) fa34.2.2 hin33 hat33 (g := (mkF m 123 #[.val (.int p1), .val (.ref a2), .val (.int (1 : Int32)), .val (.int (0 : Int32)), .unset] [(.int ((p1 >>> ((8 : Int32) &&& 31)) &&& (15 : Int32))), (.ref w1), (.int (4 : Int32)), (.ref a2)])) rfl rfl (hb hby d1_123) _ ?_
            show Steps p.tables e below (T32.setTop (mkF m 124 #[.val (.int p1), .val (.ref a2), .val (.int (1 : Int32)), .val (.int (0 : Int32)), .unset] [(.int (own_tab ((p1 >>> ((8 : Int32) &&& 31)) &&& (15 : Int32)))), (.int (4 : Int32)), (.ref a2)])) _
            refine st35 _ ?_
            show Steps p.tables e below (T35.setTop (mkF m 125 #[.val (.int p1), .val (.ref a2), .val (.int (1 : Int32)), .val (.int (0 : Int32)), .unset] [])) _
            refine own_blk X35 hx bl1_125_4 (own_hb hby bd1_125_4) (pc' := 129) (Ls' := #[.val (.int p1), .val (.ref a2), .val (.int (1 : Int32)), .val (.int (0 : Int32)), .unset]) (st' := [(.int (5 : Int32)), (.ref a2)]) rfl ?_
            refine st39 _ ?_
            show Steps p.tables e below (T39.setTop (mkF m 132 #[.val (.int p1), .val (.ref a2), .val (.int (1 : Int32)), .val (.int (0 : Int32)), .unset] [(.ref w1), (.int (5 : Int32)), (.ref a2)])) _
            refine own_blk X39 hx bl1_132_5 (own_hb hby bd1_132_5) (pc' := 138) (Ls' := #[.val (.int p1), .val (.ref a2), .val (.int (1 : Int32)), .val (.int (0 : Int32)), .unset]) (st' := [(.int ((p1 >>> ((4 : Int32) &&& 31)) &&& (15 : Int32))), (.ref w1), (.int (5 : Int32)), (.ref a2)]) rfl ?_
            refine X39.baloadBytes hx (j := ((p1 >>> ((4 : Int32) &&& 31)) &&& (15 : Int32))) (v := (.int (own_tab ((p1 >>> ((4 : Int32) &&& 31)) &&& (15 : Int32))))) (by rw [e39]; exact fa41.1) (State.isArrayOf_alike hZ.alike fa41.2.1) fa41.2.2 hin40 hat40 (g := (mkF m 138 #[.val (.int p1), .val (.ref a2), .val (.int (1 : Int32)), .val (.int (0 : Int32)), .unset] [(.int ((p1 >>> ((4 : Int32) &&& 31)) &&& (15 : Int32))), (.ref w1), (.int (5 : Int32)), (.ref a2)])) rfl rfl (hb hby d1_138) _ ?_
            show Steps p.tables e below (T39.setTop (mkF m 139 #[.val (.int p1), .val (.ref a2), .val (.int (1 : Int32)), .val (.int (0 : Int32)), .unset] [(.int (own_tab ((p1 >>> ((4 : Int32) &&& 31)) &&& (15 : Int32)))), (.int (5 : Int32)), (.ref a2)])) _
            refine st42 _ ?_
            show Steps p.tables e below (T42.setTop (mkF m 140 #[.val (.int p1), .val (.ref a2), .val (.int (1 : Int32)), .val (.int (0 : Int32)), .unset] [])) _
            refine own_blk X42 hx bl1_140_4 (own_hb hby bd1_140_4) (pc' := 144) (Ls' := #[.val (.int p1), .val (.ref a2), .val (.int (1 : Int32)), .val (.int (0 : Int32)), .unset]) (st' := [(.int (6 : Int32)), (.ref a2)]) rfl ?_
            refine st46 _ ?_
            show Steps p.tables e below (T46.setTop (mkF m 147 #[.val (.int p1), .val (.ref a2), .val (.int (1 : Int32)), .val (.int (0 : Int32)), .unset] [(.ref w1), (.int (6 : Int32)), (.ref a2)])) _
            refine own_blk X46 hx bl1_147_3 (own_hb hby bd1_147_3) (pc' := 151) (Ls' := #[.val (.int p1), .val (.ref a2), .val (.int (1 : Int32)), .val (.int (0 : Int32)), .unset]) (st' := [(.int (p1 &&& (15 : Int32))), (.ref w1), (.int (6 : Int32)), (.ref a2)]) rfl ?_
            refine X46.baloadBytes hx (j := (p1 &&& (15 : Int32))) (v := (.int (own_tab (p1 &&& (15 : Int32))))) (by rw [e46]; exact fa48.1) (State.isArrayOf_alike hZ.alike fa48.2.1) fa48.2.2 hin47 hat47 (g := (mkF m 151 #[.val (.int p1), .val (.ref a2), .val (.int (1 : Int32)), .val (.int (0 : Int32)), .unset] [(.int (p1 &&& (15 : Int32))), (.ref w1), (.int (6 : Int32)), (.ref a2)])) rfl rfl (hb hby d1_151) _ ?_
            show Steps p.tables e below (T46.setTop (mkF m 152 #[.val (.int p1), .val (.ref a2), .val (.int (1 : Int32)), .val (.int (0 : Int32)), .unset] [(.int (own_tab (p1 &&& (15 : Int32)))), (.int (6 : Int32)), (.ref a2)])) _
            refine st49 _ ?_
            show Steps p.tables e below (T49.setTop (mkF m 153 #[.val (.int p1), .val (.ref a2), .val (.int (1 : Int32)), .val (.int (0 : Int32)), .unset] [])) _
            refine own_blk X49 hx bl1_153_4 (own_hb hby bd1_153_4) (pc' := 159) (Ls' := #[.val (.int p1), .val (.ref a2), .val (.int (1 : Int32)), .val (.int (0 : Int32)), .val (.int (7 : Int32))]) (st' := []) rfl ?_
            refine own_blk X49 hx bl1_159_1 (own_hb hby bd1_159_1) (pc' := 161) (Ls' := #[.val (.int p1), .val (.ref a2), .val (.int (1 : Int32)), .val (.int (0 : Int32)), .val (.int (7 : Int32))]) (st' := [(.int (7 : Int32))]) rfl ?_
            exact retI X49 hx Bd.returns (hb hby d1_161) hr
          · show Q1_1 Z p1 a2 u w1 cl1 k_a2 h0 n0 _ T49.heap _
            rw [e49]
            have lf52 : Arv Z h49 a2 k_a2 .byte (10 : Int32) [(.int (f1_1_a2_0 p1 u)), (.int (f1_1_a2_1 p1 u)), (.int (f1_1_a2_2 p1 u)), (.int (f1_1_a2_3 p1 u)), (.int (f1_1_a2_4 p1 u)), (.int (f1_1_a2_5 p1 u)), (.int (f1_1_a2_6 p1 u)), (.int (f1_1_a2_7 p1 u)), (.int (f1_1_a2_8 p1 u)), (.int (f1_1_a2_9 p1 u))] (.int (0 : Int32)) := by simp only [f1_1_a2_0, f1_1_a2_1, f1_1_a2_2, f1_1_a2_3, f1_1_a2_4, f1_1_a2_5, f1_1_a2_6, f1_1_a2_7, f1_1_a2_8, f1_1_a2_9, if_neg hc5, if_neg hc10, if_neg hc15, if_pos hc20]; exact V49
            exact ⟨by rw [f1_1, if_neg hc5, if_neg hc10, if_neg hc15, if_pos hc20], N49, kp51, lf52⟩
        · by_cases hc53 : p1 = (12 : Int32)
          · obtain ⟨cx54, Ar54, qq54, S54, N54_, H54, G54⟩ := id V1
            have hin54 : ¬ ((2 : Int32) < 0 ∨ cx54.slots.size ≤ ((2 : Int32)).toNatClampNeg) := inb_of S54 ⟨by decide, by decide⟩
            obtain ⟨T54, h54, X54, e54, W54, st54⟩ := stB X1 hx hZ e1 Ar54 (j := (2 : Int32)) hin54 (g := (mkF m 80 #[.val (.int p1), .val (.ref a2), .val (.int (1 : Int32)), .val (.int (102 : Int32)), .unset] [(.int (102 : Int32)), (.int (2 : Int32)), (.ref a2)])) rfl rfl (hb hby d1_80)
            have V54 : Arv Z h54 a2 k_a2 .byte (10 : Int32) [(.int u), (.int (nar .byte (92 : Int32))), (.int (nar .byte (102 : Int32))), (.int u), (.int u), (.int u), (.int u), (.int u), (.int u), (.int u)] (.int (0 : Int32)) := Arv.set Ar54 qq54 S54 N54_ H54 G54 (fits_nar_byte _) W54 2 rfl (Nat.le_of_ble_eq_true rfl)
            have zs55 : n0 ≤ h54.size := Nat.le_trans zs2 (Keep.of_wr W54).1
            have kp56 : Keep h0 h54 [a2] := kp3.wr W54 (Or.inl (List.mem_of_getElem? (i := 0) rfl))
            have N54 := Fr.snoc X54 N1 g_a2
            obtain ⟨fs, hr, hrun, hended, hW, hsame⟩ := X54.leave (v := some (.int (3 : Int32))) (fun h => by rw [Bd.returns] at h; cases h)
            refine ⟨_, _, pre4 _ ?_, hrun, hended, _, _, rfl, ?_, ⟨_, rfl⟩, hW, hsame.mono (by decide) (by decide)⟩
            · show Steps p.tables e below (T1.setTop (mkF m 6 #[.val (.int p1), .val (.ref a2), .val (.int (1 : Int32)), .unset, .unset] [(.int p1)])) _
              refine XS.tswIn X1.here hx rfl (pc0 := 6) (pc' := 59) (o := 53) rfl (hb hby d1_6) rfl (by rw [hc53]; decide) (by rw [hc53]; rfl) (by decide) (by decide) ?_
              show Steps p.tables e below (T1.setTop (mkF m 59 #[.val (.int p1), .val (.ref a2), .val (.int (1 : Int32)), .unset, .unset] [])) _
              refine own_blk X1 hx bl1_59_3 (own_hb hby bd1_59_3) (pc' := 71) (Ls' := #[.val (.int p1), .val (.ref a2), .val (.int (1 : Int32)), .val (.int (102 : Int32)), .unset]) (st' := []) rfl ?_
              refine own_blk X1 hx bl1_71_1 (own_hb hby bd1_71_1) (pc' := 72) (Ls' := #[.val (.int p1), .val (.ref a2), .val (.int (1 : Int32)), .val (.int (102 : Int32)), .unset]) (st' := [(.int (102 : Int32))]) rfl ?_
              refine XS.ifNo X1.here hx rfl (hb hby d1_72) rfl ((if0 _ _).trans (feq (by decide : ¬ ((102 : Int32) = (0 : Int32)))).1) ?_
              show Steps p.tables e below (T1.setTop (mkF m 75 #[.val (.int p1), .val (.ref a2), .val (.int (1 : Int32)), .val (.int (102 : Int32)), .unset] [])) _
              refine own_blk X1 hx bl1_75_5 (own_hb hby bd1_75_5) (pc' := 80) (Ls' := #[.val (.int p1), .val (.ref a2), .val (.int (1 : Int32)), .val (.int (102 : Int32)), .unset]) (st' := [(.int (102 : Int32)), (.int (2 : Int32)), (.ref a2)]) rfl ?_
              refine st54 _ ?_
              show Steps p.tables e below (T54.setTop (mkF m 81 #[.val (.int p1), .val (.ref a2), .val (.int (1 : Int32)), .val (.int (102 : Int32)), .unset] [])) _
              refine own_blk X54 hx bl1_81_4 (own_hb hby bd1_81_4) (pc' := 86) (Ls' := #[.val (.int p1), .val (.ref a2), .val (.int (1 : Int32)), .val (.int (102 : Int32)), .val (.int (3 : Int32))]) (st' := []) rfl ?_
              refine own_blk X54 hx bl1_86_2 (own_hb hby bd1_86_2) (pc' := 161) (Ls' := #[.val (.int p1), .val (.ref a2), .val (.int (1 : Int32)), .val (.int (102 : Int32)), .val (.int (3 : Int32))]) (st' := [(.int (3 : Int32))]) rfl ?_
              exact retI X54 hx Bd.returns (hb hby d1_161) hr
            · show Q1_1 Z p1 a2 u w1 cl1 k_a2 h0 n0 _ T54.heap _
              rw [e54]
              have lf57 : Arv Z h54 a2 k_a2 .byte (10 : Int32) [(.int (f1_1_a2_0 p1 u)), (.int (f1_1_a2_1 p1 u)), (.int (f1_1_a2_2 p1 u)), (.int (f1_1_a2_3 p1 u)), (.int (f1_1_a2_4 p1 u)), (.int (f1_1_a2_5 p1 u)), (.int (f1_1_a2_6 p1 u)), (.int (f1_1_a2_7 p1 u)), (.int (f1_1_a2_8 p1 u)), (.int (f1_1_a2_9 p1 u))] (.int (0 : Int32)) := by simp only [f1_1_a2_0, f1_1_a2_1, f1_1_a2_2, f1_1_a2_3, f1_1_a2_4, f1_1_a2_5, f1_1_a2_6, f1_1_a2_7, f1_1_a2_8, f1_1_a2_9, if_neg hc5, if_neg hc10, if_neg hc15, if_neg hc20, if_pos hc53]; exact V54
              exact ⟨by rw [f1_1, if_neg hc5, if_neg hc10, if_neg hc15, if_neg hc20, if_pos hc53], N54, kp56, lf57⟩
          · by_cases hc58 : p1 = (13 : Int32)
            · obtain ⟨cx59, Ar59, qq59, S59, N59_, H59, G59⟩ := id V1
              have hin59 : ¬ ((2 : Int32) < 0 ∨ cx59.slots.size ≤ ((2 : Int32)).toNatClampNeg) := inb_of S59 ⟨by decide, by decide⟩
              obtain ⟨T59, h59, X59, e59, W59, st59⟩ := stB X1 hx hZ e1 Ar59 (j := (2 : Int32)) hin59 (g := (mkF m 80 #[.val (.int p1), .val (.ref a2), .val (.int (1 : Int32)), .val (.int (114 : Int32)), .unset] [(.int (114 : Int32)), (.int (2 : Int32)), (.ref a2)])) rfl rfl (hb hby d1_80)
              have V59 : Arv Z h59 a2 k_a2 .byte (10 : Int32) [(.int u), (.int (nar .byte (92 : Int32))), (.int (nar .byte (114 : Int32))), (.int u), (.int u), (.int u), (.int u), (.int u), (.int u), (.int u)] (.int (0 : Int32)) := Arv.set Ar59 qq59 S59 N59_ H59 G59 (fits_nar_byte _) W59 2 rfl (Nat.le_of_ble_eq_true rfl)
              have zs60 : n0 ≤ h59.size := Nat.le_trans zs2 (Keep.of_wr W59).1
              have kp61 : Keep h0 h59 [a2] := kp3.wr W59 (Or.inl (List.mem_of_getElem? (i := 0) rfl))
              have N59 := Fr.snoc X59 N1 g_a2
              obtain ⟨fs, hr, hrun, hended, hW, hsame⟩ := X59.leave (v := some (.int (3 : Int32))) (fun h => by rw [Bd.returns] at h; cases h)
              refine ⟨_, _, pre4 _ ?_, hrun, hended, _, _, rfl, ?_, ⟨_, rfl⟩, hW, hsame.mono (by decide) (by decide)⟩
              · show Steps p.tables e below (T1.setTop (mkF m 6 #[.val (.int p1), .val (.ref a2), .val (.int (1 : Int32)), .unset, .unset] [(.int p1)])) _
                refine XS.tswIn X1.here hx rfl (pc0 := 6) (pc' := 64) (o := 58) rfl (hb hby d1_6) rfl (by rw [hc58]; decide) (by rw [hc58]; rfl) (by decide) (by decide) ?_
                show Steps p.tables e below (T1.setTop (mkF m 64 #[.val (.int p1), .val (.ref a2), .val (.int (1 : Int32)), .unset, .unset] [])) _
                refine own_blk X1 hx bl1_64_3 (own_hb hby bd1_64_3) (pc' := 71) (Ls' := #[.val (.int p1), .val (.ref a2), .val (.int (1 : Int32)), .val (.int (114 : Int32)), .unset]) (st' := []) rfl ?_
                refine own_blk X1 hx bl1_71_1 (own_hb hby bd1_71_1) (pc' := 72) (Ls' := #[.val (.int p1), .val (.ref a2), .val (.int (1 : Int32)), .val (.int (114 : Int32)), .unset]) (st' := [(.int (114 : Int32))]) rfl ?_
                refine XS.ifNo X1.here hx rfl (hb hby d1_72) rfl ((if0 _ _).trans (feq (by decide : ¬ ((114 : Int32) = (0 : Int32)))).1) ?_
                show Steps p.tables e below (T1.setTop (mkF m 75 #[.val (.int p1), .val (.ref a2), .val (.int (1 : Int32)), .val (.int (114 : Int32)), .unset] [])) _
                refine own_blk X1 hx bl1_75_5 (own_hb hby bd1_75_5) (pc' := 80) (Ls' := #[.val (.int p1), .val (.ref a2), .val (.int (1 : Int32)), .val (.int (114 : Int32)), .unset]) (st' := [(.int (114 : Int32)), (.int (2 : Int32)), (.ref a2)]) rfl ?_
                refine st59 _ ?_
                show Steps p.tables e below (T59.setTop (mkF m 81 #[.val (.int p1), .val (.ref a2), .val (.int (1 : Int32)), .val (.int (114 : Int32)), .unset] [])) _
                refine own_blk X59 hx bl1_81_4 (own_hb hby bd1_81_4) (pc' := 86) (Ls' := #[.val (.int p1), .val (.ref a2), .val (.int (1 : Int32)), .val (.int (114 : Int32)), .val (.int (3 : Int32))]) (st' := []) rfl ?_
                refine own_blk X59 hx bl1_86_2 (own_hb hby bd1_86_2) (pc' := 161) (Ls' := #[.val (.int p1), .val (.ref a2), .val (.int (1 : Int32)), .val (.int (114 : Int32)), .val (.int (3 : Int32))]) (st' := [(.int (3 : Int32))]) rfl ?_
                exact retI X59 hx Bd.returns (hb hby d1_161) hr
              · show Q1_1 Z p1 a2 u w1 cl1 k_a2 h0 n0 _ T59.heap _
                rw [e59]
                have lf62 : Arv Z h59 a2 k_a2 .byte (10 : Int32) [(.int (f1_1_a2_0 p1 u)), (.int (f1_1_a2_1 p1 u)), (.int (f1_1_a2_2 p1 u)), (.int (f1_1_a2_3 p1 u)), (.int (f1_1_a2_4 p1 u)), (.int (f1_1_a2_5 p1 u)), (.int (f1_1_a2_6 p1 u)), (.int (f1_1_a2_7 p1 u)), (.int (f1_1_a2_8 p1 u)), (.int (f1_1_a2_9 p1 u))] (.int (0 : Int32)) := by simp only [f1_1_a2_0, f1_1_a2_1, f1_1_a2_2, f1_1_a2_3, f1_1_a2_4, f1_1_a2_5, f1_1_a2_6, f1_1_a2_7, f1_1_a2_8, f1_1_a2_9, if_neg hc5, if_neg hc10, if_neg hc15, if_neg hc20, if_neg hc53, if_pos hc58]; exact V59
                exact ⟨by rw [f1_1, if_neg hc5, if_neg hc10, if_neg hc15, if_neg hc20, if_neg hc53, if_pos hc58], N59, kp61, lf62⟩
            · obtain ⟨cx63, Ar63, qq63, S63, N63_, H63, G63⟩ := id V1
              have hin63 : ¬ ((2 : Int32) < 0 ∨ cx63.slots.size ≤ ((2 : Int32)).toNatClampNeg) := inb_of S63 ⟨by decide, by decide⟩
              obtain ⟨T63, h63, X63, e63, W63, st63⟩ := stB X1 hx hZ e1 Ar63 (j := (2 : Int32)) hin63 (g := (mkF m 95 #[.val (.int p1), .val (.ref a2), .val (.int (1 : Int32)), .val (.int (0 : Int32)), .unset] [(.int (117 : Int32)), (.int (2 : Int32)), (.ref a2)])) rfl rfl (hb hby d1_95)
              have V63 : Arv Z h63 a2 k_a2 .byte (10 : Int32) [(.int u), (.int (nar .byte (92 : Int32))), (.int (nar .byte (117 : Int32))), (.int u), (.int u), (.int u), (.int u), (.int u), (.int u), (.int u)] (.int (0 : Int32)) := Arv.set Ar63 qq63 S63 N63_ H63 G63 (fits_nar_byte _) W63 2 rfl (Nat.le_of_ble_eq_true rfl)
              have zs64 : n0 ≤ h63.size := Nat.le_trans zs2 (Keep.of_wr W63).1
              have kp65 : Keep h0 h63 [a2] := kp3.wr W63 (Or.inl (List.mem_of_getElem? (i := 0) rfl))
              have N63 := Fr.snoc X63 N1 g_a2
              have fa66 : Sta Z h63 "com/example/endcon/endcon/rules/LineText" "HEX_DIGITS" "[B" (.ref w1) := ((S_HEX_DIGITS.wr W1).wr W63)
              obtain ⟨T67, X67, e67, st67⟩ := getS2 X63 hx hZ hown (host := "") (Or.inl (hw _ (List.mem_of_getElem? (i := 6) rfl))) Via.refl e63 fa66 (g := (mkF m 100 #[.val (.int p1), .val (.ref a2), .val (.int (1 : Int32)), .val (.int (0 : Int32)), .unset] [(.int (3 : Int32)), (.ref a2)])) rfl (hb hby d1_100)
              have fa69 : Arr Z h63 w1 cl1 .byte := ((Ar_w1.other W1 ne_w1_a2).other W63 ne_w1_a2)
              have hin68 : ¬ ((p1 >>> ((12 : Int32) &&& 31)) < 0 ∨ cl1.slots.size ≤ ((p1 >>> ((12 : Int32) &&& 31))).toNatClampNeg) := inb_of sz1 (own_sh12 p1 hp hp2)
              have hat68 := hv _ (own_sh12 p1 hp hp2).1 (own_sh12 p1 hp hp2).2
              obtain ⟨cx70, Ar70, qq70, S70, N70_, H70, G70⟩ := id V63
              have hin70 : ¬ ((3 : Int32) < 0 ∨ cx70.slots.size ≤ ((3 : Int32)).toNatClampNeg) := inb_of S70 ⟨by decide, by decide⟩
              obtain ⟨T70, h70, X70, e70, W70, st70⟩ := stB X67 hx hZ e67 Ar70 (j := (3 : Int32)) hin70 (g := (mkF m 108 #[.val (.int p1), .val (.ref a2), .val (.int (1 : Int32)), .val (.int (0 : Int32)), .unset] [(.int (own_tab (p1 >>> ((12 : Int32) &&& 31)))), (.int (3 : Int32)), (.ref a2)])) rfl rfl (hb hby d1_108)
              have V70 : Arv Z h70 a2 k_a2 .byte (10 : Int32) [(.int u), (.int (nar .byte (92 : Int32))), (.int (nar .byte (117 : Int32))), (.int (nar .byte (own_tab (p1 >>> ((12 : Int32) &&& 31))))), (.int u), (.int u), (.int u), (.int u), (.int u), (.int u)] (.int (0 : Int32)) := Arv.set Ar70 qq70 S70 N70_ H70 G70 (fits_nar_byte _) W70 3 rfl (Nat.le_of_ble_eq_true rfl)
              have zs71 : n0 ≤ h70.size := Nat.le_trans zs64 (Keep.of_wr W70).1
              have kp72 : Keep h0 h70 [a2] := kp65.wr W70 (Or.inl (List.mem_of_getElem? (i := 0) rfl))
              have N70 := Fr.snoc X70 N63 g_a2
              have fa73 : Sta Z h70 "com/example/endcon/endcon/rules/LineText" "HEX_DIGITS" "[B" (.ref w1) := (fa66.wr W70)
              obtain ⟨T74, X74, e74, st74⟩ := getS2 X70 hx hZ hown (host := "") (Or.inl (hw _ (List.mem_of_getElem? (i := 6) rfl))) Via.refl e70 fa73 (g := (mkF m 113 #[.val (.int p1), .val (.ref a2), .val (.int (1 : Int32)), .val (.int (0 : Int32)), .unset] [(.int (4 : Int32)), (.ref a2)])) rfl (hb hby d1_113)
              have fa76 : Arr Z h70 w1 cl1 .byte := (fa69.other W70 ne_w1_a2)
              have hin75 : ¬ (((p1 >>> ((8 : Int32) &&& 31)) &&& (15 : Int32)) < 0 ∨ cl1.slots.size ≤ (((p1 >>> ((8 : Int32) &&& 31)) &&& (15 : Int32))).toNatClampNeg) := inb_of sz1 (own_m15 (p1 >>> ((8 : Int32) &&& 31)))
              have hat75 := hv _ (own_m15 (p1 >>> ((8 : Int32) &&& 31))).1 (own_m15 (p1 >>> ((8 : Int32) &&& 31))).2
              obtain ⟨cx77, Ar77, qq77, S77, N77_, H77, G77⟩ := id V70
              have hin77 : ¬ ((4 : Int32) < 0 ∨ cx77.slots.size ≤ ((4 : Int32)).toNatClampNeg) := inb_of S77 ⟨by decide, by decide⟩
              obtain ⟨T77, h77, X77, e77, W77, st77⟩ := stB X74 hx hZ e74 Ar77 (j := (4 : Int32)) hin77 (g := (mkF m 124 #[.val (.int p1), .val (.ref a2), .val (.int (1 : Int32)), .val (.int (0 : Int32)), .unset] [(.int (own_tab ((p1 >>> ((8 : Int32) &&& 31)) &&& (15 : Int32)))), (.int (4 : Int32)), (.ref a2)])) rfl rfl (hb hby d1_124)
              have V77 : Arv Z h77 a2 k_a2 .byte (10 : Int32) [(.int u), (.int (nar .byte (92 : Int32))), (.int (nar .byte (117 : Int32))), (.int (nar .byte (own_tab (p1 >>> ((12 : Int32) &&& 31))))), (.int (nar .byte (own_tab ((p1 >>> ((8 : Int32) &&& 31)) &&& (15 : Int32))))), (.int u), (.int u), (.int u), (.int u), (.int u)] (.int (0 : Int32)) := Arv.set Ar77 qq77 S77 N77_ H77 G77 (fits_nar_byte _) W77 4 rfl (Nat.le_of_ble_eq_true rfl)
              have zs78 : n0 ≤ h77.size := Nat.le_trans zs71 (Keep.of_wr W77).1
              have kp79 : Keep h0 h77 [a2] := kp72.wr W77 (Or.inl (List.mem_of_getElem? (i := 0) rfl))
              have N77 := Fr.snoc X77 N70 g_a2
              have fa80 : Sta Z h77 "com/example/endcon/endcon/rules/LineText" "HEX_DIGITS" "[B" (.ref w1) := (fa73.wr W77)
              obtain ⟨T81, X81, e81, st81⟩ := getS2 X77 hx hZ hown (host := "") (Or.inl (hw _ (List.mem_of_getElem? (i := 6) rfl))) Via.refl e77 fa80 (g := (mkF m 129 #[.val (.int p1), .val (.ref a2), .val (.int (1 : Int32)), .val (.int (0 : Int32)), .unset] [(.int (5 : Int32)), (.ref a2)])) rfl (hb hby d1_129)
              have fa83 : Arr Z h77 w1 cl1 .byte := (fa76.other W77 ne_w1_a2)
              have hin82 : ¬ (((p1 >>> ((4 : Int32) &&& 31)) &&& (15 : Int32)) < 0 ∨ cl1.slots.size ≤ (((p1 >>> ((4 : Int32) &&& 31)) &&& (15 : Int32))).toNatClampNeg) := inb_of sz1 (own_m15 (p1 >>> ((4 : Int32) &&& 31)))
              have hat82 := hv _ (own_m15 (p1 >>> ((4 : Int32) &&& 31))).1 (own_m15 (p1 >>> ((4 : Int32) &&& 31))).2
              obtain ⟨cx84, Ar84, qq84, S84, N84_, H84, G84⟩ := id V77
              have hin84 : ¬ ((5 : Int32) < 0 ∨ cx84.slots.size ≤ ((5 : Int32)).toNatClampNeg) := inb_of S84 ⟨by decide, by decide⟩
              obtain ⟨T84, h84, X84, e84, W84, st84⟩ := stB X81 hx hZ e81 Ar84 (j := (5 : Int32)) hin84 (g := (mkF m 139 #[.val (.int p1), .val (.ref a2), .val (.int (1 : Int32)), .val (.int (0 : Int32)), .unset] [(.int (own_tab ((p1 >>> ((4 : Int32) &&& 31)) &&& (15 : Int32)))), (.int (5 : Int32)), (.ref a2)])) rfl rfl (hb hby d1_139)
              have V84 : Arv Z h84 a2 k_a2 .byte (10 : Int32) [(.int u), (.int (nar .byte (92 : Int32))), (.int (nar .byte (117 : Int32))), (.int (nar .byte (own_tab (p1 >>> ((12 : Int32) &&& 31))))), (.int (nar .byte (own_tab ((p1 >>> ((8 : Int32) &&& 31)) &&& (15 : Int32))))), (.int (nar .byte (own_tab ((p1 >>> ((4 : Int32) &&& 31)) &&& (15 : Int32))))), (.int u), (.int u), (.int u), (.int u)] (.int (0 : Int32)) := Arv.set Ar84 qq84 S84 N84_ H84 G84 (fits_nar_byte _) W84 5 rfl (Nat.le_of_ble_eq_true rfl)
              have zs85 : n0 ≤ h84.size := Nat.le_trans zs78 (Keep.of_wr W84).1
              have kp86 : Keep h0 h84 [a2] := kp79.wr W84 (Or.inl (List.mem_of_getElem? (i := 0) rfl))
              have N84 := Fr.snoc X84 N77 g_a2
              have fa87 : Sta Z h84 "com/example/endcon/endcon/rules/LineText" "HEX_DIGITS" "[B" (.ref w1) := (fa80.wr W84)
              obtain ⟨T88, X88, e88, st88⟩ := getS2 X84 hx hZ hown (host := "") (Or.inl (hw _ (List.mem_of_getElem? (i := 6) rfl))) Via.refl e84 fa87 (g := (mkF m 144 #[.val (.int p1), .val (.ref a2), .val (.int (1 : Int32)), .val (.int (0 : Int32)), .unset] [(.int (6 : Int32)), (.ref a2)])) rfl (hb hby d1_144)
              have fa90 : Arr Z h84 w1 cl1 .byte := (fa83.other W84 ne_w1_a2)
              have hin89 : ¬ ((p1 &&& (15 : Int32)) < 0 ∨ cl1.slots.size ≤ ((p1 &&& (15 : Int32))).toNatClampNeg) := inb_of sz1 (own_m15 p1)
              have hat89 := hv _ (own_m15 p1).1 (own_m15 p1).2
              obtain ⟨cx91, Ar91, qq91, S91, N91_, H91, G91⟩ := id V84
              have hin91 : ¬ ((6 : Int32) < 0 ∨ cx91.slots.size ≤ ((6 : Int32)).toNatClampNeg) := inb_of S91 ⟨by decide, by decide⟩
              obtain ⟨T91, h91, X91, e91, W91, st91⟩ := stB X88 hx hZ e88 Ar91 (j := (6 : Int32)) hin91 (g := (mkF m 152 #[.val (.int p1), .val (.ref a2), .val (.int (1 : Int32)), .val (.int (0 : Int32)), .unset] [(.int (own_tab (p1 &&& (15 : Int32)))), (.int (6 : Int32)), (.ref a2)])) rfl rfl (hb hby d1_152)
              have V91 : Arv Z h91 a2 k_a2 .byte (10 : Int32) [(.int u), (.int (nar .byte (92 : Int32))), (.int (nar .byte (117 : Int32))), (.int (nar .byte (own_tab (p1 >>> ((12 : Int32) &&& 31))))), (.int (nar .byte (own_tab ((p1 >>> ((8 : Int32) &&& 31)) &&& (15 : Int32))))), (.int (nar .byte (own_tab ((p1 >>> ((4 : Int32) &&& 31)) &&& (15 : Int32))))), (.int (nar .byte (own_tab (p1 &&& (15 : Int32))))), (.int u), (.int u), (.int u)] (.int (0 : Int32)) := Arv.set Ar91 qq91 S91 N91_ H91 G91 (fits_nar_byte _) W91 6 rfl (Nat.le_of_ble_eq_true rfl)
              have zs92 : n0 ≤ h91.size := Nat.le_trans zs85 (Keep.of_wr W91).1
              have kp93 : Keep h0 h91 [a2] := kp86.wr W91 (Or.inl (List.mem_of_getElem? (i := 0) rfl))
              have N91 := Fr.snoc X91 N84 g_a2
              obtain ⟨fs, hr, hrun, hended, hW, hsame⟩ := X91.leave (v := some (.int (7 : Int32))) (fun h => by rw [Bd.returns] at h; cases h)
              refine ⟨_, _, pre4 _ ?_, hrun, hended, _, _, rfl, ?_, ⟨_, rfl⟩, hW, hsame.mono (by decide) (by decide)⟩
              · show Steps p.tables e below (T1.setTop (mkF m 6 #[.val (.int p1), .val (.ref a2), .val (.int (1 : Int32)), .unset, .unset] [(.int p1)])) _
                refine XS.tswOut X1.here hx rfl (pc0 := 6) (pc' := 69) rfl (hb hby d1_6) rfl (own_out8_13 hc5 hc10 hc15 hc20 hc53 hc58) (by decide) (by decide) ?_
                show Steps p.tables e below (T1.setTop (mkF m 69 #[.val (.int p1), .val (.ref a2), .val (.int (1 : Int32)), .unset, .unset] [])) _
                refine own_blk X1 hx bl1_69_2 (own_hb hby bd1_69_2) (pc' := 71) (Ls' := #[.val (.int p1), .val (.ref a2), .val (.int (1 : Int32)), .val (.int (0 : Int32)), .unset]) (st' := []) rfl ?_
                refine own_blk X1 hx bl1_71_1 (own_hb hby bd1_71_1) (pc' := 72) (Ls' := #[.val (.int p1), .val (.ref a2), .val (.int (1 : Int32)), .val (.int (0 : Int32)), .unset]) (st' := [(.int (0 : Int32))]) rfl ?_
                refine XS.ifYes X1.here hx rfl (pc0 := 72) (pc' := 89) rfl (hb hby d1_72) rfl ((if0 _ _).trans (teq (by decide : (0 : Int32) = (0 : Int32))).1) (by decide) (by decide) ?_
                show Steps p.tables e below (T1.setTop (mkF m 89 #[.val (.int p1), .val (.ref a2), .val (.int (1 : Int32)), .val (.int (0 : Int32)), .unset] [])) _
                refine own_blk X1 hx bl1_89_5 (own_hb hby bd1_89_5) (pc' := 95) (Ls' := #[.val (.int p1), .val (.ref a2), .val (.int (1 : Int32)), .val (.int (0 : Int32)), .unset]) (st' := [(.int (117 : Int32)), (.int (2 : Int32)), (.ref a2)]) rfl ?_
                refine st63 _ ?_
                show Steps p.tables e below (T63.setTop (mkF m 96 #[.val (.int p1), .val (.ref a2), .val (.int (1 : Int32)), .val (.int (0 : Int32)), .unset] [])) _
                refine own_blk X63 hx bl1_96_4 (own_hb hby bd1_96_4) (pc' := 100) (Ls' := #[.val (.int p1), .val (.ref a2), .val (.int (1 : Int32)), .val (.int (0 : Int32)), .unset]) (st' := [(.int (3 : Int32)), (.ref a2)]) rfl ?_
                refine st67 _ ?_
                show Steps p.tables e below (T67.setTop (mkF m 103 #[.val (.int p1), .val (.ref a2), .val (.int (1 : Int32)), .val (.int (0 : Int32)), .unset] [(.ref w1), (.int (3 : Int32)), (.ref a2)])) _
                refine own_blk X67 hx bl1_103_3 (own_hb hby bd1_103_3) (pc' := 107) (Ls' := #[.val (.int p1), .val (.ref a2), .val (.int (1 : Int32)), .val (.int (0 : Int32)), .unset]) (st' := [(.int (p1 >>> ((12 : Int32) &&& 31))), (.ref w1), (.int (3 : Int32)), (.ref a2)]) rfl ?_
                refine X67.baloadBytes hx (j := (p1 >>> ((12 : Int32) &&& 31))) (v := (.int (own_tab (p1 >>> ((12 : Int32) &&& 31))))) (by rw [e67]; exact fa69.1) (State.isArrayOf_alike hZ.alike fa69.2.1) fa69.2.2 hin68 hat68 (g := (mkF m 107 #[.val (.int p1), .val (.ref a2), .val (.int (1 : Int32)), .val (.int (0 : Int32)), .unset] [(.int (p1 >>> ((12 : Int32) &&& 31))), (.ref w1), (.int (3 : Int32)), (.ref a2)])) rfl rfl (hb hby d1_107) _ ?_
                show Steps p.tables e below (T67.setTop (mkF m 108 #[.val (.int p1), .val (.ref a2), .val (.int (1 : Int32)), .val (.int (0 : Int32)), .unset] [(.int (own_tab (p1 >>> ((12 : Int32) &&& 31)))), (.int (3 : Int32)), (.ref a2)])) _
                refine st70 _ ?_
                show Steps p.tables e below (T70.setTop (mkF m 109 #[.val (.int p1), .val (.ref a2), .val (.int (1 : Int32)), .val (.int (0 : Int32)), .unset] [])) _
                refine own_blk X70 hx bl1_109_4 (own_hb hby bd1_109_4) (pc' := 113) (Ls' := #[.val (.int p1), .val (.ref a2), .val (.int (1 : Int32)), .val (.int (0 : Int32)), .unset]) (st' := [(.int (4 : Int32)), (.ref a2)]) rfl ?_
                refine st74 _ ?_
                show Steps p.tables e below (T74.setTop (mkF m 116 #[.val (.int p1), .val (.ref a2), .val (.int (1 : Int32)), .val (.int (0 : Int32)), .unset] [(.ref w1), (.int (4 : Int32)), (.ref a2)])) _
                refine own_blk X74 hx bl1_116_5 (own_hb hby bd1_116_5) (pc' := 123) (Ls' := #[.val (.int p1), .val (.ref a2), .val (.int (1 : Int32)), .val (.int (0 : Int32)), .unset]) (st' := [(.int ((p1 >>> ((8 : Int32) &&& 31)) &&& (15 : Int32))), (.ref w1), (.int (4 : Int32)), (.ref a2)]) rfl ?_
                refine X74.baloadBytes hx (j := ((p1 >>> ((8 : Int32) &&& 31)) &&& (15 : Int32))) (v := (.int (own_tab ((p1 >>> ((8 : Int32) &&& 31)) &&& (15 : Int32))))) (by rw [e74]; exact fa76.1) (State.isArrayOf_alike hZ.alike fa76.2.1) fa76.2.2 hin75 hat75 (g := (mkF m 123 #[.val (.int p1), .val (.ref a2), .val (.int (1 : Int32)), .val (.int (0 : Int32)), .unset] [(.int ((p1 >>> ((8 : Int32) &&& 31)) &&& (15 : Int32))), (.ref w1), (.int (4 : Int32)), (.ref a2)])) rfl rfl (hb hby d1_123) _ ?_
                show Steps p.tables e below (T74.setTop (mkF m 124 #[.val (.int p1), .val (.ref a2), .val (.int (1 : Int32)), .val (.int (0 : Int32)), .unset] [(.int (own_tab ((p1 >>> ((8 : Int32) &&& 31)) &&& (15 : Int32)))), (.int (4 : Int32)), (.ref a2)])) _
                refine st77 _ ?_
                show Steps p.tables e below (T77.setTop (mkF m 125 #[.val (.int p1), .val (.ref a2), .val (.int (1 : Int32)), .val (.int (0 : Int32)), .unset] [])) _
                refine own_blk X77 hx bl1_125_4 (own_hb hby bd1_125_4) (pc' := 129) (Ls' := #[.val (.int p1), .val (.ref a2), .val (.int (1 : Int32)), .val (.int (0 : Int32)), .unset]) (st' := [(.int (5 : Int32)), (.ref a2)]) rfl ?_
                refine st81 _ ?_
                show Steps p.tables e below (T81.setTop (mkF m 132 #[.val (.int p1), .val (.ref a2), .val (.int (1 : Int32)), .val (.int (0 : Int32)), .unset] [(.ref w1), (.int (5 : Int32)), (.ref a2)])) _
                refine own_blk X81 hx bl1_132_5 (own_hb hby bd1_132_5) (pc' := 138) (Ls' := #[.val (.int p1), .val (.ref a2), .val (.int (1 : Int32)), .val (.int (0 : Int32)), .unset]) (st' := [(.int ((p1 >>> ((4 : Int32) &&& 31)) &&& (15 : Int32))), (.ref w1), (.int (5 : Int32)), (.ref a2)]) rfl ?_
                refine X81.baloadBytes hx (j := ((p1 >>> ((4 : Int32) &&& 31)) &&& (15 : Int32))) (v := (.int (own_tab ((p1 >>> ((4 : Int32) &&& 31)) &&& (15 : Int32))))) (by rw [e81]; exact fa83.1) (State.isArrayOf_alike hZ.alike fa83.2.1) fa83.2.2 hin82 hat82 (g := (mkF m 138 #[.val (.int p1), .val (.ref a2), .val (.int (1 : Int32)), .val (.int (0 : Int32)), .unset] [(.int ((p1 >>> ((4 : Int32) &&& 31)) &&& (15 : Int32))), (.ref w1), (.int (5 : Int32)), (.ref a2)])) rfl rfl (hb hby d1_138) _ ?_
                show Steps p.tables e below (T81.setTop (mkF m 139 #[.val (.int p1), .val (.ref a2), .val (.int (1 : Int32)), .val (.int (0 : Int32)), .unset] [(.int (own_tab ((p1 >>> ((4 : Int32) &&& 31)) &&& (15 : Int32)))), (.int (5 : Int32)), (.ref a2)])) _
                refine st84 _ ?_
                show Steps p.tables e below (T84.setTop (mkF m 140 #[.val (.int p1), .val (.ref a2), .val (.int (1 : Int32)), .val (.int (0 : Int32)), .unset] [])) _
                refine own_blk X84 hx bl1_140_4 (own_hb hby bd1_140_4) (pc' := 144) (Ls' := #[.val (.int p1), .val (.ref a2), .val (.int (1 : Int32)), .val (.int (0 : Int32)), .unset]) (st' := [(.int (6 : Int32)), (.ref a2)]) rfl ?_
                refine st88 _ ?_
                show Steps p.tables e below (T88.setTop (mkF m 147 #[.val (.int p1), .val (.ref a2), .val (.int (1 : Int32)), .val (.int (0 : Int32)), .unset] [(.ref w1), (.int (6 : Int32)), (.ref a2)])) _
                refine own_blk X88 hx bl1_147_3 (own_hb hby bd1_147_3) (pc' := 151) (Ls' := #[.val (.int p1), .val (.ref a2), .val (.int (1 : Int32)), .val (.int (0 : Int32)), .unset]) (st' := [(.int (p1 &&& (15 : Int32))), (.ref w1), (.int (6 : Int32)), (.ref a2)]) rfl ?_
                refine X88.baloadBytes hx (j := (p1 &&& (15 : Int32))) (v := (.int (own_tab (p1 &&& (15 : Int32))))) (by rw [e88]; exact fa90.1) (State.isArrayOf_alike hZ.alike fa90.2.1) fa90.2.2 hin89 hat89 (g := (mkF m 151 #[.val (.int p1), .val (.ref a2), .val (.int (1 : Int32)), .val (.int (0 : Int32)), .unset] [(.int (p1 &&& (15 : Int32))), (.ref w1), (.int (6 : Int32)), (.ref a2)])) rfl rfl (hb hby d1_151) _ ?_
                show Steps p.tables e below (T88.setTop (mkF m 152 #[.val (.int p1), .val (.ref a2), .val (.int (1 : Int32)), .val (.int (0 : Int32)), .unset] [(.int (own_tab (p1 &&& (15 : Int32)))), (.int (6 : Int32)), (.ref a2)])) _
                refine st91 _ ?_
                show Steps p.tables e below (T91.setTop (mkF m 153 #[.val (.int p1), .val (.ref a2), .val (.int (1 : Int32)), .val (.int (0 : Int32)), .unset] [])) _
                refine own_blk X91 hx bl1_153_4 (own_hb hby bd1_153_4) (pc' := 159) (Ls' := #[.val (.int p1), .val (.ref a2), .val (.int (1 : Int32)), .val (.int (0 : Int32)), .val (.int (7 : Int32))]) (st' := []) rfl ?_
                refine own_blk X91 hx bl1_159_1 (own_hb hby bd1_159_1) (pc' := 161) (Ls' := #[.val (.int p1), .val (.ref a2), .val (.int (1 : Int32)), .val (.int (0 : Int32)), .val (.int (7 : Int32))]) (st' := [(.int (7 : Int32))]) rfl ?_
                exact retI X91 hx Bd.returns (hb hby d1_161) hr
              · show Q1_1 Z p1 a2 u w1 cl1 k_a2 h0 n0 _ T91.heap _
                rw [e91]
                have lf94 : Arv Z h91 a2 k_a2 .byte (10 : Int32) [(.int (f1_1_a2_0 p1 u)), (.int (f1_1_a2_1 p1 u)), (.int (f1_1_a2_2 p1 u)), (.int (f1_1_a2_3 p1 u)), (.int (f1_1_a2_4 p1 u)), (.int (f1_1_a2_5 p1 u)), (.int (f1_1_a2_6 p1 u)), (.int (f1_1_a2_7 p1 u)), (.int (f1_1_a2_8 p1 u)), (.int (f1_1_a2_9 p1 u))] (.int (0 : Int32)) := by simp only [f1_1_a2_0, f1_1_a2_1, f1_1_a2_2, f1_1_a2_3, f1_1_a2_4, f1_1_a2_5, f1_1_a2_6, f1_1_a2_7, f1_1_a2_8, f1_1_a2_9, if_neg hc5, if_neg hc10, if_neg hc15, if_neg hc20, if_neg hc53, if_neg hc58]; exact V91
                exact ⟨by rw [f1_1, if_neg hc5, if_neg hc10, if_neg hc15, if_neg hc20, if_neg hc53, if_neg hc58], N91, kp93, lf94⟩
theorem own_end1n (tc u : Int32) (h : ¬ (f2 tc) = (0 : Int32)) : (f1_1 tc u) = (3 : Int32) := by
  by_cases h8 : tc = 8
  · subst h8; rfl
  by_cases h9 : tc = 9
  · subst h9; rfl
  by_cases h10 : tc = 10
  · subst h10; rfl
  by_cases h12 : tc = 12
  · subst h12; rfl
  by_cases h13 : tc = 13
  · subst h13; rfl
  have hsf : f2 tc = 0 := by rw [f2, if_neg h8, if_neg h9, if_neg h10, if_neg h12, if_neg h13]
  exact absurd hsf h
theorem own_end1z (tc u : Int32) (h : (f2 tc) = (0 : Int32)) : (f1_1 tc u) = (7 : Int32) := by
  by_cases h8 : tc = 8
  · subst h8; exact absurd h (by decide)
  by_cases h9 : tc = 9
  · subst h9; exact absurd h (by decide)
  by_cases h10 : tc = 10
  · subst h10; exact absurd h (by decide)
  by_cases h12 : tc = 12
  · subst h12; exact absurd h (by decide)
  by_cases h13 : tc = 13
  · subst h13; exact absurd h (by decide)
  unfold f1_1
  simp only [h8, h9, h10, h12, h13, if_false, ite_self]
theorem own_e1_0 (tc t2 : Int32) (hp : ¬ tc < 0) (hp2 : tc < 65536) : (f1_1_a2_0 tc (nar .byte (t2.toInt8.toInt32))) = (f3 (0 : Int32) (1 : Int32) tc (t2.toInt8.toInt32)) := by
  have n1 := own_nib tc hp hp2
  by_cases h8 : tc = 8
  · subst h8; rfl
  by_cases h9 : tc = 9
  · subst h9; rfl
  by_cases h10 : tc = 10
  · subst h10; rfl
  by_cases h12 : tc = 12
  · subst h12; rfl
  by_cases h13 : tc = 13
  · subst h13; rfl
  have hsf : f2 tc = 0 := by rw [f2, if_neg h8, if_neg h9, if_neg h10, if_neg h12, if_neg h13]
  unfold f1_1_a2_0 f3
  simp only [hsf, h8, h9, h10, h12, h13, if_false, ite_self]
  first | rfl | exact n1.1 | exact n1.2.1 | exact n1.2.2.1 | exact n1.2.2.2
theorem own_e1_1 (tc t2 : Int32) (hp : ¬ tc < 0) (hp2 : tc < 65536) : (f1_1_a2_1 tc (nar .byte (t2.toInt8.toInt32))) = (f3 (1 : Int32) (1 : Int32) tc (t2.toInt8.toInt32)) := by
  have n1 := own_nib tc hp hp2
  by_cases h8 : tc = 8
  · subst h8; rfl
  by_cases h9 : tc = 9
  · subst h9; rfl
  by_cases h10 : tc = 10
  · subst h10; rfl
  by_cases h12 : tc = 12
  · subst h12; rfl
  by_cases h13 : tc = 13
  · subst h13; rfl
  have hsf : f2 tc = 0 := by rw [f2, if_neg h8, if_neg h9, if_neg h10, if_neg h12, if_neg h13]
  unfold f1_1_a2_1 f3
  simp only [hsf, h8, h9, h10, h12, h13, if_false, ite_self]
  first | rfl | exact n1.1 | exact n1.2.1 | exact n1.2.2.1 | exact n1.2.2.2
theorem own_e1_2 (tc t2 : Int32) (hp : ¬ tc < 0) (hp2 : tc < 65536) : (f1_1_a2_2 tc (nar .byte (t2.toInt8.toInt32))) = (f3 (2 : Int32) (1 : Int32) tc (t2.toInt8.toInt32)) := by
  have n1 := own_nib tc hp hp2
  by_cases h8 : tc = 8
  · subst h8; rfl
  by_cases h9 : tc = 9
  · subst h9; rfl
  by_cases h10 : tc = 10
  · subst h10; rfl
  by_cases h12 : tc = 12
  · subst h12; rfl
  by_cases h13 : tc = 13
  · subst h13; rfl
  have hsf : f2 tc = 0 := by rw [f2, if_neg h8, if_neg h9, if_neg h10, if_neg h12, if_neg h13]
  unfold f1_1_a2_2 f3
  simp only [hsf, h8, h9, h10, h12, h13, if_false, ite_self]
  first | rfl | exact n1.1 | exact n1.2.1 | exact n1.2.2.1 | exact n1.2.2.2
theorem own_e1_3 (tc t2 : Int32) (hp : ¬ tc < 0) (hp2 : tc < 65536) : (f1_1_a2_3 tc (nar .byte (t2.toInt8.toInt32))) = (f3 (3 : Int32) (1 : Int32) tc (t2.toInt8.toInt32)) := by
  have n1 := own_nib tc hp hp2
  by_cases h8 : tc = 8
  · subst h8; rfl
  by_cases h9 : tc = 9
  · subst h9; rfl
  by_cases h10 : tc = 10
  · subst h10; rfl
  by_cases h12 : tc = 12
  · subst h12; rfl
  by_cases h13 : tc = 13
  · subst h13; rfl
  have hsf : f2 tc = 0 := by rw [f2, if_neg h8, if_neg h9, if_neg h10, if_neg h12, if_neg h13]
  unfold f1_1_a2_3 f3
  simp only [hsf, h8, h9, h10, h12, h13, if_false, ite_self]
  first | rfl | exact n1.1 | exact n1.2.1 | exact n1.2.2.1 | exact n1.2.2.2
theorem own_e1_4 (tc t2 : Int32) (hp : ¬ tc < 0) (hp2 : tc < 65536) : (f1_1_a2_4 tc (nar .byte (t2.toInt8.toInt32))) = (f3 (4 : Int32) (1 : Int32) tc (t2.toInt8.toInt32)) := by
  have n1 := own_nib tc hp hp2
  by_cases h8 : tc = 8
  · subst h8; rfl
  by_cases h9 : tc = 9
  · subst h9; rfl
  by_cases h10 : tc = 10
  · subst h10; rfl
  by_cases h12 : tc = 12
  · subst h12; rfl
  by_cases h13 : tc = 13
  · subst h13; rfl
  have hsf : f2 tc = 0 := by rw [f2, if_neg h8, if_neg h9, if_neg h10, if_neg h12, if_neg h13]
  unfold f1_1_a2_4 f3
  simp only [hsf, h8, h9, h10, h12, h13, if_false, ite_self]
  first | rfl | exact n1.1 | exact n1.2.1 | exact n1.2.2.1 | exact n1.2.2.2
theorem own_e1_5 (tc t2 : Int32) (hp : ¬ tc < 0) (hp2 : tc < 65536) : (f1_1_a2_5 tc (nar .byte (t2.toInt8.toInt32))) = (f3 (5 : Int32) (1 : Int32) tc (t2.toInt8.toInt32)) := by
  have n1 := own_nib tc hp hp2
  by_cases h8 : tc = 8
  · subst h8; rfl
  by_cases h9 : tc = 9
  · subst h9; rfl
  by_cases h10 : tc = 10
  · subst h10; rfl
  by_cases h12 : tc = 12
  · subst h12; rfl
  by_cases h13 : tc = 13
  · subst h13; rfl
  have hsf : f2 tc = 0 := by rw [f2, if_neg h8, if_neg h9, if_neg h10, if_neg h12, if_neg h13]
  unfold f1_1_a2_5 f3
  simp only [hsf, h8, h9, h10, h12, h13, if_false, ite_self]
  first | rfl | exact n1.1 | exact n1.2.1 | exact n1.2.2.1 | exact n1.2.2.2
theorem own_e1_6 (tc t2 : Int32) (hp : ¬ tc < 0) (hp2 : tc < 65536) : (f1_1_a2_6 tc (nar .byte (t2.toInt8.toInt32))) = (f3 (6 : Int32) (1 : Int32) tc (t2.toInt8.toInt32)) := by
  have n1 := own_nib tc hp hp2
  by_cases h8 : tc = 8
  · subst h8; rfl
  by_cases h9 : tc = 9
  · subst h9; rfl
  by_cases h10 : tc = 10
  · subst h10; rfl
  by_cases h12 : tc = 12
  · subst h12; rfl
  by_cases h13 : tc = 13
  · subst h13; rfl
  have hsf : f2 tc = 0 := by rw [f2, if_neg h8, if_neg h9, if_neg h10, if_neg h12, if_neg h13]
  unfold f1_1_a2_6 f3
  simp only [hsf, h8, h9, h10, h12, h13, if_false, ite_self]
  first | rfl | exact n1.1 | exact n1.2.1 | exact n1.2.2.1 | exact n1.2.2.2
theorem own_e1_7 (tc t2 : Int32) (hp : ¬ tc < 0) (hp2 : tc < 65536) : (f1_1_a2_7 tc (nar .byte (t2.toInt8.toInt32))) = (f3 (7 : Int32) (1 : Int32) tc (t2.toInt8.toInt32)) := by
  have n1 := own_nib tc hp hp2
  by_cases h8 : tc = 8
  · subst h8; rfl
  by_cases h9 : tc = 9
  · subst h9; rfl
  by_cases h10 : tc = 10
  · subst h10; rfl
  by_cases h12 : tc = 12
  · subst h12; rfl
  by_cases h13 : tc = 13
  · subst h13; rfl
  have hsf : f2 tc = 0 := by rw [f2, if_neg h8, if_neg h9, if_neg h10, if_neg h12, if_neg h13]
  unfold f1_1_a2_7 f3
  simp only [hsf, h8, h9, h10, h12, h13, if_false, ite_self]
  first | rfl | exact n1.1 | exact n1.2.1 | exact n1.2.2.1 | exact n1.2.2.2
theorem own_e1_8 (tc t2 : Int32) (hp : ¬ tc < 0) (hp2 : tc < 65536) : (f1_1_a2_8 tc (nar .byte (t2.toInt8.toInt32))) = (f3 (8 : Int32) (1 : Int32) tc (t2.toInt8.toInt32)) := by
  have n1 := own_nib tc hp hp2
  by_cases h8 : tc = 8
  · subst h8; rfl
  by_cases h9 : tc = 9
  · subst h9; rfl
  by_cases h10 : tc = 10
  · subst h10; rfl
  by_cases h12 : tc = 12
  · subst h12; rfl
  by_cases h13 : tc = 13
  · subst h13; rfl
  have hsf : f2 tc = 0 := by rw [f2, if_neg h8, if_neg h9, if_neg h10, if_neg h12, if_neg h13]
  unfold f1_1_a2_8 f3
  simp only [hsf, h8, h9, h10, h12, h13, if_false, ite_self]
  first | rfl | exact n1.1 | exact n1.2.1 | exact n1.2.2.1 | exact n1.2.2.2
theorem own_e1_9 (tc t2 : Int32) (hp : ¬ tc < 0) (hp2 : tc < 65536) : (f1_1_a2_9 tc (nar .byte (t2.toInt8.toInt32))) = (f3 (9 : Int32) (1 : Int32) tc (t2.toInt8.toInt32)) := by
  have n1 := own_nib tc hp hp2
  by_cases h8 : tc = 8
  · subst h8; rfl
  by_cases h9 : tc = 9
  · subst h9; rfl
  by_cases h10 : tc = 10
  · subst h10; rfl
  by_cases h12 : tc = 12
  · subst h12; rfl
  by_cases h13 : tc = 13
  · subst h13; rfl
  have hsf : f2 tc = 0 := by rw [f2, if_neg h8, if_neg h9, if_neg h10, if_neg h12, if_neg h13]
  unfold f1_1_a2_9 f3
  simp only [hsf, h8, h9, h10, h12, h13, if_false, ite_self]
  first | rfl | exact n1.1 | exact n1.2.1 | exact n1.2.2.1 | exact n1.2.2.2
def fB1 (t0 : Int32) (t1 : Int32) (t2 : Int32) (t3 : Int32) (tc : Int32) (t9 : Int32) (t10 : Int32) : Int32 := (1 : Int32)
set_option maxRecDepth 65536 in
set_option maxHeartbeats 40000000 in
theorem tlB1 {p : Program} {l : Launch} {e : Env} {s : State} {m : MethodId} {args : Array Value} {below : List Frame} {meth : Method} {c : Code} {s₁ T0 : State} {locs : List Loc} {Z : State} {a0 : Array Value} {h0 : Heap} {n0 : Nat} {E : JFrame} (t0 : Int32) (t1 : Int32) (t2 : Int32) (t3 : Int32) (tc : Int32) (t9 : Int32) (t10 : Int32) (tb : Addr) (tk : ClassId)
    (X0 : Stand p l e room_1 s m args below meth c T0 locs 1 10) (hx : p.tables.exec = Jvm.exec) (hZ : Z.Warmed39 s.vm) (hw : ∀ d ∈ tables_1, d.before a0 Z = true) (hby : c.code = code) (hml : c.maxLocals = 12) (hown : s.vm.findClass "com/example/endcon/endcon/rules/LineTextEscapePinLaw" = some m.cls) (hret : meth.sig.returnType = some .boolean) (hlk : meth.locks = false) (e0 : T0.heap = h0) (N0 : Fr n0 locs) (Z0 : n0 ≤ h0.size)
    (pre0 : ∀ t, Steps p.tables e below (T0.setTop (mkF m 176 #[.val (.int t0), .val (.int t1), .val (.int t2), .val (.int t3), .val (.int tc), .val (.int tc), .val (.int (1 : Int32)), .val (.int (t2.toInt8.toInt32)), .val (.ref tb), .val (.int t9), .val (.int t10), .val (.int (1 : Int32))] [])) t → Steps p.tables e below (s₁.setTop E) t) (V_tb : Arv Z h0 tb tk .byte (10 : Int32) [(.int (f1_1_a2_0 tc (nar .byte (t2.toInt8.toInt32)))), (.int (f1_1_a2_1 tc (nar .byte (t2.toInt8.toInt32)))), (.int (f1_1_a2_2 tc (nar .byte (t2.toInt8.toInt32)))), (.int (f1_1_a2_3 tc (nar .byte (t2.toInt8.toInt32)))), (.int (f1_1_a2_4 tc (nar .byte (t2.toInt8.toInt32)))), (.int (f1_1_a2_5 tc (nar .byte (t2.toInt8.toInt32)))), (.int (f1_1_a2_6 tc (nar .byte (t2.toInt8.toInt32)))), (.int (f1_1_a2_7 tc (nar .byte (t2.toInt8.toInt32)))), (.int (f1_1_a2_8 tc (nar .byte (t2.toInt8.toInt32)))), (.int (f1_1_a2_9 tc (nar .byte (t2.toInt8.toInt32))))] (.int (0 : Int32))) (hp : ¬ (tc < 0)) (hp2 : tc < 65536) :
    ∃ s₂ o, Steps p.tables e below (s₁.setTop E) s₂ ∧ s₂.status = .running ∧ Ended s₂ below o ∧ ∃ v L, o = .returned v ∧ (v = some (.int (fB1 t0 t1 t2 t3 tc t9 t10)) ∧ Fr n0 L) ∧ FrameEnd s o s₂ L room_1.cells room_1.slots := by
  obtain ⟨cx1, Ar1, qq1, S1, N1_, H1, G1⟩ := id V_tb
  have hin1 : ¬ ((0 : Int32) < 0 ∨ cx1.slots.size ≤ ((0 : Int32)).toNatClampNeg) := inb_of S1 ⟨by decide, by decide⟩
  have hat1 : cx1.slots[((0 : Int32)).toNatClampNeg]? = some (.int (f1_1_a2_0 tc (nar .byte (t2.toInt8.toInt32)))) := (H1 ((0 : Int32)).toNatClampNeg (Nat.lt_of_not_le fun w => hin1 (Or.inr w))).trans (congrArg some (rfl))
  obtain ⟨_, T2, Lc2, X2, hQ2, st2⟩ := own_callS X0 hx hZ (y := (⟨"com/example/endcon/endcon/rules/LineTextEscapePinLaw", "expectedAt", "(IIIB)B"⟩ : MethodName)) hown (hw _ (List.mem_of_getElem? (i := 12) rfl)) (hw _ (List.mem_of_getElem? (i := 13) rfl)) (hw _ (List.mem_of_getElem? (i := 10) rfl)) (hw _ (List.mem_of_getElem? (i := 14) rfl)) (by decide) (W := 1) (argsL := [(.int (0 : Int32)), (.int (1 : Int32)), (.int tc), (.int (t2.toInt8.toInt32))]) (rest := [(.int (f1_1_a2_0 tc (nar .byte (t2.toInt8.toInt32))))]) (rm3 l Z a0 hw [] (0 : Int32) (1 : Int32) tc (t2.toInt8.toInt32) h0 n0 Z0 ) (by decide) (by decide) (c' := 1) (s' := 10) rfl rfl (by decide) (by decide) e0 (g := (mkF m 192 #[.val (.int t0), .val (.int t1), .val (.int t2), .val (.int t3), .val (.int tc), .val (.int tc), .val (.int (1 : Int32)), .val (.int (t2.toInt8.toInt32)), .val (.ref tb), .val (.int t9), .val (.int t10), .val (.int (1 : Int32))] [(.int (t2.toInt8.toInt32)), (.int tc), (.int (1 : Int32)), (.int (0 : Int32)), (.int (f1_1_a2_0 tc (nar .byte (t2.toInt8.toInt32))))])) rfl (by rw [hml]; rfl) (lenOf pd_0_2 rfl) rfl (by show 2 * 0 + _ ≤ _; exact Nat.le_of_eq rfl) (hb hby at_192)
  obtain ⟨rfl, N2q, e2⟩ := hQ2
  have N2 := Fr.app N0 N2q
  obtain ⟨cx3, Ar3, qq3, S3, N3_, H3, G3⟩ := id V_tb
  have hin3 : ¬ ((1 : Int32) < 0 ∨ cx3.slots.size ≤ ((1 : Int32)).toNatClampNeg) := inb_of S3 ⟨by decide, by decide⟩
  have hat3 : cx3.slots[((1 : Int32)).toNatClampNeg]? = some (.int (f1_1_a2_1 tc (nar .byte (t2.toInt8.toInt32)))) := (H3 ((1 : Int32)).toNatClampNeg (Nat.lt_of_not_le fun w => hin3 (Or.inr w))).trans (congrArg some (rfl))
  obtain ⟨_, T4, Lc4, X4, hQ4, st4⟩ := own_callS X2 hx hZ (y := (⟨"com/example/endcon/endcon/rules/LineTextEscapePinLaw", "expectedAt", "(IIIB)B"⟩ : MethodName)) hown (hw _ (List.mem_of_getElem? (i := 12) rfl)) (hw _ (List.mem_of_getElem? (i := 13) rfl)) (hw _ (List.mem_of_getElem? (i := 10) rfl)) (hw _ (List.mem_of_getElem? (i := 14) rfl)) (by decide) (W := 1) (argsL := [(.int (1 : Int32)), (.int (1 : Int32)), (.int tc), (.int (t2.toInt8.toInt32))]) (rest := [(.int (f1_1_a2_1 tc (nar .byte (t2.toInt8.toInt32))))]) (rm3 l Z a0 hw [] (1 : Int32) (1 : Int32) tc (t2.toInt8.toInt32) h0 n0 Z0 ) (by decide) (by decide) (c' := 1) (s' := 10) rfl rfl (by decide) (by decide) e2 (g := (mkF m 221 #[.val (.int t0), .val (.int t1), .val (.int t2), .val (.int t3), .val (.int tc), .val (.int tc), .val (.int (1 : Int32)), .val (.int (t2.toInt8.toInt32)), .val (.ref tb), .val (.int t9), .val (.int t10), .val (.int (1 : Int32))] [(.int (t2.toInt8.toInt32)), (.int tc), (.int (1 : Int32)), (.int (1 : Int32)), (.int (f1_1_a2_1 tc (nar .byte (t2.toInt8.toInt32))))])) rfl (by rw [hml]; rfl) (lenOf pd_0_2 rfl) rfl (by show 2 * 0 + _ ≤ _; exact Nat.le_of_eq rfl) (hb hby at_221)
  obtain ⟨rfl, N4q, e4⟩ := hQ4
  have N4 := Fr.app N2 N4q
  obtain ⟨cx5, Ar5, qq5, S5, N5_, H5, G5⟩ := id V_tb
  have hin5 : ¬ ((2 : Int32) < 0 ∨ cx5.slots.size ≤ ((2 : Int32)).toNatClampNeg) := inb_of S5 ⟨by decide, by decide⟩
  have hat5 : cx5.slots[((2 : Int32)).toNatClampNeg]? = some (.int (f1_1_a2_2 tc (nar .byte (t2.toInt8.toInt32)))) := (H5 ((2 : Int32)).toNatClampNeg (Nat.lt_of_not_le fun w => hin5 (Or.inr w))).trans (congrArg some (rfl))
  obtain ⟨_, T6, Lc6, X6, hQ6, st6⟩ := own_callS X4 hx hZ (y := (⟨"com/example/endcon/endcon/rules/LineTextEscapePinLaw", "expectedAt", "(IIIB)B"⟩ : MethodName)) hown (hw _ (List.mem_of_getElem? (i := 12) rfl)) (hw _ (List.mem_of_getElem? (i := 13) rfl)) (hw _ (List.mem_of_getElem? (i := 10) rfl)) (hw _ (List.mem_of_getElem? (i := 14) rfl)) (by decide) (W := 1) (argsL := [(.int (2 : Int32)), (.int (1 : Int32)), (.int tc), (.int (t2.toInt8.toInt32))]) (rest := [(.int (f1_1_a2_2 tc (nar .byte (t2.toInt8.toInt32))))]) (rm3 l Z a0 hw [] (2 : Int32) (1 : Int32) tc (t2.toInt8.toInt32) h0 n0 Z0 ) (by decide) (by decide) (c' := 1) (s' := 10) rfl rfl (by decide) (by decide) e4 (g := (mkF m 250 #[.val (.int t0), .val (.int t1), .val (.int t2), .val (.int t3), .val (.int tc), .val (.int tc), .val (.int (1 : Int32)), .val (.int (t2.toInt8.toInt32)), .val (.ref tb), .val (.int t9), .val (.int t10), .val (.int (1 : Int32))] [(.int (t2.toInt8.toInt32)), (.int tc), (.int (1 : Int32)), (.int (2 : Int32)), (.int (f1_1_a2_2 tc (nar .byte (t2.toInt8.toInt32))))])) rfl (by rw [hml]; rfl) (lenOf pd_0_2 rfl) rfl (by show 2 * 0 + _ ≤ _; exact Nat.le_of_eq rfl) (hb hby at_250)
  obtain ⟨rfl, N6q, e6⟩ := hQ6
  have N6 := Fr.app N4 N6q
  obtain ⟨cx7, Ar7, qq7, S7, N7_, H7, G7⟩ := id V_tb
  have hin7 : ¬ ((3 : Int32) < 0 ∨ cx7.slots.size ≤ ((3 : Int32)).toNatClampNeg) := inb_of S7 ⟨by decide, by decide⟩
  have hat7 : cx7.slots[((3 : Int32)).toNatClampNeg]? = some (.int (f1_1_a2_3 tc (nar .byte (t2.toInt8.toInt32)))) := (H7 ((3 : Int32)).toNatClampNeg (Nat.lt_of_not_le fun w => hin7 (Or.inr w))).trans (congrArg some (rfl))
  obtain ⟨_, T8, Lc8, X8, hQ8, st8⟩ := own_callS X6 hx hZ (y := (⟨"com/example/endcon/endcon/rules/LineTextEscapePinLaw", "expectedAt", "(IIIB)B"⟩ : MethodName)) hown (hw _ (List.mem_of_getElem? (i := 12) rfl)) (hw _ (List.mem_of_getElem? (i := 13) rfl)) (hw _ (List.mem_of_getElem? (i := 10) rfl)) (hw _ (List.mem_of_getElem? (i := 14) rfl)) (by decide) (W := 1) (argsL := [(.int (3 : Int32)), (.int (1 : Int32)), (.int tc), (.int (t2.toInt8.toInt32))]) (rest := [(.int (f1_1_a2_3 tc (nar .byte (t2.toInt8.toInt32))))]) (rm3 l Z a0 hw [] (3 : Int32) (1 : Int32) tc (t2.toInt8.toInt32) h0 n0 Z0 ) (by decide) (by decide) (c' := 1) (s' := 10) rfl rfl (by decide) (by decide) e6 (g := (mkF m 279 #[.val (.int t0), .val (.int t1), .val (.int t2), .val (.int t3), .val (.int tc), .val (.int tc), .val (.int (1 : Int32)), .val (.int (t2.toInt8.toInt32)), .val (.ref tb), .val (.int t9), .val (.int t10), .val (.int (1 : Int32))] [(.int (t2.toInt8.toInt32)), (.int tc), (.int (1 : Int32)), (.int (3 : Int32)), (.int (f1_1_a2_3 tc (nar .byte (t2.toInt8.toInt32))))])) rfl (by rw [hml]; rfl) (lenOf pd_0_2 rfl) rfl (by show 2 * 0 + _ ≤ _; exact Nat.le_of_eq rfl) (hb hby at_279)
  obtain ⟨rfl, N8q, e8⟩ := hQ8
  have N8 := Fr.app N6 N8q
  obtain ⟨cx9, Ar9, qq9, S9, N9_, H9, G9⟩ := id V_tb
  have hin9 : ¬ ((4 : Int32) < 0 ∨ cx9.slots.size ≤ ((4 : Int32)).toNatClampNeg) := inb_of S9 ⟨by decide, by decide⟩
  have hat9 : cx9.slots[((4 : Int32)).toNatClampNeg]? = some (.int (f1_1_a2_4 tc (nar .byte (t2.toInt8.toInt32)))) := (H9 ((4 : Int32)).toNatClampNeg (Nat.lt_of_not_le fun w => hin9 (Or.inr w))).trans (congrArg some (rfl))
  obtain ⟨_, T10, Lc10, X10, hQ10, st10⟩ := own_callS X8 hx hZ (y := (⟨"com/example/endcon/endcon/rules/LineTextEscapePinLaw", "expectedAt", "(IIIB)B"⟩ : MethodName)) hown (hw _ (List.mem_of_getElem? (i := 12) rfl)) (hw _ (List.mem_of_getElem? (i := 13) rfl)) (hw _ (List.mem_of_getElem? (i := 10) rfl)) (hw _ (List.mem_of_getElem? (i := 14) rfl)) (by decide) (W := 1) (argsL := [(.int (4 : Int32)), (.int (1 : Int32)), (.int tc), (.int (t2.toInt8.toInt32))]) (rest := [(.int (f1_1_a2_4 tc (nar .byte (t2.toInt8.toInt32))))]) (rm3 l Z a0 hw [] (4 : Int32) (1 : Int32) tc (t2.toInt8.toInt32) h0 n0 Z0 ) (by decide) (by decide) (c' := 1) (s' := 10) rfl rfl (by decide) (by decide) e8 (g := (mkF m 308 #[.val (.int t0), .val (.int t1), .val (.int t2), .val (.int t3), .val (.int tc), .val (.int tc), .val (.int (1 : Int32)), .val (.int (t2.toInt8.toInt32)), .val (.ref tb), .val (.int t9), .val (.int t10), .val (.int (1 : Int32))] [(.int (t2.toInt8.toInt32)), (.int tc), (.int (1 : Int32)), (.int (4 : Int32)), (.int (f1_1_a2_4 tc (nar .byte (t2.toInt8.toInt32))))])) rfl (by rw [hml]; rfl) (lenOf pd_0_2 rfl) rfl (by show 2 * 0 + _ ≤ _; exact Nat.le_of_eq rfl) (hb hby at_308)
  obtain ⟨rfl, N10q, e10⟩ := hQ10
  have N10 := Fr.app N8 N10q
  obtain ⟨cx11, Ar11, qq11, S11, N11_, H11, G11⟩ := id V_tb
  have hin11 : ¬ ((5 : Int32) < 0 ∨ cx11.slots.size ≤ ((5 : Int32)).toNatClampNeg) := inb_of S11 ⟨by decide, by decide⟩
  have hat11 : cx11.slots[((5 : Int32)).toNatClampNeg]? = some (.int (f1_1_a2_5 tc (nar .byte (t2.toInt8.toInt32)))) := (H11 ((5 : Int32)).toNatClampNeg (Nat.lt_of_not_le fun w => hin11 (Or.inr w))).trans (congrArg some (rfl))
  obtain ⟨_, T12, Lc12, X12, hQ12, st12⟩ := own_callS X10 hx hZ (y := (⟨"com/example/endcon/endcon/rules/LineTextEscapePinLaw", "expectedAt", "(IIIB)B"⟩ : MethodName)) hown (hw _ (List.mem_of_getElem? (i := 12) rfl)) (hw _ (List.mem_of_getElem? (i := 13) rfl)) (hw _ (List.mem_of_getElem? (i := 10) rfl)) (hw _ (List.mem_of_getElem? (i := 14) rfl)) (by decide) (W := 1) (argsL := [(.int (5 : Int32)), (.int (1 : Int32)), (.int tc), (.int (t2.toInt8.toInt32))]) (rest := [(.int (f1_1_a2_5 tc (nar .byte (t2.toInt8.toInt32))))]) (rm3 l Z a0 hw [] (5 : Int32) (1 : Int32) tc (t2.toInt8.toInt32) h0 n0 Z0 ) (by decide) (by decide) (c' := 1) (s' := 10) rfl rfl (by decide) (by decide) e10 (g := (mkF m 337 #[.val (.int t0), .val (.int t1), .val (.int t2), .val (.int t3), .val (.int tc), .val (.int tc), .val (.int (1 : Int32)), .val (.int (t2.toInt8.toInt32)), .val (.ref tb), .val (.int t9), .val (.int t10), .val (.int (1 : Int32))] [(.int (t2.toInt8.toInt32)), (.int tc), (.int (1 : Int32)), (.int (5 : Int32)), (.int (f1_1_a2_5 tc (nar .byte (t2.toInt8.toInt32))))])) rfl (by rw [hml]; rfl) (lenOf pd_0_2 rfl) rfl (by show 2 * 0 + _ ≤ _; exact Nat.le_of_eq rfl) (hb hby at_337)
  obtain ⟨rfl, N12q, e12⟩ := hQ12
  have N12 := Fr.app N10 N12q
  obtain ⟨cx13, Ar13, qq13, S13, N13_, H13, G13⟩ := id V_tb
  have hin13 : ¬ ((6 : Int32) < 0 ∨ cx13.slots.size ≤ ((6 : Int32)).toNatClampNeg) := inb_of S13 ⟨by decide, by decide⟩
  have hat13 : cx13.slots[((6 : Int32)).toNatClampNeg]? = some (.int (f1_1_a2_6 tc (nar .byte (t2.toInt8.toInt32)))) := (H13 ((6 : Int32)).toNatClampNeg (Nat.lt_of_not_le fun w => hin13 (Or.inr w))).trans (congrArg some (rfl))
  obtain ⟨_, T14, Lc14, X14, hQ14, st14⟩ := own_callS X12 hx hZ (y := (⟨"com/example/endcon/endcon/rules/LineTextEscapePinLaw", "expectedAt", "(IIIB)B"⟩ : MethodName)) hown (hw _ (List.mem_of_getElem? (i := 12) rfl)) (hw _ (List.mem_of_getElem? (i := 13) rfl)) (hw _ (List.mem_of_getElem? (i := 10) rfl)) (hw _ (List.mem_of_getElem? (i := 14) rfl)) (by decide) (W := 1) (argsL := [(.int (6 : Int32)), (.int (1 : Int32)), (.int tc), (.int (t2.toInt8.toInt32))]) (rest := [(.int (f1_1_a2_6 tc (nar .byte (t2.toInt8.toInt32))))]) (rm3 l Z a0 hw [] (6 : Int32) (1 : Int32) tc (t2.toInt8.toInt32) h0 n0 Z0 ) (by decide) (by decide) (c' := 1) (s' := 10) rfl rfl (by decide) (by decide) e12 (g := (mkF m 368 #[.val (.int t0), .val (.int t1), .val (.int t2), .val (.int t3), .val (.int tc), .val (.int tc), .val (.int (1 : Int32)), .val (.int (t2.toInt8.toInt32)), .val (.ref tb), .val (.int t9), .val (.int t10), .val (.int (1 : Int32))] [(.int (t2.toInt8.toInt32)), (.int tc), (.int (1 : Int32)), (.int (6 : Int32)), (.int (f1_1_a2_6 tc (nar .byte (t2.toInt8.toInt32))))])) rfl (by rw [hml]; rfl) (lenOf pd_0_2 rfl) rfl (by show 2 * 0 + _ ≤ _; exact Nat.le_of_eq rfl) (hb hby at_368)
  obtain ⟨rfl, N14q, e14⟩ := hQ14
  have N14 := Fr.app N12 N14q
  obtain ⟨cx15, Ar15, qq15, S15, N15_, H15, G15⟩ := id V_tb
  have hin15 : ¬ ((7 : Int32) < 0 ∨ cx15.slots.size ≤ ((7 : Int32)).toNatClampNeg) := inb_of S15 ⟨by decide, by decide⟩
  have hat15 : cx15.slots[((7 : Int32)).toNatClampNeg]? = some (.int (f1_1_a2_7 tc (nar .byte (t2.toInt8.toInt32)))) := (H15 ((7 : Int32)).toNatClampNeg (Nat.lt_of_not_le fun w => hin15 (Or.inr w))).trans (congrArg some (rfl))
  obtain ⟨_, T16, Lc16, X16, hQ16, st16⟩ := own_callS X14 hx hZ (y := (⟨"com/example/endcon/endcon/rules/LineTextEscapePinLaw", "expectedAt", "(IIIB)B"⟩ : MethodName)) hown (hw _ (List.mem_of_getElem? (i := 12) rfl)) (hw _ (List.mem_of_getElem? (i := 13) rfl)) (hw _ (List.mem_of_getElem? (i := 10) rfl)) (hw _ (List.mem_of_getElem? (i := 14) rfl)) (by decide) (W := 1) (argsL := [(.int (7 : Int32)), (.int (1 : Int32)), (.int tc), (.int (t2.toInt8.toInt32))]) (rest := [(.int (f1_1_a2_7 tc (nar .byte (t2.toInt8.toInt32))))]) (rm3 l Z a0 hw [] (7 : Int32) (1 : Int32) tc (t2.toInt8.toInt32) h0 n0 Z0 ) (by decide) (by decide) (c' := 1) (s' := 10) rfl rfl (by decide) (by decide) e14 (g := (mkF m 399 #[.val (.int t0), .val (.int t1), .val (.int t2), .val (.int t3), .val (.int tc), .val (.int tc), .val (.int (1 : Int32)), .val (.int (t2.toInt8.toInt32)), .val (.ref tb), .val (.int t9), .val (.int t10), .val (.int (1 : Int32))] [(.int (t2.toInt8.toInt32)), (.int tc), (.int (1 : Int32)), (.int (7 : Int32)), (.int (f1_1_a2_7 tc (nar .byte (t2.toInt8.toInt32))))])) rfl (by rw [hml]; rfl) (lenOf pd_0_2 rfl) rfl (by show 2 * 0 + _ ≤ _; exact Nat.le_of_eq rfl) (hb hby at_399)
  obtain ⟨rfl, N16q, e16⟩ := hQ16
  have N16 := Fr.app N14 N16q
  obtain ⟨cx17, Ar17, qq17, S17, N17_, H17, G17⟩ := id V_tb
  have hin17 : ¬ ((8 : Int32) < 0 ∨ cx17.slots.size ≤ ((8 : Int32)).toNatClampNeg) := inb_of S17 ⟨by decide, by decide⟩
  have hat17 : cx17.slots[((8 : Int32)).toNatClampNeg]? = some (.int (f1_1_a2_8 tc (nar .byte (t2.toInt8.toInt32)))) := (H17 ((8 : Int32)).toNatClampNeg (Nat.lt_of_not_le fun w => hin17 (Or.inr w))).trans (congrArg some (rfl))
  obtain ⟨_, T18, Lc18, X18, hQ18, st18⟩ := own_callS X16 hx hZ (y := (⟨"com/example/endcon/endcon/rules/LineTextEscapePinLaw", "expectedAt", "(IIIB)B"⟩ : MethodName)) hown (hw _ (List.mem_of_getElem? (i := 12) rfl)) (hw _ (List.mem_of_getElem? (i := 13) rfl)) (hw _ (List.mem_of_getElem? (i := 10) rfl)) (hw _ (List.mem_of_getElem? (i := 14) rfl)) (by decide) (W := 1) (argsL := [(.int (8 : Int32)), (.int (1 : Int32)), (.int tc), (.int (t2.toInt8.toInt32))]) (rest := [(.int (f1_1_a2_8 tc (nar .byte (t2.toInt8.toInt32))))]) (rm3 l Z a0 hw [] (8 : Int32) (1 : Int32) tc (t2.toInt8.toInt32) h0 n0 Z0 ) (by decide) (by decide) (c' := 1) (s' := 10) rfl rfl (by decide) (by decide) e16 (g := (mkF m 430 #[.val (.int t0), .val (.int t1), .val (.int t2), .val (.int t3), .val (.int tc), .val (.int tc), .val (.int (1 : Int32)), .val (.int (t2.toInt8.toInt32)), .val (.ref tb), .val (.int t9), .val (.int t10), .val (.int (1 : Int32))] [(.int (t2.toInt8.toInt32)), (.int tc), (.int (1 : Int32)), (.int (8 : Int32)), (.int (f1_1_a2_8 tc (nar .byte (t2.toInt8.toInt32))))])) rfl (by rw [hml]; rfl) (lenOf pd_0_2 rfl) rfl (by show 2 * 0 + _ ≤ _; exact Nat.le_of_eq rfl) (hb hby at_430)
  obtain ⟨rfl, N18q, e18⟩ := hQ18
  have N18 := Fr.app N16 N18q
  obtain ⟨cx19, Ar19, qq19, S19, N19_, H19, G19⟩ := id V_tb
  have hin19 : ¬ ((9 : Int32) < 0 ∨ cx19.slots.size ≤ ((9 : Int32)).toNatClampNeg) := inb_of S19 ⟨by decide, by decide⟩
  have hat19 : cx19.slots[((9 : Int32)).toNatClampNeg]? = some (.int (f1_1_a2_9 tc (nar .byte (t2.toInt8.toInt32)))) := (H19 ((9 : Int32)).toNatClampNeg (Nat.lt_of_not_le fun w => hin19 (Or.inr w))).trans (congrArg some (rfl))
  obtain ⟨_, T20, Lc20, X20, hQ20, st20⟩ := own_callS X18 hx hZ (y := (⟨"com/example/endcon/endcon/rules/LineTextEscapePinLaw", "expectedAt", "(IIIB)B"⟩ : MethodName)) hown (hw _ (List.mem_of_getElem? (i := 12) rfl)) (hw _ (List.mem_of_getElem? (i := 13) rfl)) (hw _ (List.mem_of_getElem? (i := 10) rfl)) (hw _ (List.mem_of_getElem? (i := 14) rfl)) (by decide) (W := 1) (argsL := [(.int (9 : Int32)), (.int (1 : Int32)), (.int tc), (.int (t2.toInt8.toInt32))]) (rest := [(.int (f1_1_a2_9 tc (nar .byte (t2.toInt8.toInt32))))]) (rm3 l Z a0 hw [] (9 : Int32) (1 : Int32) tc (t2.toInt8.toInt32) h0 n0 Z0 ) (by decide) (by decide) (c' := 1) (s' := 10) rfl rfl (by decide) (by decide) e18 (g := (mkF m 461 #[.val (.int t0), .val (.int t1), .val (.int t2), .val (.int t3), .val (.int tc), .val (.int tc), .val (.int (1 : Int32)), .val (.int (t2.toInt8.toInt32)), .val (.ref tb), .val (.int t9), .val (.int t10), .val (.int (1 : Int32))] [(.int (t2.toInt8.toInt32)), (.int tc), (.int (1 : Int32)), (.int (9 : Int32)), (.int (f1_1_a2_9 tc (nar .byte (t2.toInt8.toInt32))))])) rfl (by rw [hml]; rfl) (lenOf pd_0_2 rfl) rfl (by show 2 * 0 + _ ≤ _; exact Nat.le_of_eq rfl) (hb hby at_461)
  obtain ⟨rfl, N20q, e20⟩ := hQ20
  have N20 := Fr.app N18 N20q
  obtain ⟨fs, hr, hrun, hended, hW, hsame⟩ := X20.leave (v := some (.int (1 : Int32))) (fun h => by rw [hret] at h; cases h)
  refine ⟨_, _, pre0 _ ?_, hrun, hended, _, _, rfl, ?_, ⟨_, rfl⟩, hW, hsame.mono (by decide) (by decide)⟩
  · show Steps p.tables e below (T0.setTop (mkF m 176 #[.val (.int t0), .val (.int t1), .val (.int t2), .val (.int t3), .val (.int tc), .val (.int tc), .val (.int (1 : Int32)), .val (.int (t2.toInt8.toInt32)), .val (.ref tb), .val (.int t9), .val (.int t10), .val (.int (1 : Int32))] [])) _
    refine own_blk X0 hx bl0_176_1 (own_hb hby bd0_176_1) (pc' := 178) (Ls' := #[.val (.int t0), .val (.int t1), .val (.int t2), .val (.int t3), .val (.int tc), .val (.int tc), .val (.int (1 : Int32)), .val (.int (t2.toInt8.toInt32)), .val (.ref tb), .val (.int t9), .val (.int t10), .val (.int (1 : Int32))]) (st' := [(.int (1 : Int32))]) rfl ?_
    refine XS.ifNo X0.here hx rfl (hb hby at_178) rfl ((if0 _ _).trans (feq (by decide : ¬ ((1 : Int32) = (0 : Int32)))).1) ?_
    show Steps p.tables e below (T0.setTop (mkF m 181 #[.val (.int t0), .val (.int t1), .val (.int t2), .val (.int t3), .val (.int tc), .val (.int tc), .val (.int (1 : Int32)), .val (.int (t2.toInt8.toInt32)), .val (.ref tb), .val (.int t9), .val (.int t10), .val (.int (1 : Int32))] [])) _
    refine own_blk X0 hx bl0_181_2 (own_hb hby bd0_181_2) (pc' := 184) (Ls' := #[.val (.int t0), .val (.int t1), .val (.int t2), .val (.int t3), .val (.int tc), .val (.int tc), .val (.int (1 : Int32)), .val (.int (t2.toInt8.toInt32)), .val (.ref tb), .val (.int t9), .val (.int t10), .val (.int (1 : Int32))]) (st' := [(.int (0 : Int32)), (.ref tb)]) rfl ?_
    refine X0.baloadBytes hx (j := (0 : Int32)) (v := (.int (f1_1_a2_0 tc (nar .byte (t2.toInt8.toInt32))))) (by rw [e0]; exact Ar1.1) (State.isArrayOf_alike hZ.alike Ar1.2.1) Ar1.2.2 hin1 hat1 (g := (mkF m 184 #[.val (.int t0), .val (.int t1), .val (.int t2), .val (.int t3), .val (.int tc), .val (.int tc), .val (.int (1 : Int32)), .val (.int (t2.toInt8.toInt32)), .val (.ref tb), .val (.int t9), .val (.int t10), .val (.int (1 : Int32))] [(.int (0 : Int32)), (.ref tb)])) rfl rfl (hb hby at_184) _ ?_
    show Steps p.tables e below (T0.setTop (mkF m 185 #[.val (.int t0), .val (.int t1), .val (.int t2), .val (.int t3), .val (.int tc), .val (.int tc), .val (.int (1 : Int32)), .val (.int (t2.toInt8.toInt32)), .val (.ref tb), .val (.int t9), .val (.int t10), .val (.int (1 : Int32))] [(.int (f1_1_a2_0 tc (nar .byte (t2.toInt8.toInt32))))])) _
    refine own_blk X0 hx bl0_185_4 (own_hb hby bd0_185_4) (pc' := 192) (Ls' := #[.val (.int t0), .val (.int t1), .val (.int t2), .val (.int t3), .val (.int tc), .val (.int tc), .val (.int (1 : Int32)), .val (.int (t2.toInt8.toInt32)), .val (.ref tb), .val (.int t9), .val (.int t10), .val (.int (1 : Int32))]) (st' := [(.int (t2.toInt8.toInt32)), (.int tc), (.int (1 : Int32)), (.int (0 : Int32)), (.int (f1_1_a2_0 tc (nar .byte (t2.toInt8.toInt32))))]) rfl ?_
    refine st2 _ ?_
    show Steps p.tables e below (T2.setTop (mkF m 195 #[.val (.int t0), .val (.int t1), .val (.int t2), .val (.int t3), .val (.int tc), .val (.int tc), .val (.int (1 : Int32)), .val (.int (t2.toInt8.toInt32)), .val (.ref tb), .val (.int t9), .val (.int t10), .val (.int (1 : Int32))] [(.int (f3 (0 : Int32) (1 : Int32) tc (t2.toInt8.toInt32))), (.int (f1_1_a2_0 tc (nar .byte (t2.toInt8.toInt32))))])) _
    refine XS.icmpNo X2.here hx rfl (hb hby at_195) rfl (teq (own_e1_0 tc t2 hp hp2)).2 ?_
    show Steps p.tables e below (T2.setTop (mkF m 198 #[.val (.int t0), .val (.int t1), .val (.int t2), .val (.int t3), .val (.int tc), .val (.int tc), .val (.int (1 : Int32)), .val (.int (t2.toInt8.toInt32)), .val (.ref tb), .val (.int t9), .val (.int t10), .val (.int (1 : Int32))] [])) _
    refine own_blk X2 hx bl0_198_3 (own_hb hby bd0_198_3) (pc' := 205) (Ls' := #[.val (.int t0), .val (.int t1), .val (.int t2), .val (.int t3), .val (.int tc), .val (.int tc), .val (.int (1 : Int32)), .val (.int (t2.toInt8.toInt32)), .val (.ref tb), .val (.int t9), .val (.int t10), .val (.int (1 : Int32))]) (st' := []) rfl ?_
    refine own_blk X2 hx bl0_205_1 (own_hb hby bd0_205_1) (pc' := 207) (Ls' := #[.val (.int t0), .val (.int t1), .val (.int t2), .val (.int t3), .val (.int tc), .val (.int tc), .val (.int (1 : Int32)), .val (.int (t2.toInt8.toInt32)), .val (.ref tb), .val (.int t9), .val (.int t10), .val (.int (1 : Int32))]) (st' := [(.int (1 : Int32))]) rfl ?_
    refine XS.ifNo X2.here hx rfl (hb hby at_207) rfl ((if0 _ _).trans (feq (by decide : ¬ ((1 : Int32) = (0 : Int32)))).1) ?_
    show Steps p.tables e below (T2.setTop (mkF m 210 #[.val (.int t0), .val (.int t1), .val (.int t2), .val (.int t3), .val (.int tc), .val (.int tc), .val (.int (1 : Int32)), .val (.int (t2.toInt8.toInt32)), .val (.ref tb), .val (.int t9), .val (.int t10), .val (.int (1 : Int32))] [])) _
    refine own_blk X2 hx bl0_210_2 (own_hb hby bd0_210_2) (pc' := 213) (Ls' := #[.val (.int t0), .val (.int t1), .val (.int t2), .val (.int t3), .val (.int tc), .val (.int tc), .val (.int (1 : Int32)), .val (.int (t2.toInt8.toInt32)), .val (.ref tb), .val (.int t9), .val (.int t10), .val (.int (1 : Int32))]) (st' := [(.int (1 : Int32)), (.ref tb)]) rfl ?_
    refine X2.baloadBytes hx (j := (1 : Int32)) (v := (.int (f1_1_a2_1 tc (nar .byte (t2.toInt8.toInt32))))) (by rw [e2]; exact Ar3.1) (State.isArrayOf_alike hZ.alike Ar3.2.1) Ar3.2.2 hin3 hat3 (g := (mkF m 213 #[.val (.int t0), .val (.int t1), .val (.int t2), .val (.int t3), .val (.int tc), .val (.int tc), .val (.int (1 : Int32)), .val (.int (t2.toInt8.toInt32)), .val (.ref tb), .val (.int t9), .val (.int t10), .val (.int (1 : Int32))] [(.int (1 : Int32)), (.ref tb)])) rfl rfl (hb hby at_213) _ ?_
    show Steps p.tables e below (T2.setTop (mkF m 214 #[.val (.int t0), .val (.int t1), .val (.int t2), .val (.int t3), .val (.int tc), .val (.int tc), .val (.int (1 : Int32)), .val (.int (t2.toInt8.toInt32)), .val (.ref tb), .val (.int t9), .val (.int t10), .val (.int (1 : Int32))] [(.int (f1_1_a2_1 tc (nar .byte (t2.toInt8.toInt32))))])) _
    refine own_blk X2 hx bl0_214_4 (own_hb hby bd0_214_4) (pc' := 221) (Ls' := #[.val (.int t0), .val (.int t1), .val (.int t2), .val (.int t3), .val (.int tc), .val (.int tc), .val (.int (1 : Int32)), .val (.int (t2.toInt8.toInt32)), .val (.ref tb), .val (.int t9), .val (.int t10), .val (.int (1 : Int32))]) (st' := [(.int (t2.toInt8.toInt32)), (.int tc), (.int (1 : Int32)), (.int (1 : Int32)), (.int (f1_1_a2_1 tc (nar .byte (t2.toInt8.toInt32))))]) rfl ?_
    refine st4 _ ?_
    show Steps p.tables e below (T4.setTop (mkF m 224 #[.val (.int t0), .val (.int t1), .val (.int t2), .val (.int t3), .val (.int tc), .val (.int tc), .val (.int (1 : Int32)), .val (.int (t2.toInt8.toInt32)), .val (.ref tb), .val (.int t9), .val (.int t10), .val (.int (1 : Int32))] [(.int (f3 (1 : Int32) (1 : Int32) tc (t2.toInt8.toInt32))), (.int (f1_1_a2_1 tc (nar .byte (t2.toInt8.toInt32))))])) _
    refine XS.icmpNo X4.here hx rfl (hb hby at_224) rfl (teq (own_e1_1 tc t2 hp hp2)).2 ?_
    show Steps p.tables e below (T4.setTop (mkF m 227 #[.val (.int t0), .val (.int t1), .val (.int t2), .val (.int t3), .val (.int tc), .val (.int tc), .val (.int (1 : Int32)), .val (.int (t2.toInt8.toInt32)), .val (.ref tb), .val (.int t9), .val (.int t10), .val (.int (1 : Int32))] [])) _
    refine own_blk X4 hx bl0_227_3 (own_hb hby bd0_227_3) (pc' := 234) (Ls' := #[.val (.int t0), .val (.int t1), .val (.int t2), .val (.int t3), .val (.int tc), .val (.int tc), .val (.int (1 : Int32)), .val (.int (t2.toInt8.toInt32)), .val (.ref tb), .val (.int t9), .val (.int t10), .val (.int (1 : Int32))]) (st' := []) rfl ?_
    refine own_blk X4 hx bl0_234_1 (own_hb hby bd0_234_1) (pc' := 236) (Ls' := #[.val (.int t0), .val (.int t1), .val (.int t2), .val (.int t3), .val (.int tc), .val (.int tc), .val (.int (1 : Int32)), .val (.int (t2.toInt8.toInt32)), .val (.ref tb), .val (.int t9), .val (.int t10), .val (.int (1 : Int32))]) (st' := [(.int (1 : Int32))]) rfl ?_
    refine XS.ifNo X4.here hx rfl (hb hby at_236) rfl ((if0 _ _).trans (feq (by decide : ¬ ((1 : Int32) = (0 : Int32)))).1) ?_
    show Steps p.tables e below (T4.setTop (mkF m 239 #[.val (.int t0), .val (.int t1), .val (.int t2), .val (.int t3), .val (.int tc), .val (.int tc), .val (.int (1 : Int32)), .val (.int (t2.toInt8.toInt32)), .val (.ref tb), .val (.int t9), .val (.int t10), .val (.int (1 : Int32))] [])) _
    refine own_blk X4 hx bl0_239_2 (own_hb hby bd0_239_2) (pc' := 242) (Ls' := #[.val (.int t0), .val (.int t1), .val (.int t2), .val (.int t3), .val (.int tc), .val (.int tc), .val (.int (1 : Int32)), .val (.int (t2.toInt8.toInt32)), .val (.ref tb), .val (.int t9), .val (.int t10), .val (.int (1 : Int32))]) (st' := [(.int (2 : Int32)), (.ref tb)]) rfl ?_
    refine X4.baloadBytes hx (j := (2 : Int32)) (v := (.int (f1_1_a2_2 tc (nar .byte (t2.toInt8.toInt32))))) (by rw [e4]; exact Ar5.1) (State.isArrayOf_alike hZ.alike Ar5.2.1) Ar5.2.2 hin5 hat5 (g := (mkF m 242 #[.val (.int t0), .val (.int t1), .val (.int t2), .val (.int t3), .val (.int tc), .val (.int tc), .val (.int (1 : Int32)), .val (.int (t2.toInt8.toInt32)), .val (.ref tb), .val (.int t9), .val (.int t10), .val (.int (1 : Int32))] [(.int (2 : Int32)), (.ref tb)])) rfl rfl (hb hby at_242) _ ?_
    show Steps p.tables e below (T4.setTop (mkF m 243 #[.val (.int t0), .val (.int t1), .val (.int t2), .val (.int t3), .val (.int tc), .val (.int tc), .val (.int (1 : Int32)), .val (.int (t2.toInt8.toInt32)), .val (.ref tb), .val (.int t9), .val (.int t10), .val (.int (1 : Int32))] [(.int (f1_1_a2_2 tc (nar .byte (t2.toInt8.toInt32))))])) _
    refine own_blk X4 hx bl0_243_4 (own_hb hby bd0_243_4) (pc' := 250) (Ls' := #[.val (.int t0), .val (.int t1), .val (.int t2), .val (.int t3), .val (.int tc), .val (.int tc), .val (.int (1 : Int32)), .val (.int (t2.toInt8.toInt32)), .val (.ref tb), .val (.int t9), .val (.int t10), .val (.int (1 : Int32))]) (st' := [(.int (t2.toInt8.toInt32)), (.int tc), (.int (1 : Int32)), (.int (2 : Int32)), (.int (f1_1_a2_2 tc (nar .byte (t2.toInt8.toInt32))))]) rfl ?_
    refine st6 _ ?_
    show Steps p.tables e below (T6.setTop (mkF m 253 #[.val (.int t0), .val (.int t1), .val (.int t2), .val (.int t3), .val (.int tc), .val (.int tc), .val (.int (1 : Int32)), .val (.int (t2.toInt8.toInt32)), .val (.ref tb), .val (.int t9), .val (.int t10), .val (.int (1 : Int32))] [(.int (f3 (2 : Int32) (1 : Int32) tc (t2.toInt8.toInt32))), (.int (f1_1_a2_2 tc (nar .byte (t2.toInt8.toInt32))))])) _
    refine XS.icmpNo X6.here hx rfl (hb hby at_253) rfl (teq (own_e1_2 tc t2 hp hp2)).2 ?_
    show Steps p.tables e below (T6.setTop (mkF m 256 #[.val (.int t0), .val (.int t1), .val (.int t2), .val (.int t3), .val (.int tc), .val (.int tc), .val (.int (1 : Int32)), .val (.int (t2.toInt8.toInt32)), .val (.ref tb), .val (.int t9), .val (.int t10), .val (.int (1 : Int32))] [])) _
    refine own_blk X6 hx bl0_256_3 (own_hb hby bd0_256_3) (pc' := 263) (Ls' := #[.val (.int t0), .val (.int t1), .val (.int t2), .val (.int t3), .val (.int tc), .val (.int tc), .val (.int (1 : Int32)), .val (.int (t2.toInt8.toInt32)), .val (.ref tb), .val (.int t9), .val (.int t10), .val (.int (1 : Int32))]) (st' := []) rfl ?_
    refine own_blk X6 hx bl0_263_1 (own_hb hby bd0_263_1) (pc' := 265) (Ls' := #[.val (.int t0), .val (.int t1), .val (.int t2), .val (.int t3), .val (.int tc), .val (.int tc), .val (.int (1 : Int32)), .val (.int (t2.toInt8.toInt32)), .val (.ref tb), .val (.int t9), .val (.int t10), .val (.int (1 : Int32))]) (st' := [(.int (1 : Int32))]) rfl ?_
    refine XS.ifNo X6.here hx rfl (hb hby at_265) rfl ((if0 _ _).trans (feq (by decide : ¬ ((1 : Int32) = (0 : Int32)))).1) ?_
    show Steps p.tables e below (T6.setTop (mkF m 268 #[.val (.int t0), .val (.int t1), .val (.int t2), .val (.int t3), .val (.int tc), .val (.int tc), .val (.int (1 : Int32)), .val (.int (t2.toInt8.toInt32)), .val (.ref tb), .val (.int t9), .val (.int t10), .val (.int (1 : Int32))] [])) _
    refine own_blk X6 hx bl0_268_2 (own_hb hby bd0_268_2) (pc' := 271) (Ls' := #[.val (.int t0), .val (.int t1), .val (.int t2), .val (.int t3), .val (.int tc), .val (.int tc), .val (.int (1 : Int32)), .val (.int (t2.toInt8.toInt32)), .val (.ref tb), .val (.int t9), .val (.int t10), .val (.int (1 : Int32))]) (st' := [(.int (3 : Int32)), (.ref tb)]) rfl ?_
    refine X6.baloadBytes hx (j := (3 : Int32)) (v := (.int (f1_1_a2_3 tc (nar .byte (t2.toInt8.toInt32))))) (by rw [e6]; exact Ar7.1) (State.isArrayOf_alike hZ.alike Ar7.2.1) Ar7.2.2 hin7 hat7 (g := (mkF m 271 #[.val (.int t0), .val (.int t1), .val (.int t2), .val (.int t3), .val (.int tc), .val (.int tc), .val (.int (1 : Int32)), .val (.int (t2.toInt8.toInt32)), .val (.ref tb), .val (.int t9), .val (.int t10), .val (.int (1 : Int32))] [(.int (3 : Int32)), (.ref tb)])) rfl rfl (hb hby at_271) _ ?_
    show Steps p.tables e below (T6.setTop (mkF m 272 #[.val (.int t0), .val (.int t1), .val (.int t2), .val (.int t3), .val (.int tc), .val (.int tc), .val (.int (1 : Int32)), .val (.int (t2.toInt8.toInt32)), .val (.ref tb), .val (.int t9), .val (.int t10), .val (.int (1 : Int32))] [(.int (f1_1_a2_3 tc (nar .byte (t2.toInt8.toInt32))))])) _
    refine own_blk X6 hx bl0_272_4 (own_hb hby bd0_272_4) (pc' := 279) (Ls' := #[.val (.int t0), .val (.int t1), .val (.int t2), .val (.int t3), .val (.int tc), .val (.int tc), .val (.int (1 : Int32)), .val (.int (t2.toInt8.toInt32)), .val (.ref tb), .val (.int t9), .val (.int t10), .val (.int (1 : Int32))]) (st' := [(.int (t2.toInt8.toInt32)), (.int tc), (.int (1 : Int32)), (.int (3 : Int32)), (.int (f1_1_a2_3 tc (nar .byte (t2.toInt8.toInt32))))]) rfl ?_
    refine st8 _ ?_
    show Steps p.tables e below (T8.setTop (mkF m 282 #[.val (.int t0), .val (.int t1), .val (.int t2), .val (.int t3), .val (.int tc), .val (.int tc), .val (.int (1 : Int32)), .val (.int (t2.toInt8.toInt32)), .val (.ref tb), .val (.int t9), .val (.int t10), .val (.int (1 : Int32))] [(.int (f3 (3 : Int32) (1 : Int32) tc (t2.toInt8.toInt32))), (.int (f1_1_a2_3 tc (nar .byte (t2.toInt8.toInt32))))])) _
    refine XS.icmpNo X8.here hx rfl (hb hby at_282) rfl (teq (own_e1_3 tc t2 hp hp2)).2 ?_
    show Steps p.tables e below (T8.setTop (mkF m 285 #[.val (.int t0), .val (.int t1), .val (.int t2), .val (.int t3), .val (.int tc), .val (.int tc), .val (.int (1 : Int32)), .val (.int (t2.toInt8.toInt32)), .val (.ref tb), .val (.int t9), .val (.int t10), .val (.int (1 : Int32))] [])) _
    refine own_blk X8 hx bl0_285_3 (own_hb hby bd0_285_3) (pc' := 292) (Ls' := #[.val (.int t0), .val (.int t1), .val (.int t2), .val (.int t3), .val (.int tc), .val (.int tc), .val (.int (1 : Int32)), .val (.int (t2.toInt8.toInt32)), .val (.ref tb), .val (.int t9), .val (.int t10), .val (.int (1 : Int32))]) (st' := []) rfl ?_
    refine own_blk X8 hx bl0_292_1 (own_hb hby bd0_292_1) (pc' := 294) (Ls' := #[.val (.int t0), .val (.int t1), .val (.int t2), .val (.int t3), .val (.int tc), .val (.int tc), .val (.int (1 : Int32)), .val (.int (t2.toInt8.toInt32)), .val (.ref tb), .val (.int t9), .val (.int t10), .val (.int (1 : Int32))]) (st' := [(.int (1 : Int32))]) rfl ?_
    refine XS.ifNo X8.here hx rfl (hb hby at_294) rfl ((if0 _ _).trans (feq (by decide : ¬ ((1 : Int32) = (0 : Int32)))).1) ?_
    show Steps p.tables e below (T8.setTop (mkF m 297 #[.val (.int t0), .val (.int t1), .val (.int t2), .val (.int t3), .val (.int tc), .val (.int tc), .val (.int (1 : Int32)), .val (.int (t2.toInt8.toInt32)), .val (.ref tb), .val (.int t9), .val (.int t10), .val (.int (1 : Int32))] [])) _
    refine own_blk X8 hx bl0_297_2 (own_hb hby bd0_297_2) (pc' := 300) (Ls' := #[.val (.int t0), .val (.int t1), .val (.int t2), .val (.int t3), .val (.int tc), .val (.int tc), .val (.int (1 : Int32)), .val (.int (t2.toInt8.toInt32)), .val (.ref tb), .val (.int t9), .val (.int t10), .val (.int (1 : Int32))]) (st' := [(.int (4 : Int32)), (.ref tb)]) rfl ?_
    refine X8.baloadBytes hx (j := (4 : Int32)) (v := (.int (f1_1_a2_4 tc (nar .byte (t2.toInt8.toInt32))))) (by rw [e8]; exact Ar9.1) (State.isArrayOf_alike hZ.alike Ar9.2.1) Ar9.2.2 hin9 hat9 (g := (mkF m 300 #[.val (.int t0), .val (.int t1), .val (.int t2), .val (.int t3), .val (.int tc), .val (.int tc), .val (.int (1 : Int32)), .val (.int (t2.toInt8.toInt32)), .val (.ref tb), .val (.int t9), .val (.int t10), .val (.int (1 : Int32))] [(.int (4 : Int32)), (.ref tb)])) rfl rfl (hb hby at_300) _ ?_
    show Steps p.tables e below (T8.setTop (mkF m 301 #[.val (.int t0), .val (.int t1), .val (.int t2), .val (.int t3), .val (.int tc), .val (.int tc), .val (.int (1 : Int32)), .val (.int (t2.toInt8.toInt32)), .val (.ref tb), .val (.int t9), .val (.int t10), .val (.int (1 : Int32))] [(.int (f1_1_a2_4 tc (nar .byte (t2.toInt8.toInt32))))])) _
    refine own_blk X8 hx bl0_301_4 (own_hb hby bd0_301_4) (pc' := 308) (Ls' := #[.val (.int t0), .val (.int t1), .val (.int t2), .val (.int t3), .val (.int tc), .val (.int tc), .val (.int (1 : Int32)), .val (.int (t2.toInt8.toInt32)), .val (.ref tb), .val (.int t9), .val (.int t10), .val (.int (1 : Int32))]) (st' := [(.int (t2.toInt8.toInt32)), (.int tc), (.int (1 : Int32)), (.int (4 : Int32)), (.int (f1_1_a2_4 tc (nar .byte (t2.toInt8.toInt32))))]) rfl ?_
    refine st10 _ ?_
    show Steps p.tables e below (T10.setTop (mkF m 311 #[.val (.int t0), .val (.int t1), .val (.int t2), .val (.int t3), .val (.int tc), .val (.int tc), .val (.int (1 : Int32)), .val (.int (t2.toInt8.toInt32)), .val (.ref tb), .val (.int t9), .val (.int t10), .val (.int (1 : Int32))] [(.int (f3 (4 : Int32) (1 : Int32) tc (t2.toInt8.toInt32))), (.int (f1_1_a2_4 tc (nar .byte (t2.toInt8.toInt32))))])) _
    refine XS.icmpNo X10.here hx rfl (hb hby at_311) rfl (teq (own_e1_4 tc t2 hp hp2)).2 ?_
    show Steps p.tables e below (T10.setTop (mkF m 314 #[.val (.int t0), .val (.int t1), .val (.int t2), .val (.int t3), .val (.int tc), .val (.int tc), .val (.int (1 : Int32)), .val (.int (t2.toInt8.toInt32)), .val (.ref tb), .val (.int t9), .val (.int t10), .val (.int (1 : Int32))] [])) _
    refine own_blk X10 hx bl0_314_3 (own_hb hby bd0_314_3) (pc' := 321) (Ls' := #[.val (.int t0), .val (.int t1), .val (.int t2), .val (.int t3), .val (.int tc), .val (.int tc), .val (.int (1 : Int32)), .val (.int (t2.toInt8.toInt32)), .val (.ref tb), .val (.int t9), .val (.int t10), .val (.int (1 : Int32))]) (st' := []) rfl ?_
    refine own_blk X10 hx bl0_321_1 (own_hb hby bd0_321_1) (pc' := 323) (Ls' := #[.val (.int t0), .val (.int t1), .val (.int t2), .val (.int t3), .val (.int tc), .val (.int tc), .val (.int (1 : Int32)), .val (.int (t2.toInt8.toInt32)), .val (.ref tb), .val (.int t9), .val (.int t10), .val (.int (1 : Int32))]) (st' := [(.int (1 : Int32))]) rfl ?_
    refine XS.ifNo X10.here hx rfl (hb hby at_323) rfl ((if0 _ _).trans (feq (by decide : ¬ ((1 : Int32) = (0 : Int32)))).1) ?_
    show Steps p.tables e below (T10.setTop (mkF m 326 #[.val (.int t0), .val (.int t1), .val (.int t2), .val (.int t3), .val (.int tc), .val (.int tc), .val (.int (1 : Int32)), .val (.int (t2.toInt8.toInt32)), .val (.ref tb), .val (.int t9), .val (.int t10), .val (.int (1 : Int32))] [])) _
    refine own_blk X10 hx bl0_326_2 (own_hb hby bd0_326_2) (pc' := 329) (Ls' := #[.val (.int t0), .val (.int t1), .val (.int t2), .val (.int t3), .val (.int tc), .val (.int tc), .val (.int (1 : Int32)), .val (.int (t2.toInt8.toInt32)), .val (.ref tb), .val (.int t9), .val (.int t10), .val (.int (1 : Int32))]) (st' := [(.int (5 : Int32)), (.ref tb)]) rfl ?_
    refine X10.baloadBytes hx (j := (5 : Int32)) (v := (.int (f1_1_a2_5 tc (nar .byte (t2.toInt8.toInt32))))) (by rw [e10]; exact Ar11.1) (State.isArrayOf_alike hZ.alike Ar11.2.1) Ar11.2.2 hin11 hat11 (g := (mkF m 329 #[.val (.int t0), .val (.int t1), .val (.int t2), .val (.int t3), .val (.int tc), .val (.int tc), .val (.int (1 : Int32)), .val (.int (t2.toInt8.toInt32)), .val (.ref tb), .val (.int t9), .val (.int t10), .val (.int (1 : Int32))] [(.int (5 : Int32)), (.ref tb)])) rfl rfl (hb hby at_329) _ ?_
    show Steps p.tables e below (T10.setTop (mkF m 330 #[.val (.int t0), .val (.int t1), .val (.int t2), .val (.int t3), .val (.int tc), .val (.int tc), .val (.int (1 : Int32)), .val (.int (t2.toInt8.toInt32)), .val (.ref tb), .val (.int t9), .val (.int t10), .val (.int (1 : Int32))] [(.int (f1_1_a2_5 tc (nar .byte (t2.toInt8.toInt32))))])) _
    refine own_blk X10 hx bl0_330_4 (own_hb hby bd0_330_4) (pc' := 337) (Ls' := #[.val (.int t0), .val (.int t1), .val (.int t2), .val (.int t3), .val (.int tc), .val (.int tc), .val (.int (1 : Int32)), .val (.int (t2.toInt8.toInt32)), .val (.ref tb), .val (.int t9), .val (.int t10), .val (.int (1 : Int32))]) (st' := [(.int (t2.toInt8.toInt32)), (.int tc), (.int (1 : Int32)), (.int (5 : Int32)), (.int (f1_1_a2_5 tc (nar .byte (t2.toInt8.toInt32))))]) rfl ?_
    refine st12 _ ?_
    show Steps p.tables e below (T12.setTop (mkF m 340 #[.val (.int t0), .val (.int t1), .val (.int t2), .val (.int t3), .val (.int tc), .val (.int tc), .val (.int (1 : Int32)), .val (.int (t2.toInt8.toInt32)), .val (.ref tb), .val (.int t9), .val (.int t10), .val (.int (1 : Int32))] [(.int (f3 (5 : Int32) (1 : Int32) tc (t2.toInt8.toInt32))), (.int (f1_1_a2_5 tc (nar .byte (t2.toInt8.toInt32))))])) _
    refine XS.icmpNo X12.here hx rfl (hb hby at_340) rfl (teq (own_e1_5 tc t2 hp hp2)).2 ?_
    show Steps p.tables e below (T12.setTop (mkF m 343 #[.val (.int t0), .val (.int t1), .val (.int t2), .val (.int t3), .val (.int tc), .val (.int tc), .val (.int (1 : Int32)), .val (.int (t2.toInt8.toInt32)), .val (.ref tb), .val (.int t9), .val (.int t10), .val (.int (1 : Int32))] [])) _
    refine own_blk X12 hx bl0_343_3 (own_hb hby bd0_343_3) (pc' := 350) (Ls' := #[.val (.int t0), .val (.int t1), .val (.int t2), .val (.int t3), .val (.int tc), .val (.int tc), .val (.int (1 : Int32)), .val (.int (t2.toInt8.toInt32)), .val (.ref tb), .val (.int t9), .val (.int t10), .val (.int (1 : Int32))]) (st' := []) rfl ?_
    refine own_blk X12 hx bl0_350_1 (own_hb hby bd0_350_1) (pc' := 352) (Ls' := #[.val (.int t0), .val (.int t1), .val (.int t2), .val (.int t3), .val (.int tc), .val (.int tc), .val (.int (1 : Int32)), .val (.int (t2.toInt8.toInt32)), .val (.ref tb), .val (.int t9), .val (.int t10), .val (.int (1 : Int32))]) (st' := [(.int (1 : Int32))]) rfl ?_
    refine XS.ifNo X12.here hx rfl (hb hby at_352) rfl ((if0 _ _).trans (feq (by decide : ¬ ((1 : Int32) = (0 : Int32)))).1) ?_
    show Steps p.tables e below (T12.setTop (mkF m 355 #[.val (.int t0), .val (.int t1), .val (.int t2), .val (.int t3), .val (.int tc), .val (.int tc), .val (.int (1 : Int32)), .val (.int (t2.toInt8.toInt32)), .val (.ref tb), .val (.int t9), .val (.int t10), .val (.int (1 : Int32))] [])) _
    refine own_blk X12 hx bl0_355_2 (own_hb hby bd0_355_2) (pc' := 359) (Ls' := #[.val (.int t0), .val (.int t1), .val (.int t2), .val (.int t3), .val (.int tc), .val (.int tc), .val (.int (1 : Int32)), .val (.int (t2.toInt8.toInt32)), .val (.ref tb), .val (.int t9), .val (.int t10), .val (.int (1 : Int32))]) (st' := [(.int (6 : Int32)), (.ref tb)]) rfl ?_
    refine X12.baloadBytes hx (j := (6 : Int32)) (v := (.int (f1_1_a2_6 tc (nar .byte (t2.toInt8.toInt32))))) (by rw [e12]; exact Ar13.1) (State.isArrayOf_alike hZ.alike Ar13.2.1) Ar13.2.2 hin13 hat13 (g := (mkF m 359 #[.val (.int t0), .val (.int t1), .val (.int t2), .val (.int t3), .val (.int tc), .val (.int tc), .val (.int (1 : Int32)), .val (.int (t2.toInt8.toInt32)), .val (.ref tb), .val (.int t9), .val (.int t10), .val (.int (1 : Int32))] [(.int (6 : Int32)), (.ref tb)])) rfl rfl (hb hby at_359) _ ?_
    show Steps p.tables e below (T12.setTop (mkF m 360 #[.val (.int t0), .val (.int t1), .val (.int t2), .val (.int t3), .val (.int tc), .val (.int tc), .val (.int (1 : Int32)), .val (.int (t2.toInt8.toInt32)), .val (.ref tb), .val (.int t9), .val (.int t10), .val (.int (1 : Int32))] [(.int (f1_1_a2_6 tc (nar .byte (t2.toInt8.toInt32))))])) _
    refine own_blk X12 hx bl0_360_4 (own_hb hby bd0_360_4) (pc' := 368) (Ls' := #[.val (.int t0), .val (.int t1), .val (.int t2), .val (.int t3), .val (.int tc), .val (.int tc), .val (.int (1 : Int32)), .val (.int (t2.toInt8.toInt32)), .val (.ref tb), .val (.int t9), .val (.int t10), .val (.int (1 : Int32))]) (st' := [(.int (t2.toInt8.toInt32)), (.int tc), (.int (1 : Int32)), (.int (6 : Int32)), (.int (f1_1_a2_6 tc (nar .byte (t2.toInt8.toInt32))))]) rfl ?_
    refine st14 _ ?_
    show Steps p.tables e below (T14.setTop (mkF m 371 #[.val (.int t0), .val (.int t1), .val (.int t2), .val (.int t3), .val (.int tc), .val (.int tc), .val (.int (1 : Int32)), .val (.int (t2.toInt8.toInt32)), .val (.ref tb), .val (.int t9), .val (.int t10), .val (.int (1 : Int32))] [(.int (f3 (6 : Int32) (1 : Int32) tc (t2.toInt8.toInt32))), (.int (f1_1_a2_6 tc (nar .byte (t2.toInt8.toInt32))))])) _
    refine XS.icmpNo X14.here hx rfl (hb hby at_371) rfl (teq (own_e1_6 tc t2 hp hp2)).2 ?_
    show Steps p.tables e below (T14.setTop (mkF m 374 #[.val (.int t0), .val (.int t1), .val (.int t2), .val (.int t3), .val (.int tc), .val (.int tc), .val (.int (1 : Int32)), .val (.int (t2.toInt8.toInt32)), .val (.ref tb), .val (.int t9), .val (.int t10), .val (.int (1 : Int32))] [])) _
    refine own_blk X14 hx bl0_374_3 (own_hb hby bd0_374_3) (pc' := 381) (Ls' := #[.val (.int t0), .val (.int t1), .val (.int t2), .val (.int t3), .val (.int tc), .val (.int tc), .val (.int (1 : Int32)), .val (.int (t2.toInt8.toInt32)), .val (.ref tb), .val (.int t9), .val (.int t10), .val (.int (1 : Int32))]) (st' := []) rfl ?_
    refine own_blk X14 hx bl0_381_1 (own_hb hby bd0_381_1) (pc' := 383) (Ls' := #[.val (.int t0), .val (.int t1), .val (.int t2), .val (.int t3), .val (.int tc), .val (.int tc), .val (.int (1 : Int32)), .val (.int (t2.toInt8.toInt32)), .val (.ref tb), .val (.int t9), .val (.int t10), .val (.int (1 : Int32))]) (st' := [(.int (1 : Int32))]) rfl ?_
    refine XS.ifNo X14.here hx rfl (hb hby at_383) rfl ((if0 _ _).trans (feq (by decide : ¬ ((1 : Int32) = (0 : Int32)))).1) ?_
    show Steps p.tables e below (T14.setTop (mkF m 386 #[.val (.int t0), .val (.int t1), .val (.int t2), .val (.int t3), .val (.int tc), .val (.int tc), .val (.int (1 : Int32)), .val (.int (t2.toInt8.toInt32)), .val (.ref tb), .val (.int t9), .val (.int t10), .val (.int (1 : Int32))] [])) _
    refine own_blk X14 hx bl0_386_2 (own_hb hby bd0_386_2) (pc' := 390) (Ls' := #[.val (.int t0), .val (.int t1), .val (.int t2), .val (.int t3), .val (.int tc), .val (.int tc), .val (.int (1 : Int32)), .val (.int (t2.toInt8.toInt32)), .val (.ref tb), .val (.int t9), .val (.int t10), .val (.int (1 : Int32))]) (st' := [(.int (7 : Int32)), (.ref tb)]) rfl ?_
    refine X14.baloadBytes hx (j := (7 : Int32)) (v := (.int (f1_1_a2_7 tc (nar .byte (t2.toInt8.toInt32))))) (by rw [e14]; exact Ar15.1) (State.isArrayOf_alike hZ.alike Ar15.2.1) Ar15.2.2 hin15 hat15 (g := (mkF m 390 #[.val (.int t0), .val (.int t1), .val (.int t2), .val (.int t3), .val (.int tc), .val (.int tc), .val (.int (1 : Int32)), .val (.int (t2.toInt8.toInt32)), .val (.ref tb), .val (.int t9), .val (.int t10), .val (.int (1 : Int32))] [(.int (7 : Int32)), (.ref tb)])) rfl rfl (hb hby at_390) _ ?_
    show Steps p.tables e below (T14.setTop (mkF m 391 #[.val (.int t0), .val (.int t1), .val (.int t2), .val (.int t3), .val (.int tc), .val (.int tc), .val (.int (1 : Int32)), .val (.int (t2.toInt8.toInt32)), .val (.ref tb), .val (.int t9), .val (.int t10), .val (.int (1 : Int32))] [(.int (f1_1_a2_7 tc (nar .byte (t2.toInt8.toInt32))))])) _
    refine own_blk X14 hx bl0_391_4 (own_hb hby bd0_391_4) (pc' := 399) (Ls' := #[.val (.int t0), .val (.int t1), .val (.int t2), .val (.int t3), .val (.int tc), .val (.int tc), .val (.int (1 : Int32)), .val (.int (t2.toInt8.toInt32)), .val (.ref tb), .val (.int t9), .val (.int t10), .val (.int (1 : Int32))]) (st' := [(.int (t2.toInt8.toInt32)), (.int tc), (.int (1 : Int32)), (.int (7 : Int32)), (.int (f1_1_a2_7 tc (nar .byte (t2.toInt8.toInt32))))]) rfl ?_
    refine st16 _ ?_
    show Steps p.tables e below (T16.setTop (mkF m 402 #[.val (.int t0), .val (.int t1), .val (.int t2), .val (.int t3), .val (.int tc), .val (.int tc), .val (.int (1 : Int32)), .val (.int (t2.toInt8.toInt32)), .val (.ref tb), .val (.int t9), .val (.int t10), .val (.int (1 : Int32))] [(.int (f3 (7 : Int32) (1 : Int32) tc (t2.toInt8.toInt32))), (.int (f1_1_a2_7 tc (nar .byte (t2.toInt8.toInt32))))])) _
    refine XS.icmpNo X16.here hx rfl (hb hby at_402) rfl (teq (own_e1_7 tc t2 hp hp2)).2 ?_
    show Steps p.tables e below (T16.setTop (mkF m 405 #[.val (.int t0), .val (.int t1), .val (.int t2), .val (.int t3), .val (.int tc), .val (.int tc), .val (.int (1 : Int32)), .val (.int (t2.toInt8.toInt32)), .val (.ref tb), .val (.int t9), .val (.int t10), .val (.int (1 : Int32))] [])) _
    refine own_blk X16 hx bl0_405_3 (own_hb hby bd0_405_3) (pc' := 412) (Ls' := #[.val (.int t0), .val (.int t1), .val (.int t2), .val (.int t3), .val (.int tc), .val (.int tc), .val (.int (1 : Int32)), .val (.int (t2.toInt8.toInt32)), .val (.ref tb), .val (.int t9), .val (.int t10), .val (.int (1 : Int32))]) (st' := []) rfl ?_
    refine own_blk X16 hx bl0_412_1 (own_hb hby bd0_412_1) (pc' := 414) (Ls' := #[.val (.int t0), .val (.int t1), .val (.int t2), .val (.int t3), .val (.int tc), .val (.int tc), .val (.int (1 : Int32)), .val (.int (t2.toInt8.toInt32)), .val (.ref tb), .val (.int t9), .val (.int t10), .val (.int (1 : Int32))]) (st' := [(.int (1 : Int32))]) rfl ?_
    refine XS.ifNo X16.here hx rfl (hb hby at_414) rfl ((if0 _ _).trans (feq (by decide : ¬ ((1 : Int32) = (0 : Int32)))).1) ?_
    show Steps p.tables e below (T16.setTop (mkF m 417 #[.val (.int t0), .val (.int t1), .val (.int t2), .val (.int t3), .val (.int tc), .val (.int tc), .val (.int (1 : Int32)), .val (.int (t2.toInt8.toInt32)), .val (.ref tb), .val (.int t9), .val (.int t10), .val (.int (1 : Int32))] [])) _
    refine own_blk X16 hx bl0_417_2 (own_hb hby bd0_417_2) (pc' := 421) (Ls' := #[.val (.int t0), .val (.int t1), .val (.int t2), .val (.int t3), .val (.int tc), .val (.int tc), .val (.int (1 : Int32)), .val (.int (t2.toInt8.toInt32)), .val (.ref tb), .val (.int t9), .val (.int t10), .val (.int (1 : Int32))]) (st' := [(.int (8 : Int32)), (.ref tb)]) rfl ?_
    refine X16.baloadBytes hx (j := (8 : Int32)) (v := (.int (f1_1_a2_8 tc (nar .byte (t2.toInt8.toInt32))))) (by rw [e16]; exact Ar17.1) (State.isArrayOf_alike hZ.alike Ar17.2.1) Ar17.2.2 hin17 hat17 (g := (mkF m 421 #[.val (.int t0), .val (.int t1), .val (.int t2), .val (.int t3), .val (.int tc), .val (.int tc), .val (.int (1 : Int32)), .val (.int (t2.toInt8.toInt32)), .val (.ref tb), .val (.int t9), .val (.int t10), .val (.int (1 : Int32))] [(.int (8 : Int32)), (.ref tb)])) rfl rfl (hb hby at_421) _ ?_
    show Steps p.tables e below (T16.setTop (mkF m 422 #[.val (.int t0), .val (.int t1), .val (.int t2), .val (.int t3), .val (.int tc), .val (.int tc), .val (.int (1 : Int32)), .val (.int (t2.toInt8.toInt32)), .val (.ref tb), .val (.int t9), .val (.int t10), .val (.int (1 : Int32))] [(.int (f1_1_a2_8 tc (nar .byte (t2.toInt8.toInt32))))])) _
    refine own_blk X16 hx bl0_422_4 (own_hb hby bd0_422_4) (pc' := 430) (Ls' := #[.val (.int t0), .val (.int t1), .val (.int t2), .val (.int t3), .val (.int tc), .val (.int tc), .val (.int (1 : Int32)), .val (.int (t2.toInt8.toInt32)), .val (.ref tb), .val (.int t9), .val (.int t10), .val (.int (1 : Int32))]) (st' := [(.int (t2.toInt8.toInt32)), (.int tc), (.int (1 : Int32)), (.int (8 : Int32)), (.int (f1_1_a2_8 tc (nar .byte (t2.toInt8.toInt32))))]) rfl ?_
    refine st18 _ ?_
    show Steps p.tables e below (T18.setTop (mkF m 433 #[.val (.int t0), .val (.int t1), .val (.int t2), .val (.int t3), .val (.int tc), .val (.int tc), .val (.int (1 : Int32)), .val (.int (t2.toInt8.toInt32)), .val (.ref tb), .val (.int t9), .val (.int t10), .val (.int (1 : Int32))] [(.int (f3 (8 : Int32) (1 : Int32) tc (t2.toInt8.toInt32))), (.int (f1_1_a2_8 tc (nar .byte (t2.toInt8.toInt32))))])) _
    refine XS.icmpNo X18.here hx rfl (hb hby at_433) rfl (teq (own_e1_8 tc t2 hp hp2)).2 ?_
    show Steps p.tables e below (T18.setTop (mkF m 436 #[.val (.int t0), .val (.int t1), .val (.int t2), .val (.int t3), .val (.int tc), .val (.int tc), .val (.int (1 : Int32)), .val (.int (t2.toInt8.toInt32)), .val (.ref tb), .val (.int t9), .val (.int t10), .val (.int (1 : Int32))] [])) _
    refine own_blk X18 hx bl0_436_3 (own_hb hby bd0_436_3) (pc' := 443) (Ls' := #[.val (.int t0), .val (.int t1), .val (.int t2), .val (.int t3), .val (.int tc), .val (.int tc), .val (.int (1 : Int32)), .val (.int (t2.toInt8.toInt32)), .val (.ref tb), .val (.int t9), .val (.int t10), .val (.int (1 : Int32))]) (st' := []) rfl ?_
    refine own_blk X18 hx bl0_443_1 (own_hb hby bd0_443_1) (pc' := 445) (Ls' := #[.val (.int t0), .val (.int t1), .val (.int t2), .val (.int t3), .val (.int tc), .val (.int tc), .val (.int (1 : Int32)), .val (.int (t2.toInt8.toInt32)), .val (.ref tb), .val (.int t9), .val (.int t10), .val (.int (1 : Int32))]) (st' := [(.int (1 : Int32))]) rfl ?_
    refine XS.ifNo X18.here hx rfl (hb hby at_445) rfl ((if0 _ _).trans (feq (by decide : ¬ ((1 : Int32) = (0 : Int32)))).1) ?_
    show Steps p.tables e below (T18.setTop (mkF m 448 #[.val (.int t0), .val (.int t1), .val (.int t2), .val (.int t3), .val (.int tc), .val (.int tc), .val (.int (1 : Int32)), .val (.int (t2.toInt8.toInt32)), .val (.ref tb), .val (.int t9), .val (.int t10), .val (.int (1 : Int32))] [])) _
    refine own_blk X18 hx bl0_448_2 (own_hb hby bd0_448_2) (pc' := 452) (Ls' := #[.val (.int t0), .val (.int t1), .val (.int t2), .val (.int t3), .val (.int tc), .val (.int tc), .val (.int (1 : Int32)), .val (.int (t2.toInt8.toInt32)), .val (.ref tb), .val (.int t9), .val (.int t10), .val (.int (1 : Int32))]) (st' := [(.int (9 : Int32)), (.ref tb)]) rfl ?_
    refine X18.baloadBytes hx (j := (9 : Int32)) (v := (.int (f1_1_a2_9 tc (nar .byte (t2.toInt8.toInt32))))) (by rw [e18]; exact Ar19.1) (State.isArrayOf_alike hZ.alike Ar19.2.1) Ar19.2.2 hin19 hat19 (g := (mkF m 452 #[.val (.int t0), .val (.int t1), .val (.int t2), .val (.int t3), .val (.int tc), .val (.int tc), .val (.int (1 : Int32)), .val (.int (t2.toInt8.toInt32)), .val (.ref tb), .val (.int t9), .val (.int t10), .val (.int (1 : Int32))] [(.int (9 : Int32)), (.ref tb)])) rfl rfl (hb hby at_452) _ ?_
    show Steps p.tables e below (T18.setTop (mkF m 453 #[.val (.int t0), .val (.int t1), .val (.int t2), .val (.int t3), .val (.int tc), .val (.int tc), .val (.int (1 : Int32)), .val (.int (t2.toInt8.toInt32)), .val (.ref tb), .val (.int t9), .val (.int t10), .val (.int (1 : Int32))] [(.int (f1_1_a2_9 tc (nar .byte (t2.toInt8.toInt32))))])) _
    refine own_blk X18 hx bl0_453_4 (own_hb hby bd0_453_4) (pc' := 461) (Ls' := #[.val (.int t0), .val (.int t1), .val (.int t2), .val (.int t3), .val (.int tc), .val (.int tc), .val (.int (1 : Int32)), .val (.int (t2.toInt8.toInt32)), .val (.ref tb), .val (.int t9), .val (.int t10), .val (.int (1 : Int32))]) (st' := [(.int (t2.toInt8.toInt32)), (.int tc), (.int (1 : Int32)), (.int (9 : Int32)), (.int (f1_1_a2_9 tc (nar .byte (t2.toInt8.toInt32))))]) rfl ?_
    refine st20 _ ?_
    show Steps p.tables e below (T20.setTop (mkF m 464 #[.val (.int t0), .val (.int t1), .val (.int t2), .val (.int t3), .val (.int tc), .val (.int tc), .val (.int (1 : Int32)), .val (.int (t2.toInt8.toInt32)), .val (.ref tb), .val (.int t9), .val (.int t10), .val (.int (1 : Int32))] [(.int (f3 (9 : Int32) (1 : Int32) tc (t2.toInt8.toInt32))), (.int (f1_1_a2_9 tc (nar .byte (t2.toInt8.toInt32))))])) _
    refine XS.icmpNo X20.here hx rfl (hb hby at_464) rfl (teq (own_e1_9 tc t2 hp hp2)).2 ?_
    show Steps p.tables e below (T20.setTop (mkF m 467 #[.val (.int t0), .val (.int t1), .val (.int t2), .val (.int t3), .val (.int tc), .val (.int tc), .val (.int (1 : Int32)), .val (.int (t2.toInt8.toInt32)), .val (.ref tb), .val (.int t9), .val (.int t10), .val (.int (1 : Int32))] [])) _
    refine own_blk X20 hx bl0_467_3 (own_hb hby bd0_467_3) (pc' := 474) (Ls' := #[.val (.int t0), .val (.int t1), .val (.int t2), .val (.int t3), .val (.int tc), .val (.int tc), .val (.int (1 : Int32)), .val (.int (t2.toInt8.toInt32)), .val (.ref tb), .val (.int t9), .val (.int t10), .val (.int (1 : Int32))]) (st' := []) rfl ?_
    refine own_blk X20 hx bl0_474_1 (own_hb hby bd0_474_1) (pc' := 476) (Ls' := #[.val (.int t0), .val (.int t1), .val (.int t2), .val (.int t3), .val (.int tc), .val (.int tc), .val (.int (1 : Int32)), .val (.int (t2.toInt8.toInt32)), .val (.ref tb), .val (.int t9), .val (.int t10), .val (.int (1 : Int32))]) (st' := [(.int (1 : Int32))]) rfl ?_
    exact retN X20 hx (t := .boolean) hret (by simp) (hb hby at_476) hr
  · exact ⟨by rw [fB1], N20⟩
def fA1 (t0 : Int32) (t1 : Int32) (t2 : Int32) (t3 : Int32) (tc : Int32) : Int32 := (if (f2 tc) = (0 : Int32) then (fB1 t0 t1 t2 t3 tc (f1_1 tc (nar .byte (t2.toInt8.toInt32))) (6 : Int32)) else (fB1 t0 t1 t2 t3 tc (f1_1 tc (nar .byte (t2.toInt8.toInt32))) (2 : Int32)))
set_option maxRecDepth 65536 in
set_option maxHeartbeats 40000000 in
theorem tlA1 {p : Program} {l : Launch} {e : Env} {s : State} {m : MethodId} {args : Array Value} {below : List Frame} {meth : Method} {c : Code} {s₁ T0 : State} {locs : List Loc} {Z : State} {a0 : Array Value} {h0 : Heap} {n0 : Nat} {E : JFrame} (t0 : Int32) (t1 : Int32) (t2 : Int32) (t3 : Int32) (tc : Int32) (w1 : Addr) (cl1 : Cell)
    (X0 : Stand p l e room_1 s m args below meth c T0 locs 0 0) (hx : p.tables.exec = Jvm.exec) (hZ : Z.Warmed39 s.vm) (hw : ∀ d ∈ tables_1, d.before a0 Z = true) (hby : c.code = code) (hml : c.maxLocals = 12) (hown : s.vm.findClass "com/example/endcon/endcon/rules/LineTextEscapePinLaw" = some m.cls) (hret : meth.sig.returnType = some .boolean) (hlk : meth.locks = false) (e0 : T0.heap = h0) (N0 : Fr n0 locs) (Z0 : n0 ≤ h0.size)
    (pre0 : ∀ t, Steps p.tables e below (T0.setTop (mkF m 58 #[.val (.int t0), .val (.int t1), .val (.int t2), .val (.int t3), .val (.int tc), .val (.int tc), .val (.int (1 : Int32)), .unset, .unset, .unset, .unset, .unset] [])) t → Steps p.tables e below (s₁.setTop E) t) (S_H : Sta Z h0 "com/example/endcon/endcon/rules/LineText" "HEX_DIGITS" "[B" (.ref w1)) (Ar_w1 : Arr Z h0 w1 cl1 .byte) (sz1 : cl1.slots.size = (16 : Int32).toNatClampNeg) (hv : ∀ j : Int32, ¬ j < 0 → j < 16 → cl1.slots[j.toNatClampNeg]? = some (.int (own_tab j))) (hp : ¬ (tc < 0)) (hp2 : tc < 65536) :
    ∃ s₂ o, Steps p.tables e below (s₁.setTop E) s₂ ∧ s₂.status = .running ∧ Ended s₂ below o ∧ ∃ v L, o = .returned v ∧ (v = some (.int (fA1 t0 t1 t2 t3 tc)) ∧ Fr n0 L) ∧ FrameEnd s o s₂ L room_1.cells room_1.slots := by
  obtain ⟨T1, h1, k1, X1, e1, E1, A1, st1⟩ := newP X0 hx hZ (hw _ (List.mem_of_getElem? (i := 1) rfl)) e0 (g := (mkF m 64 #[.val (.int t0), .val (.int t1), .val (.int t2), .val (.int t3), .val (.int tc), .val (.int tc), .val (.int (1 : Int32)), .val (.int (t2.toInt8.toInt32)), .unset, .unset, .unset, .unset] [(.int (10 : Int32))])) rfl (hb hby at_64) rfl (by decide) (cap := 10) (by decide) (by decide) (by decide) (by decide)
  obtain ⟨b1, g1⟩ : ∃ z, z = h0.size := ⟨_, rfl⟩
  rw [← g1] at A1 st1
  have ne_w1_b1 : w1 ≠ b1 := Nat.ne_of_lt (Nat.lt_of_lt_of_le Ar_w1.lt (Nat.le_of_eq g1.symm))
  have g_b1 : n0 ≤ b1 := Nat.le_trans Z0 (Nat.le_of_eq g1.symm)
  have zs2 : n0 ≤ h1.size := Nat.le_trans Z0 E1.1
  have V_b1 : Arv Z h1 b1 k1 .byte (10 : Int32) [(.int (0 : Int32)), (.int (0 : Int32)), (.int (0 : Int32)), (.int (0 : Int32)), (.int (0 : Int32)), (.int (0 : Int32)), (.int (0 : Int32)), (.int (0 : Int32)), (.int (0 : Int32)), (.int (0 : Int32))] (.int (0 : Int32)) := (Arv.new A1 (by decide)).pad (pad_rep [] (.int (0 : Int32)) 10)
  obtain ⟨cx3, Ar3, qq3, S3, N3_, H3, G3⟩ := id V_b1
  have hin3 : ¬ ((0 : Int32) < 0 ∨ cx3.slots.size ≤ ((0 : Int32)).toNatClampNeg) := inb_of S3 ⟨by decide, by decide⟩
  obtain ⟨T3, h3, X3, e3, W3, st3⟩ := stB X1 hx hZ e1 Ar3 (j := (0 : Int32)) hin3 (g := (mkF m 73 #[.val (.int t0), .val (.int t1), .val (.int t2), .val (.int t3), .val (.int tc), .val (.int tc), .val (.int (1 : Int32)), .val (.int (t2.toInt8.toInt32)), .val (.ref b1), .unset, .unset, .unset] [(.int (t2.toInt8.toInt32)), (.int (0 : Int32)), (.ref b1)])) rfl rfl (hb hby at_73)
  have V3 : Arv Z h3 b1 k1 .byte (10 : Int32) [(.int (nar .byte (t2.toInt8.toInt32))), (.int (0 : Int32)), (.int (0 : Int32)), (.int (0 : Int32)), (.int (0 : Int32)), (.int (0 : Int32)), (.int (0 : Int32)), (.int (0 : Int32)), (.int (0 : Int32)), (.int (0 : Int32))] (.int (0 : Int32)) := Arv.set Ar3 qq3 S3 N3_ H3 G3 (fits_nar_byte _) W3 0 rfl (Nat.le_of_ble_eq_true rfl)
  have zs4 : n0 ≤ h3.size := Nat.le_trans zs2 (Keep.of_wr W3).1
  have N3 := Fr.snoc X3 N0 g_b1
  obtain ⟨cx5, Ar5, qq5, S5, N5_, H5, G5⟩ := id V3
  have hin5 : ¬ ((1 : Int32) < 0 ∨ cx5.slots.size ≤ ((1 : Int32)).toNatClampNeg) := inb_of S5 ⟨by decide, by decide⟩
  obtain ⟨T5, h5, X5, e5, W5, st5⟩ := stB X3 hx hZ e3 Ar5 (j := (1 : Int32)) hin5 (g := (mkF m 79 #[.val (.int t0), .val (.int t1), .val (.int t2), .val (.int t3), .val (.int tc), .val (.int tc), .val (.int (1 : Int32)), .val (.int (t2.toInt8.toInt32)), .val (.ref b1), .unset, .unset, .unset] [(.int (t2.toInt8.toInt32)), (.int (1 : Int32)), (.ref b1)])) rfl rfl (hb hby at_79)
  have V5 : Arv Z h5 b1 k1 .byte (10 : Int32) [(.int (nar .byte (t2.toInt8.toInt32))), (.int (nar .byte (t2.toInt8.toInt32))), (.int (0 : Int32)), (.int (0 : Int32)), (.int (0 : Int32)), (.int (0 : Int32)), (.int (0 : Int32)), (.int (0 : Int32)), (.int (0 : Int32)), (.int (0 : Int32))] (.int (0 : Int32)) := Arv.set Ar5 qq5 S5 N5_ H5 G5 (fits_nar_byte _) W5 1 rfl (Nat.le_of_ble_eq_true rfl)
  have zs6 : n0 ≤ h5.size := Nat.le_trans zs4 (Keep.of_wr W5).1
  have N5 := Fr.snoc X5 N3 g_b1
  obtain ⟨cx7, Ar7, qq7, S7, N7_, H7, G7⟩ := id V5
  have hin7 : ¬ ((2 : Int32) < 0 ∨ cx7.slots.size ≤ ((2 : Int32)).toNatClampNeg) := inb_of S7 ⟨by decide, by decide⟩
  obtain ⟨T7, h7, X7, e7, W7, st7⟩ := stB X5 hx hZ e5 Ar7 (j := (2 : Int32)) hin7 (g := (mkF m 85 #[.val (.int t0), .val (.int t1), .val (.int t2), .val (.int t3), .val (.int tc), .val (.int tc), .val (.int (1 : Int32)), .val (.int (t2.toInt8.toInt32)), .val (.ref b1), .unset, .unset, .unset] [(.int (t2.toInt8.toInt32)), (.int (2 : Int32)), (.ref b1)])) rfl rfl (hb hby at_85)
  have V7 : Arv Z h7 b1 k1 .byte (10 : Int32) [(.int (nar .byte (t2.toInt8.toInt32))), (.int (nar .byte (t2.toInt8.toInt32))), (.int (nar .byte (t2.toInt8.toInt32))), (.int (0 : Int32)), (.int (0 : Int32)), (.int (0 : Int32)), (.int (0 : Int32)), (.int (0 : Int32)), (.int (0 : Int32)), (.int (0 : Int32))] (.int (0 : Int32)) := Arv.set Ar7 qq7 S7 N7_ H7 G7 (fits_nar_byte _) W7 2 rfl (Nat.le_of_ble_eq_true rfl)
  have zs8 : n0 ≤ h7.size := Nat.le_trans zs6 (Keep.of_wr W7).1
  have N7 := Fr.snoc X7 N5 g_b1
  obtain ⟨cx9, Ar9, qq9, S9, N9_, H9, G9⟩ := id V7
  have hin9 : ¬ ((3 : Int32) < 0 ∨ cx9.slots.size ≤ ((3 : Int32)).toNatClampNeg) := inb_of S9 ⟨by decide, by decide⟩
  obtain ⟨T9, h9, X9, e9, W9, st9⟩ := stB X7 hx hZ e7 Ar9 (j := (3 : Int32)) hin9 (g := (mkF m 91 #[.val (.int t0), .val (.int t1), .val (.int t2), .val (.int t3), .val (.int tc), .val (.int tc), .val (.int (1 : Int32)), .val (.int (t2.toInt8.toInt32)), .val (.ref b1), .unset, .unset, .unset] [(.int (t2.toInt8.toInt32)), (.int (3 : Int32)), (.ref b1)])) rfl rfl (hb hby at_91)
  have V9 : Arv Z h9 b1 k1 .byte (10 : Int32) [(.int (nar .byte (t2.toInt8.toInt32))), (.int (nar .byte (t2.toInt8.toInt32))), (.int (nar .byte (t2.toInt8.toInt32))), (.int (nar .byte (t2.toInt8.toInt32))), (.int (0 : Int32)), (.int (0 : Int32)), (.int (0 : Int32)), (.int (0 : Int32)), (.int (0 : Int32)), (.int (0 : Int32))] (.int (0 : Int32)) := Arv.set Ar9 qq9 S9 N9_ H9 G9 (fits_nar_byte _) W9 3 rfl (Nat.le_of_ble_eq_true rfl)
  have zs10 : n0 ≤ h9.size := Nat.le_trans zs8 (Keep.of_wr W9).1
  have N9 := Fr.snoc X9 N7 g_b1
  obtain ⟨cx11, Ar11, qq11, S11, N11_, H11, G11⟩ := id V9
  have hin11 : ¬ ((4 : Int32) < 0 ∨ cx11.slots.size ≤ ((4 : Int32)).toNatClampNeg) := inb_of S11 ⟨by decide, by decide⟩
  obtain ⟨T11, h11, X11, e11, W11, st11⟩ := stB X9 hx hZ e9 Ar11 (j := (4 : Int32)) hin11 (g := (mkF m 97 #[.val (.int t0), .val (.int t1), .val (.int t2), .val (.int t3), .val (.int tc), .val (.int tc), .val (.int (1 : Int32)), .val (.int (t2.toInt8.toInt32)), .val (.ref b1), .unset, .unset, .unset] [(.int (t2.toInt8.toInt32)), (.int (4 : Int32)), (.ref b1)])) rfl rfl (hb hby at_97)
  have V11 : Arv Z h11 b1 k1 .byte (10 : Int32) [(.int (nar .byte (t2.toInt8.toInt32))), (.int (nar .byte (t2.toInt8.toInt32))), (.int (nar .byte (t2.toInt8.toInt32))), (.int (nar .byte (t2.toInt8.toInt32))), (.int (nar .byte (t2.toInt8.toInt32))), (.int (0 : Int32)), (.int (0 : Int32)), (.int (0 : Int32)), (.int (0 : Int32)), (.int (0 : Int32))] (.int (0 : Int32)) := Arv.set Ar11 qq11 S11 N11_ H11 G11 (fits_nar_byte _) W11 4 rfl (Nat.le_of_ble_eq_true rfl)
  have zs12 : n0 ≤ h11.size := Nat.le_trans zs10 (Keep.of_wr W11).1
  have N11 := Fr.snoc X11 N9 g_b1
  obtain ⟨cx13, Ar13, qq13, S13, N13_, H13, G13⟩ := id V11
  have hin13 : ¬ ((5 : Int32) < 0 ∨ cx13.slots.size ≤ ((5 : Int32)).toNatClampNeg) := inb_of S13 ⟨by decide, by decide⟩
  obtain ⟨T13, h13, X13, e13, W13, st13⟩ := stB X11 hx hZ e11 Ar13 (j := (5 : Int32)) hin13 (g := (mkF m 103 #[.val (.int t0), .val (.int t1), .val (.int t2), .val (.int t3), .val (.int tc), .val (.int tc), .val (.int (1 : Int32)), .val (.int (t2.toInt8.toInt32)), .val (.ref b1), .unset, .unset, .unset] [(.int (t2.toInt8.toInt32)), (.int (5 : Int32)), (.ref b1)])) rfl rfl (hb hby at_103)
  have V13 : Arv Z h13 b1 k1 .byte (10 : Int32) [(.int (nar .byte (t2.toInt8.toInt32))), (.int (nar .byte (t2.toInt8.toInt32))), (.int (nar .byte (t2.toInt8.toInt32))), (.int (nar .byte (t2.toInt8.toInt32))), (.int (nar .byte (t2.toInt8.toInt32))), (.int (nar .byte (t2.toInt8.toInt32))), (.int (0 : Int32)), (.int (0 : Int32)), (.int (0 : Int32)), (.int (0 : Int32))] (.int (0 : Int32)) := Arv.set Ar13 qq13 S13 N13_ H13 G13 (fits_nar_byte _) W13 5 rfl (Nat.le_of_ble_eq_true rfl)
  have zs14 : n0 ≤ h13.size := Nat.le_trans zs12 (Keep.of_wr W13).1
  have N13 := Fr.snoc X13 N11 g_b1
  obtain ⟨cx15, Ar15, qq15, S15, N15_, H15, G15⟩ := id V13
  have hin15 : ¬ ((6 : Int32) < 0 ∨ cx15.slots.size ≤ ((6 : Int32)).toNatClampNeg) := inb_of S15 ⟨by decide, by decide⟩
  obtain ⟨T15, h15, X15, e15, W15, st15⟩ := stB X13 hx hZ e13 Ar15 (j := (6 : Int32)) hin15 (g := (mkF m 110 #[.val (.int t0), .val (.int t1), .val (.int t2), .val (.int t3), .val (.int tc), .val (.int tc), .val (.int (1 : Int32)), .val (.int (t2.toInt8.toInt32)), .val (.ref b1), .unset, .unset, .unset] [(.int (t2.toInt8.toInt32)), (.int (6 : Int32)), (.ref b1)])) rfl rfl (hb hby at_110)
  have V15 : Arv Z h15 b1 k1 .byte (10 : Int32) [(.int (nar .byte (t2.toInt8.toInt32))), (.int (nar .byte (t2.toInt8.toInt32))), (.int (nar .byte (t2.toInt8.toInt32))), (.int (nar .byte (t2.toInt8.toInt32))), (.int (nar .byte (t2.toInt8.toInt32))), (.int (nar .byte (t2.toInt8.toInt32))), (.int (nar .byte (t2.toInt8.toInt32))), (.int (0 : Int32)), (.int (0 : Int32)), (.int (0 : Int32))] (.int (0 : Int32)) := Arv.set Ar15 qq15 S15 N15_ H15 G15 (fits_nar_byte _) W15 6 rfl (Nat.le_of_ble_eq_true rfl)
  have zs16 : n0 ≤ h15.size := Nat.le_trans zs14 (Keep.of_wr W15).1
  have N15 := Fr.snoc X15 N13 g_b1
  obtain ⟨cx17, Ar17, qq17, S17, N17_, H17, G17⟩ := id V15
  have hin17 : ¬ ((7 : Int32) < 0 ∨ cx17.slots.size ≤ ((7 : Int32)).toNatClampNeg) := inb_of S17 ⟨by decide, by decide⟩
  obtain ⟨T17, h17, X17, e17, W17, st17⟩ := stB X15 hx hZ e15 Ar17 (j := (7 : Int32)) hin17 (g := (mkF m 117 #[.val (.int t0), .val (.int t1), .val (.int t2), .val (.int t3), .val (.int tc), .val (.int tc), .val (.int (1 : Int32)), .val (.int (t2.toInt8.toInt32)), .val (.ref b1), .unset, .unset, .unset] [(.int (t2.toInt8.toInt32)), (.int (7 : Int32)), (.ref b1)])) rfl rfl (hb hby at_117)
  have V17 : Arv Z h17 b1 k1 .byte (10 : Int32) [(.int (nar .byte (t2.toInt8.toInt32))), (.int (nar .byte (t2.toInt8.toInt32))), (.int (nar .byte (t2.toInt8.toInt32))), (.int (nar .byte (t2.toInt8.toInt32))), (.int (nar .byte (t2.toInt8.toInt32))), (.int (nar .byte (t2.toInt8.toInt32))), (.int (nar .byte (t2.toInt8.toInt32))), (.int (nar .byte (t2.toInt8.toInt32))), (.int (0 : Int32)), (.int (0 : Int32))] (.int (0 : Int32)) := Arv.set Ar17 qq17 S17 N17_ H17 G17 (fits_nar_byte _) W17 7 rfl (Nat.le_of_ble_eq_true rfl)
  have zs18 : n0 ≤ h17.size := Nat.le_trans zs16 (Keep.of_wr W17).1
  have N17 := Fr.snoc X17 N15 g_b1
  obtain ⟨cx19, Ar19, qq19, S19, N19_, H19, G19⟩ := id V17
  have hin19 : ¬ ((8 : Int32) < 0 ∨ cx19.slots.size ≤ ((8 : Int32)).toNatClampNeg) := inb_of S19 ⟨by decide, by decide⟩
  obtain ⟨T19, h19, X19, e19, W19, st19⟩ := stB X17 hx hZ e17 Ar19 (j := (8 : Int32)) hin19 (g := (mkF m 124 #[.val (.int t0), .val (.int t1), .val (.int t2), .val (.int t3), .val (.int tc), .val (.int tc), .val (.int (1 : Int32)), .val (.int (t2.toInt8.toInt32)), .val (.ref b1), .unset, .unset, .unset] [(.int (t2.toInt8.toInt32)), (.int (8 : Int32)), (.ref b1)])) rfl rfl (hb hby at_124)
  have V19 : Arv Z h19 b1 k1 .byte (10 : Int32) [(.int (nar .byte (t2.toInt8.toInt32))), (.int (nar .byte (t2.toInt8.toInt32))), (.int (nar .byte (t2.toInt8.toInt32))), (.int (nar .byte (t2.toInt8.toInt32))), (.int (nar .byte (t2.toInt8.toInt32))), (.int (nar .byte (t2.toInt8.toInt32))), (.int (nar .byte (t2.toInt8.toInt32))), (.int (nar .byte (t2.toInt8.toInt32))), (.int (nar .byte (t2.toInt8.toInt32))), (.int (0 : Int32))] (.int (0 : Int32)) := Arv.set Ar19 qq19 S19 N19_ H19 G19 (fits_nar_byte _) W19 8 rfl (Nat.le_of_ble_eq_true rfl)
  have zs20 : n0 ≤ h19.size := Nat.le_trans zs18 (Keep.of_wr W19).1
  have N19 := Fr.snoc X19 N17 g_b1
  obtain ⟨cx21, Ar21, qq21, S21, N21_, H21, G21⟩ := id V19
  have hin21 : ¬ ((9 : Int32) < 0 ∨ cx21.slots.size ≤ ((9 : Int32)).toNatClampNeg) := inb_of S21 ⟨by decide, by decide⟩
  obtain ⟨T21, h21, X21, e21, W21, st21⟩ := stB X19 hx hZ e19 Ar21 (j := (9 : Int32)) hin21 (g := (mkF m 131 #[.val (.int t0), .val (.int t1), .val (.int t2), .val (.int t3), .val (.int tc), .val (.int tc), .val (.int (1 : Int32)), .val (.int (t2.toInt8.toInt32)), .val (.ref b1), .unset, .unset, .unset] [(.int (t2.toInt8.toInt32)), (.int (9 : Int32)), (.ref b1)])) rfl rfl (hb hby at_131)
  have V21 : Arv Z h21 b1 k1 .byte (10 : Int32) [(.int (nar .byte (t2.toInt8.toInt32))), (.int (nar .byte (t2.toInt8.toInt32))), (.int (nar .byte (t2.toInt8.toInt32))), (.int (nar .byte (t2.toInt8.toInt32))), (.int (nar .byte (t2.toInt8.toInt32))), (.int (nar .byte (t2.toInt8.toInt32))), (.int (nar .byte (t2.toInt8.toInt32))), (.int (nar .byte (t2.toInt8.toInt32))), (.int (nar .byte (t2.toInt8.toInt32))), (.int (nar .byte (t2.toInt8.toInt32)))] (.int (0 : Int32)) := Arv.set Ar21 qq21 S21 N21_ H21 G21 (fits_nar_byte _) W21 9 rfl (Nat.le_of_ble_eq_true rfl)
  have zs22 : n0 ≤ h21.size := Nat.le_trans zs20 (Keep.of_wr W21).1
  have N21 := Fr.snoc X21 N19 g_b1
  have fa24 : Sta Z h21 "com/example/endcon/endcon/rules/LineText" "HEX_DIGITS" "[B" (.ref w1) := (((((((((((S_H.ext E1).wr W3).wr W5).wr W7).wr W9).wr W11).wr W13).wr W15).wr W17).wr W19).wr W21)
  have fa25 : Arr Z h21 w1 cl1 .byte := (((((((((((Ar_w1.ext E1).other W3 ne_w1_b1).other W5 ne_w1_b1).other W7 ne_w1_b1).other W9 ne_w1_b1).other W11 ne_w1_b1).other W13 ne_w1_b1).other W15 ne_w1_b1).other W17 ne_w1_b1).other W19 ne_w1_b1).other W21 ne_w1_b1)
  obtain ⟨_, T23, Lc23, X23, hQ23, st23⟩ := own_callS X21 hx hZ (y := (⟨"com/example/endcon/endcon/rules/LineText", "escape", "(C[BI)I"⟩ : MethodName)) hown (hw _ (List.mem_of_getElem? (i := 2) rfl)) (hw _ (List.mem_of_getElem? (i := 3) rfl)) (hw _ (List.mem_of_getElem? (i := 4) rfl)) (hw _ (List.mem_of_getElem? (i := 5) rfl)) (by decide) (W := 0) (argsL := [(.int tc), (.ref b1), (.int (1 : Int32))]) (rest := []) (rm1_1 l Z a0 hw [] tc b1 (nar .byte (t2.toInt8.toInt32)) w1 cl1 k1 h21 n0 zs22 V21 g_b1 fa24 ne_w1_b1 fa25 sz1 hv hp hp2) (by decide) (by decide) (c' := 1) (s' := 10) rfl rfl (by decide) (by decide) e21 (g := (mkF m 138 #[.val (.int t0), .val (.int t1), .val (.int t2), .val (.int t3), .val (.int tc), .val (.int tc), .val (.int (1 : Int32)), .val (.int (t2.toInt8.toInt32)), .val (.ref b1), .unset, .unset, .unset] [(.int (1 : Int32)), (.ref b1), (.int tc)])) rfl (by rw [hml]; rfl) (lenOf pd_0_0 rfl) rfl (by show 2 * 0 + _ ≤ _; exact Nat.le_of_eq rfl) (hb hby at_138)
  obtain ⟨rfl, N23q, K23, Vc23_a2⟩ := hQ23
  have N23 := Fr.app N21 N23q
  have zs26 : n0 ≤ T23.heap.size := Nat.le_trans zs22 K23.1
  obtain ⟨_, T27, Lc27, X27, hQ27, st27⟩ := own_callS X23 hx hZ (y := (⟨"com/example/endcon/endcon/rules/LineTextEscapePinLaw", "shortForm", "(I)I"⟩ : MethodName)) hown (hw _ (List.mem_of_getElem? (i := 8) rfl)) (hw _ (List.mem_of_getElem? (i := 9) rfl)) (hw _ (List.mem_of_getElem? (i := 10) rfl)) (hw _ (List.mem_of_getElem? (i := 11) rfl)) (by decide) (W := 0) (argsL := [(.int tc)]) (rest := []) (rm2 l Z a0 hw [] tc T23.heap n0 zs26 ) (by decide) (by decide) (c' := 1) (s' := 10) rfl rfl (by decide) (by decide) rfl (g := (mkF m 145 #[.val (.int t0), .val (.int t1), .val (.int t2), .val (.int t3), .val (.int tc), .val (.int tc), .val (.int (1 : Int32)), .val (.int (t2.toInt8.toInt32)), .val (.ref b1), .val (.int (f1_1 tc (nar .byte (t2.toInt8.toInt32)))), .unset, .unset] [(.int tc)])) rfl (by rw [hml]; rfl) (lenOf pd_0_1 rfl) rfl (by show 2 * 0 + _ ≤ _; exact Nat.le_of_eq rfl) (hb hby at_145)
  obtain ⟨rfl, N27q, e27⟩ := hQ27
  have N27 := Fr.app N23 N27q
  have pre28 : ∀ t, Steps p.tables e below (T27.setTop (mkF m 148 #[.val (.int t0), .val (.int t1), .val (.int t2), .val (.int t3), .val (.int tc), .val (.int tc), .val (.int (1 : Int32)), .val (.int (t2.toInt8.toInt32)), .val (.ref b1), .val (.int (f1_1 tc (nar .byte (t2.toInt8.toInt32)))), .unset, .unset] [(.int (f2 tc))])) t → Steps p.tables e below (s₁.setTop E) t := fun t kt => by
    refine pre0 _ ?_
    show Steps p.tables e below (T0.setTop (mkF m 58 #[.val (.int t0), .val (.int t1), .val (.int t2), .val (.int t3), .val (.int tc), .val (.int tc), .val (.int (1 : Int32)), .unset, .unset, .unset, .unset, .unset] [])) _
    refine own_blk X0 hx bl0_58_3 (own_hb hby bd0_58_3) (pc' := 62) (Ls' := #[.val (.int t0), .val (.int t1), .val (.int t2), .val (.int t3), .val (.int tc), .val (.int tc), .val (.int (1 : Int32)), .val (.int (t2.toInt8.toInt32)), .unset, .unset, .unset, .unset]) (st' := []) rfl ?_
    refine own_blk X0 hx bl0_62_1 (own_hb hby bd0_62_1) (pc' := 64) (Ls' := #[.val (.int t0), .val (.int t1), .val (.int t2), .val (.int t3), .val (.int tc), .val (.int tc), .val (.int (1 : Int32)), .val (.int (t2.toInt8.toInt32)), .unset, .unset, .unset, .unset]) (st' := [(.int (10 : Int32))]) rfl ?_
    refine st1 _ ?_
    show Steps p.tables e below (T1.setTop (mkF m 66 #[.val (.int t0), .val (.int t1), .val (.int t2), .val (.int t3), .val (.int tc), .val (.int tc), .val (.int (1 : Int32)), .val (.int (t2.toInt8.toInt32)), .unset, .unset, .unset, .unset] [(.ref b1)])) _
    refine own_blk X1 hx bl0_66_1 (own_hb hby bd0_66_1) (pc' := 68) (Ls' := #[.val (.int t0), .val (.int t1), .val (.int t2), .val (.int t3), .val (.int tc), .val (.int tc), .val (.int (1 : Int32)), .val (.int (t2.toInt8.toInt32)), .val (.ref b1), .unset, .unset, .unset]) (st' := []) rfl ?_
    refine own_blk X1 hx bl0_68_3 (own_hb hby bd0_68_3) (pc' := 73) (Ls' := #[.val (.int t0), .val (.int t1), .val (.int t2), .val (.int t3), .val (.int tc), .val (.int tc), .val (.int (1 : Int32)), .val (.int (t2.toInt8.toInt32)), .val (.ref b1), .unset, .unset, .unset]) (st' := [(.int (t2.toInt8.toInt32)), (.int (0 : Int32)), (.ref b1)]) rfl ?_
    refine st3 _ ?_
    show Steps p.tables e below (T3.setTop (mkF m 74 #[.val (.int t0), .val (.int t1), .val (.int t2), .val (.int t3), .val (.int tc), .val (.int tc), .val (.int (1 : Int32)), .val (.int (t2.toInt8.toInt32)), .val (.ref b1), .unset, .unset, .unset] [])) _
    refine own_blk X3 hx bl0_74_3 (own_hb hby bd0_74_3) (pc' := 79) (Ls' := #[.val (.int t0), .val (.int t1), .val (.int t2), .val (.int t3), .val (.int tc), .val (.int tc), .val (.int (1 : Int32)), .val (.int (t2.toInt8.toInt32)), .val (.ref b1), .unset, .unset, .unset]) (st' := [(.int (t2.toInt8.toInt32)), (.int (1 : Int32)), (.ref b1)]) rfl ?_
    refine st5 _ ?_
    show Steps p.tables e below (T5.setTop (mkF m 80 #[.val (.int t0), .val (.int t1), .val (.int t2), .val (.int t3), .val (.int tc), .val (.int tc), .val (.int (1 : Int32)), .val (.int (t2.toInt8.toInt32)), .val (.ref b1), .unset, .unset, .unset] [])) _
    refine own_blk X5 hx bl0_80_3 (own_hb hby bd0_80_3) (pc' := 85) (Ls' := #[.val (.int t0), .val (.int t1), .val (.int t2), .val (.int t3), .val (.int tc), .val (.int tc), .val (.int (1 : Int32)), .val (.int (t2.toInt8.toInt32)), .val (.ref b1), .unset, .unset, .unset]) (st' := [(.int (t2.toInt8.toInt32)), (.int (2 : Int32)), (.ref b1)]) rfl ?_
    refine st7 _ ?_
    show Steps p.tables e below (T7.setTop (mkF m 86 #[.val (.int t0), .val (.int t1), .val (.int t2), .val (.int t3), .val (.int tc), .val (.int tc), .val (.int (1 : Int32)), .val (.int (t2.toInt8.toInt32)), .val (.ref b1), .unset, .unset, .unset] [])) _
    refine own_blk X7 hx bl0_86_3 (own_hb hby bd0_86_3) (pc' := 91) (Ls' := #[.val (.int t0), .val (.int t1), .val (.int t2), .val (.int t3), .val (.int tc), .val (.int tc), .val (.int (1 : Int32)), .val (.int (t2.toInt8.toInt32)), .val (.ref b1), .unset, .unset, .unset]) (st' := [(.int (t2.toInt8.toInt32)), (.int (3 : Int32)), (.ref b1)]) rfl ?_
    refine st9 _ ?_
    show Steps p.tables e below (T9.setTop (mkF m 92 #[.val (.int t0), .val (.int t1), .val (.int t2), .val (.int t3), .val (.int tc), .val (.int tc), .val (.int (1 : Int32)), .val (.int (t2.toInt8.toInt32)), .val (.ref b1), .unset, .unset, .unset] [])) _
    refine own_blk X9 hx bl0_92_3 (own_hb hby bd0_92_3) (pc' := 97) (Ls' := #[.val (.int t0), .val (.int t1), .val (.int t2), .val (.int t3), .val (.int tc), .val (.int tc), .val (.int (1 : Int32)), .val (.int (t2.toInt8.toInt32)), .val (.ref b1), .unset, .unset, .unset]) (st' := [(.int (t2.toInt8.toInt32)), (.int (4 : Int32)), (.ref b1)]) rfl ?_
    refine st11 _ ?_
    show Steps p.tables e below (T11.setTop (mkF m 98 #[.val (.int t0), .val (.int t1), .val (.int t2), .val (.int t3), .val (.int tc), .val (.int tc), .val (.int (1 : Int32)), .val (.int (t2.toInt8.toInt32)), .val (.ref b1), .unset, .unset, .unset] [])) _
    refine own_blk X11 hx bl0_98_3 (own_hb hby bd0_98_3) (pc' := 103) (Ls' := #[.val (.int t0), .val (.int t1), .val (.int t2), .val (.int t3), .val (.int tc), .val (.int tc), .val (.int (1 : Int32)), .val (.int (t2.toInt8.toInt32)), .val (.ref b1), .unset, .unset, .unset]) (st' := [(.int (t2.toInt8.toInt32)), (.int (5 : Int32)), (.ref b1)]) rfl ?_
    refine st13 _ ?_
    show Steps p.tables e below (T13.setTop (mkF m 104 #[.val (.int t0), .val (.int t1), .val (.int t2), .val (.int t3), .val (.int tc), .val (.int tc), .val (.int (1 : Int32)), .val (.int (t2.toInt8.toInt32)), .val (.ref b1), .unset, .unset, .unset] [])) _
    refine own_blk X13 hx bl0_104_3 (own_hb hby bd0_104_3) (pc' := 110) (Ls' := #[.val (.int t0), .val (.int t1), .val (.int t2), .val (.int t3), .val (.int tc), .val (.int tc), .val (.int (1 : Int32)), .val (.int (t2.toInt8.toInt32)), .val (.ref b1), .unset, .unset, .unset]) (st' := [(.int (t2.toInt8.toInt32)), (.int (6 : Int32)), (.ref b1)]) rfl ?_
    refine st15 _ ?_
    show Steps p.tables e below (T15.setTop (mkF m 111 #[.val (.int t0), .val (.int t1), .val (.int t2), .val (.int t3), .val (.int tc), .val (.int tc), .val (.int (1 : Int32)), .val (.int (t2.toInt8.toInt32)), .val (.ref b1), .unset, .unset, .unset] [])) _
    refine own_blk X15 hx bl0_111_3 (own_hb hby bd0_111_3) (pc' := 117) (Ls' := #[.val (.int t0), .val (.int t1), .val (.int t2), .val (.int t3), .val (.int tc), .val (.int tc), .val (.int (1 : Int32)), .val (.int (t2.toInt8.toInt32)), .val (.ref b1), .unset, .unset, .unset]) (st' := [(.int (t2.toInt8.toInt32)), (.int (7 : Int32)), (.ref b1)]) rfl ?_
    refine st17 _ ?_
    show Steps p.tables e below (T17.setTop (mkF m 118 #[.val (.int t0), .val (.int t1), .val (.int t2), .val (.int t3), .val (.int tc), .val (.int tc), .val (.int (1 : Int32)), .val (.int (t2.toInt8.toInt32)), .val (.ref b1), .unset, .unset, .unset] [])) _
    refine own_blk X17 hx bl0_118_3 (own_hb hby bd0_118_3) (pc' := 124) (Ls' := #[.val (.int t0), .val (.int t1), .val (.int t2), .val (.int t3), .val (.int tc), .val (.int tc), .val (.int (1 : Int32)), .val (.int (t2.toInt8.toInt32)), .val (.ref b1), .unset, .unset, .unset]) (st' := [(.int (t2.toInt8.toInt32)), (.int (8 : Int32)), (.ref b1)]) rfl ?_
    refine st19 _ ?_
    show Steps p.tables e below (T19.setTop (mkF m 125 #[.val (.int t0), .val (.int t1), .val (.int t2), .val (.int t3), .val (.int tc), .val (.int tc), .val (.int (1 : Int32)), .val (.int (t2.toInt8.toInt32)), .val (.ref b1), .unset, .unset, .unset] [])) _
    refine own_blk X19 hx bl0_125_3 (own_hb hby bd0_125_3) (pc' := 131) (Ls' := #[.val (.int t0), .val (.int t1), .val (.int t2), .val (.int t3), .val (.int tc), .val (.int tc), .val (.int (1 : Int32)), .val (.int (t2.toInt8.toInt32)), .val (.ref b1), .unset, .unset, .unset]) (st' := [(.int (t2.toInt8.toInt32)), (.int (9 : Int32)), (.ref b1)]) rfl ?_
    refine st21 _ ?_
    show Steps p.tables e below (T21.setTop (mkF m 132 #[.val (.int t0), .val (.int t1), .val (.int t2), .val (.int t3), .val (.int tc), .val (.int tc), .val (.int (1 : Int32)), .val (.int (t2.toInt8.toInt32)), .val (.ref b1), .unset, .unset, .unset] [])) _
    refine own_blk X21 hx bl0_132_3 (own_hb hby bd0_132_3) (pc' := 138) (Ls' := #[.val (.int t0), .val (.int t1), .val (.int t2), .val (.int t3), .val (.int tc), .val (.int tc), .val (.int (1 : Int32)), .val (.int (t2.toInt8.toInt32)), .val (.ref b1), .unset, .unset, .unset]) (st' := [(.int (1 : Int32)), (.ref b1), (.int tc)]) rfl ?_
    refine st23 _ ?_
    show Steps p.tables e below (T23.setTop (mkF m 141 #[.val (.int t0), .val (.int t1), .val (.int t2), .val (.int t3), .val (.int tc), .val (.int tc), .val (.int (1 : Int32)), .val (.int (t2.toInt8.toInt32)), .val (.ref b1), .unset, .unset, .unset] [(.int (f1_1 tc (nar .byte (t2.toInt8.toInt32))))])) _
    refine own_blk X23 hx bl0_141_1 (own_hb hby bd0_141_1) (pc' := 143) (Ls' := #[.val (.int t0), .val (.int t1), .val (.int t2), .val (.int t3), .val (.int tc), .val (.int tc), .val (.int (1 : Int32)), .val (.int (t2.toInt8.toInt32)), .val (.ref b1), .val (.int (f1_1 tc (nar .byte (t2.toInt8.toInt32)))), .unset, .unset]) (st' := []) rfl ?_
    refine own_blk X23 hx bl0_143_1 (own_hb hby bd0_143_1) (pc' := 145) (Ls' := #[.val (.int t0), .val (.int t1), .val (.int t2), .val (.int t3), .val (.int tc), .val (.int tc), .val (.int (1 : Int32)), .val (.int (t2.toInt8.toInt32)), .val (.ref b1), .val (.int (f1_1 tc (nar .byte (t2.toInt8.toInt32)))), .unset, .unset]) (st' := [(.int tc)]) rfl ?_
    refine st27 _ ?_
    exact kt
  by_cases hc29 : (f2 tc) = (0 : Int32)
  · have pre30 : ∀ t, Steps p.tables e below (T27.setTop (mkF m 176 #[.val (.int t0), .val (.int t1), .val (.int t2), .val (.int t3), .val (.int tc), .val (.int tc), .val (.int (1 : Int32)), .val (.int (t2.toInt8.toInt32)), .val (.ref b1), .val (.int (f1_1 tc (nar .byte (t2.toInt8.toInt32)))), .val (.int (6 : Int32)), .val (.int (1 : Int32))] [])) t → Steps p.tables e below (s₁.setTop E) t := fun t kt => by
      refine pre28 _ ?_
      show Steps p.tables e below (T27.setTop (mkF m 148 #[.val (.int t0), .val (.int t1), .val (.int t2), .val (.int t3), .val (.int tc), .val (.int tc), .val (.int (1 : Int32)), .val (.int (t2.toInt8.toInt32)), .val (.ref b1), .val (.int (f1_1 tc (nar .byte (t2.toInt8.toInt32)))), .unset, .unset] [(.int (f2 tc))])) _
      refine XS.ifYes X27.here hx rfl (pc0 := 148) (pc' := 155) rfl (hb hby at_148) rfl ((if0 _ _).trans (teq hc29).1) (by decide) (by decide) ?_
      show Steps p.tables e below (T27.setTop (mkF m 155 #[.val (.int t0), .val (.int t1), .val (.int t2), .val (.int t3), .val (.int tc), .val (.int tc), .val (.int (1 : Int32)), .val (.int (t2.toInt8.toInt32)), .val (.ref b1), .val (.int (f1_1 tc (nar .byte (t2.toInt8.toInt32)))), .unset, .unset] [])) _
      refine own_blk X27 hx bl0_155_2 (own_hb hby bd0_155_2) (pc' := 159) (Ls' := #[.val (.int t0), .val (.int t1), .val (.int t2), .val (.int t3), .val (.int tc), .val (.int tc), .val (.int (1 : Int32)), .val (.int (t2.toInt8.toInt32)), .val (.ref b1), .val (.int (f1_1 tc (nar .byte (t2.toInt8.toInt32)))), .val (.int (6 : Int32)), .unset]) (st' := []) rfl ?_
      refine own_blk X27 hx bl0_159_4 (own_hb hby bd0_159_4) (pc' := 166) (Ls' := #[.val (.int t0), .val (.int t1), .val (.int t2), .val (.int t3), .val (.int tc), .val (.int tc), .val (.int (1 : Int32)), .val (.int (t2.toInt8.toInt32)), .val (.ref b1), .val (.int (f1_1 tc (nar .byte (t2.toInt8.toInt32)))), .val (.int (6 : Int32)), .unset]) (st' := [(.int (7 : Int32)), (.int (f1_1 tc (nar .byte (t2.toInt8.toInt32))))]) rfl ?_
      refine XS.icmpNo X27.here hx rfl (hb hby at_166) rfl (teq (own_end1z tc (nar .byte (t2.toInt8.toInt32)) hc29)).2 ?_
      show Steps p.tables e below (T27.setTop (mkF m 169 #[.val (.int t0), .val (.int t1), .val (.int t2), .val (.int t3), .val (.int tc), .val (.int tc), .val (.int (1 : Int32)), .val (.int (t2.toInt8.toInt32)), .val (.ref b1), .val (.int (f1_1 tc (nar .byte (t2.toInt8.toInt32)))), .val (.int (6 : Int32)), .unset] [])) _
      refine own_blk X27 hx bl0_169_3 (own_hb hby bd0_169_3) (pc' := 176) (Ls' := #[.val (.int t0), .val (.int t1), .val (.int t2), .val (.int t3), .val (.int tc), .val (.int tc), .val (.int (1 : Int32)), .val (.int (t2.toInt8.toInt32)), .val (.ref b1), .val (.int (f1_1 tc (nar .byte (t2.toInt8.toInt32)))), .val (.int (6 : Int32)), .val (.int (1 : Int32))]) (st' := []) rfl ?_
      exact kt
    obtain ⟨s231, o31, u31a, u31b, u31c, v31, L31, rfl, ⟨rfl, u31d⟩, u31e⟩ := tlB1 t0 t1 t2 t3 tc (f1_1 tc (nar .byte (t2.toInt8.toInt32))) (6 : Int32) b1 k1 X27 hx hZ hw hby hml hown hret hlk e27 N27 zs26 pre30 Vc23_a2 hp hp2
    exact ⟨s231, _, u31a, u31b, u31c, _, _, rfl, ⟨by rw [fA1, if_pos hc29], u31d⟩, u31e⟩
  · have pre32 : ∀ t, Steps p.tables e below (T27.setTop (mkF m 176 #[.val (.int t0), .val (.int t1), .val (.int t2), .val (.int t3), .val (.int tc), .val (.int tc), .val (.int (1 : Int32)), .val (.int (t2.toInt8.toInt32)), .val (.ref b1), .val (.int (f1_1 tc (nar .byte (t2.toInt8.toInt32)))), .val (.int (2 : Int32)), .val (.int (1 : Int32))] [])) t → Steps p.tables e below (s₁.setTop E) t := fun t kt => by
      refine pre28 _ ?_
      show Steps p.tables e below (T27.setTop (mkF m 148 #[.val (.int t0), .val (.int t1), .val (.int t2), .val (.int t3), .val (.int tc), .val (.int tc), .val (.int (1 : Int32)), .val (.int (t2.toInt8.toInt32)), .val (.ref b1), .val (.int (f1_1 tc (nar .byte (t2.toInt8.toInt32)))), .unset, .unset] [(.int (f2 tc))])) _
      refine XS.ifNo X27.here hx rfl (hb hby at_148) rfl ((if0 _ _).trans (feq hc29).1) ?_
      show Steps p.tables e below (T27.setTop (mkF m 151 #[.val (.int t0), .val (.int t1), .val (.int t2), .val (.int t3), .val (.int tc), .val (.int tc), .val (.int (1 : Int32)), .val (.int (t2.toInt8.toInt32)), .val (.ref b1), .val (.int (f1_1 tc (nar .byte (t2.toInt8.toInt32)))), .unset, .unset] [])) _
      refine own_blk X27 hx bl0_151_3 (own_hb hby bd0_151_3) (pc' := 159) (Ls' := #[.val (.int t0), .val (.int t1), .val (.int t2), .val (.int t3), .val (.int tc), .val (.int tc), .val (.int (1 : Int32)), .val (.int (t2.toInt8.toInt32)), .val (.ref b1), .val (.int (f1_1 tc (nar .byte (t2.toInt8.toInt32)))), .val (.int (2 : Int32)), .unset]) (st' := []) rfl ?_
      refine own_blk X27 hx bl0_159_4 (own_hb hby bd0_159_4) (pc' := 166) (Ls' := #[.val (.int t0), .val (.int t1), .val (.int t2), .val (.int t3), .val (.int tc), .val (.int tc), .val (.int (1 : Int32)), .val (.int (t2.toInt8.toInt32)), .val (.ref b1), .val (.int (f1_1 tc (nar .byte (t2.toInt8.toInt32)))), .val (.int (2 : Int32)), .unset]) (st' := [(.int (3 : Int32)), (.int (f1_1 tc (nar .byte (t2.toInt8.toInt32))))]) rfl ?_
      refine XS.icmpNo X27.here hx rfl (hb hby at_166) rfl (teq (own_end1n tc (nar .byte (t2.toInt8.toInt32)) hc29)).2 ?_
      show Steps p.tables e below (T27.setTop (mkF m 169 #[.val (.int t0), .val (.int t1), .val (.int t2), .val (.int t3), .val (.int tc), .val (.int tc), .val (.int (1 : Int32)), .val (.int (t2.toInt8.toInt32)), .val (.ref b1), .val (.int (f1_1 tc (nar .byte (t2.toInt8.toInt32)))), .val (.int (2 : Int32)), .unset] [])) _
      refine own_blk X27 hx bl0_169_3 (own_hb hby bd0_169_3) (pc' := 176) (Ls' := #[.val (.int t0), .val (.int t1), .val (.int t2), .val (.int t3), .val (.int tc), .val (.int tc), .val (.int (1 : Int32)), .val (.int (t2.toInt8.toInt32)), .val (.ref b1), .val (.int (f1_1 tc (nar .byte (t2.toInt8.toInt32)))), .val (.int (2 : Int32)), .val (.int (1 : Int32))]) (st' := []) rfl ?_
      exact kt
    obtain ⟨s233, o33, u33a, u33b, u33c, v33, L33, rfl, ⟨rfl, u33d⟩, u33e⟩ := tlB1 t0 t1 t2 t3 tc (f1_1 tc (nar .byte (t2.toInt8.toInt32))) (2 : Int32) b1 k1 X27 hx hZ hw hby hml hown hret hlk e27 N27 zs26 pre32 Vc23_a2 hp hp2
    exact ⟨s233, _, u33a, u33b, u33c, _, _, rfl, ⟨by rw [fA1, if_neg hc29], u33d⟩, u33e⟩

def f0_1 (p1 : Int32) (p2 : Int32) (p3 : Int32) : Int32 := (if ((p1 &&& (2147483647 : Int32)) % (67 : Int32)) < (32 : Int32) then (fA1 p1 p2 p3 ((p1 &&& (2147483647 : Int32)) % (67 : Int32)) ((p1 &&& (2147483647 : Int32)) % (67 : Int32))) else (if ((p1 &&& (2147483647 : Int32)) % (67 : Int32)) < (65 : Int32) then (fA1 p1 p2 p3 ((p1 &&& (2147483647 : Int32)) % (67 : Int32)) ((127 : Int32) + (((p1 &&& (2147483647 : Int32)) % (67 : Int32)) - (32 : Int32)))) else (fA1 p1 p2 p3 ((p1 &&& (2147483647 : Int32)) % (67 : Int32)) ((8232 : Int32) + (((p1 &&& (2147483647 : Int32)) % (67 : Int32)) - (65 : Int32))))))
def Q0_1 (Z : State) (p1 : Int32) (p2 : Int32) (p3 : Int32) (w1 : Addr) (cl1 : Cell) (h0 : Heap) (n0 : Nat) (v : Option Value) (h : Heap) (L : List Loc) : Prop := v = some (.int (f0_1 p1 p2 p3)) ∧ Fr n0 L
set_option maxRecDepth 65536 in
set_option maxHeartbeats 40000000 in
theorem rm0_1 (l : Launch) (Z : State) (a0 : Array Value) (hw : ∀ d ∈ tables_1, d.before a0 Z = true) (ws : List Jvm.Cond) (p1 : Int32) (p2 : Int32) (p3 : Int32) (w1 : Addr) (cl1 : Cell) (h0 : Heap) (n0 : Nat) (Z0 : n0 ≤ h0.size) (S_HEX_DIGITS : Sta Z h0 "com/example/endcon/endcon/rules/LineText" "HEX_DIGITS" "[B" (.ref w1)) (Ar_w1 : Arr Z h0 w1 cl1 .byte) (sz1 : cl1.slots.size = (16 : Int32).toNatClampNeg) (hv : ∀ j : Int32, ¬ j < 0 → j < 16 → cl1.slots[j.toNatClampNeg]? = some (.int (own_tab j))) (hn : (p2 &&& (3 : Int32)) = (1 : Int32)) :
    MetFree l x (head1 (Jvm.Cond.code x code maxLocals ret :: ws) room_1) (fun a U => a = #[(.int p1), (.int p2), (.int p3)] ∧ Z.Warmed39 U.vm ∧ U.heap = h0) (fun _ _ _ _ _ => True) (fun _ U o U' => ∃ v L, o = .returned v ∧ Q0_1 Z p1 p2 p3 w1 cl1 h0 n0 v U'.heap L ∧ FrameEnd U o U' L room_1.cells room_1.slots) := by
  refine MetFree.of_bodySF (plainFor_of_name pn_0) hisR ?_
  intro p e s m args below meth c s₁ Bd hml0 hP hK
  obtain ⟨rfl, hZ, hh⟩ := hP
  have hx := Bd.exec
  have hby := Bd.bytes
  have hml : c.maxLocals = 12 := hml0
  have hown : s.vm.findClass "com/example/endcon/endcon/rules/LineTextEscapePinLaw" = some m.cls := findClass_of_methodNamed Bd.named
  have hnm := (name_of_methodNamed Bd.named Bd.method).1
  have X0 : Stand p l e room_1 s m #[(.int p1), (.int p2), (.int p3)] below meth c s₁ [] 0 0 := Stand.of_body Bd
  have e0 : s₁.heap = h0 := by rw [← hh, Bd.state]; rfl
  have N0 := Fr.nil n0
  have pre0 : ∀ t, Steps p.tables e below (s₁.setTop (mkF m 0 #[.val (.int p1), .val (.int p2), .val (.int p3), .unset, .unset, .unset, .unset, .unset, .unset, .unset, .unset, .unset] [])) t → Steps p.tables e below (s₁.setTop (entryFrame m #[(.int p1), (.int p2), (.int p3)] maxLocals)) t := fun t k => castTop (ef_0 m p1 p2 p3) k
  have pre1 : ∀ t, Steps p.tables e below (s₁.setTop (mkF m 11 #[.val (.int p1), .val (.int p2), .val (.int p3), .val (.int ((p1 &&& (2147483647 : Int32)) % (67 : Int32))), .unset, .unset, .unset, .unset, .unset, .unset, .unset, .unset] [(.int (32 : Int32)), (.int ((p1 &&& (2147483647 : Int32)) % (67 : Int32)))])) t → Steps p.tables e below (s₁.setTop (entryFrame m #[(.int p1), (.int p2), (.int p3)] maxLocals)) t := fun t kt => by
    refine pre0 _ ?_
    show Steps p.tables e below (s₁.setTop (mkF m 0 #[.val (.int p1), .val (.int p2), .val (.int p3), .unset, .unset, .unset, .unset, .unset, .unset, .unset, .unset, .unset] [])) _
    refine own_blk X0 hx bl0_0_1 (own_hb hby bd0_0_1) (pc' := 1) (Ls' := #[.val (.int p1), .val (.int p2), .val (.int p3), .unset, .unset, .unset, .unset, .unset, .unset, .unset, .unset, .unset]) (st' := [(.int p1)]) rfl ?_
    refine X0.ldcInt hx hown (mvT hZ (hw _ (List.mem_of_getElem? (i := 0) rfl))) (g := (mkF m 1 #[.val (.int p1), .val (.int p2), .val (.int p3), .unset, .unset, .unset, .unset, .unset, .unset, .unset, .unset, .unset] [(.int p1)])) rfl (hb hby at_1) _ ?_
    show Steps p.tables e below (s₁.setTop (mkF m 3 #[.val (.int p1), .val (.int p2), .val (.int p3), .unset, .unset, .unset, .unset, .unset, .unset, .unset, .unset, .unset] [(.int (2147483647 : Int32)), (.int p1)])) _
    refine own_blk X0 hx bl0_3_2 (own_hb hby bd0_3_2) (pc' := 6) (Ls' := #[.val (.int p1), .val (.int p2), .val (.int p3), .unset, .unset, .unset, .unset, .unset, .unset, .unset, .unset, .unset]) (st' := [(.int (67 : Int32)), (.int (p1 &&& (2147483647 : Int32)))]) rfl ?_
    refine iremM X0 hx rfl (hb hby at_6) rfl (by decide : ¬ ((67 : Int32) = (0 : Int32))) ?_
    show Steps p.tables e below (s₁.setTop (mkF m 7 #[.val (.int p1), .val (.int p2), .val (.int p3), .unset, .unset, .unset, .unset, .unset, .unset, .unset, .unset, .unset] [(.int ((p1 &&& (2147483647 : Int32)) % (67 : Int32)))])) _
    refine own_blk X0 hx bl0_7_1 (own_hb hby bd0_7_1) (pc' := 8) (Ls' := #[.val (.int p1), .val (.int p2), .val (.int p3), .val (.int ((p1 &&& (2147483647 : Int32)) % (67 : Int32))), .unset, .unset, .unset, .unset, .unset, .unset, .unset, .unset]) (st' := []) rfl ?_
    refine own_blk X0 hx bl0_8_2 (own_hb hby bd0_8_2) (pc' := 11) (Ls' := #[.val (.int p1), .val (.int p2), .val (.int p3), .val (.int ((p1 &&& (2147483647 : Int32)) % (67 : Int32))), .unset, .unset, .unset, .unset, .unset, .unset, .unset, .unset]) (st' := [(.int (32 : Int32)), (.int ((p1 &&& (2147483647 : Int32)) % (67 : Int32)))]) rfl ?_
    exact kt
  by_cases hc2 : ((p1 &&& (2147483647 : Int32)) % (67 : Int32)) < (32 : Int32)
  · have pre3 : ∀ t, Steps p.tables e below (s₁.setTop (mkF m 58 #[.val (.int p1), .val (.int p2), .val (.int p3), .val (.int ((p1 &&& (2147483647 : Int32)) % (67 : Int32))), .val (.int ((p1 &&& (2147483647 : Int32)) % (67 : Int32))), .val (.int ((p1 &&& (2147483647 : Int32)) % (67 : Int32))), .val (.int (1 : Int32)), .unset, .unset, .unset, .unset, .unset] [])) t → Steps p.tables e below (s₁.setTop (entryFrame m #[(.int p1), (.int p2), (.int p3)] maxLocals)) t := fun t kt => by
      refine pre1 _ ?_
      show Steps p.tables e below (s₁.setTop (mkF m 11 #[.val (.int p1), .val (.int p2), .val (.int p3), .val (.int ((p1 &&& (2147483647 : Int32)) % (67 : Int32))), .unset, .unset, .unset, .unset, .unset, .unset, .unset, .unset] [(.int (32 : Int32)), (.int ((p1 &&& (2147483647 : Int32)) % (67 : Int32)))])) _
      refine XS.icmpNo X0.here hx rfl (hb hby at_11) rfl (tlt hc2).2.1 ?_
      show Steps p.tables e below (s₁.setTop (mkF m 14 #[.val (.int p1), .val (.int p2), .val (.int p3), .val (.int ((p1 &&& (2147483647 : Int32)) % (67 : Int32))), .unset, .unset, .unset, .unset, .unset, .unset, .unset, .unset] [])) _
      refine own_blk X0 hx bl0_14_2 (own_hb hby bd0_14_2) (pc' := 17) (Ls' := #[.val (.int p1), .val (.int p2), .val (.int p3), .val (.int ((p1 &&& (2147483647 : Int32)) % (67 : Int32))), .val (.int ((p1 &&& (2147483647 : Int32)) % (67 : Int32))), .unset, .unset, .unset, .unset, .unset, .unset, .unset]) (st' := []) rfl ?_
      refine own_blk X0 hx bl0_17_3 (own_hb hby bd0_17_3) (pc' := 51) (Ls' := #[.val (.int p1), .val (.int p2), .val (.int p3), .val (.int ((p1 &&& (2147483647 : Int32)) % (67 : Int32))), .val (.int ((p1 &&& (2147483647 : Int32)) % (67 : Int32))), .unset, .unset, .unset, .unset, .unset, .unset, .unset]) (st' := [(.int (((p1 &&& (2147483647 : Int32)) % (67 : Int32)).toUInt32.toUInt16.toUInt32.toInt32))]) rfl ?_
      rw [own_ic (own_r1 p1 hc2)]
      show Steps p.tables e below (s₁.setTop (mkF m 51 #[.val (.int p1), .val (.int p2), .val (.int p3), .val (.int ((p1 &&& (2147483647 : Int32)) % (67 : Int32))), .val (.int ((p1 &&& (2147483647 : Int32)) % (67 : Int32))), .unset, .unset, .unset, .unset, .unset, .unset, .unset] [(.int ((p1 &&& (2147483647 : Int32)) % (67 : Int32)))])) _
      refine own_blk X0 hx bl0_51_1 (own_hb hby bd0_51_1) (pc' := 53) (Ls' := #[.val (.int p1), .val (.int p2), .val (.int p3), .val (.int ((p1 &&& (2147483647 : Int32)) % (67 : Int32))), .val (.int ((p1 &&& (2147483647 : Int32)) % (67 : Int32))), .val (.int ((p1 &&& (2147483647 : Int32)) % (67 : Int32))), .unset, .unset, .unset, .unset, .unset, .unset]) (st' := []) rfl ?_
      refine own_blk X0 hx bl0_53_3 (own_hb hby bd0_53_3) (pc' := 56) (Ls' := #[.val (.int p1), .val (.int p2), .val (.int p3), .val (.int ((p1 &&& (2147483647 : Int32)) % (67 : Int32))), .val (.int ((p1 &&& (2147483647 : Int32)) % (67 : Int32))), .val (.int ((p1 &&& (2147483647 : Int32)) % (67 : Int32))), .unset, .unset, .unset, .unset, .unset, .unset]) (st' := [(.int (p2 &&& (3 : Int32)))]) rfl ?_
      rw [hn]
      show Steps p.tables e below (s₁.setTop (mkF m 56 #[.val (.int p1), .val (.int p2), .val (.int p3), .val (.int ((p1 &&& (2147483647 : Int32)) % (67 : Int32))), .val (.int ((p1 &&& (2147483647 : Int32)) % (67 : Int32))), .val (.int ((p1 &&& (2147483647 : Int32)) % (67 : Int32))), .unset, .unset, .unset, .unset, .unset, .unset] [(.int (1 : Int32))])) _
      refine own_blk X0 hx bl0_56_1 (own_hb hby bd0_56_1) (pc' := 58) (Ls' := #[.val (.int p1), .val (.int p2), .val (.int p3), .val (.int ((p1 &&& (2147483647 : Int32)) % (67 : Int32))), .val (.int ((p1 &&& (2147483647 : Int32)) % (67 : Int32))), .val (.int ((p1 &&& (2147483647 : Int32)) % (67 : Int32))), .val (.int (1 : Int32)), .unset, .unset, .unset, .unset, .unset]) (st' := []) rfl ?_
      exact kt
    obtain ⟨s24, o4, u4a, u4b, u4c, v4, L4, rfl, ⟨rfl, u4d⟩, u4e⟩ := tlA1 p1 p2 p3 ((p1 &&& (2147483647 : Int32)) % (67 : Int32)) ((p1 &&& (2147483647 : Int32)) % (67 : Int32)) w1 cl1 X0 hx hZ hw hby hml hown Bd.returns Bd.notSynchronized e0 N0 Z0 pre3 S_HEX_DIGITS Ar_w1 sz1 hv (own_r1 p1 hc2).1 (own_r1 p1 hc2).2
    exact ⟨s24, _, u4a, u4b, u4c, _, _, rfl, ⟨by rw [f0_1, if_pos hc2], u4d⟩, u4e⟩
  · have pre5 : ∀ t, Steps p.tables e below (s₁.setTop (mkF m 23 #[.val (.int p1), .val (.int p2), .val (.int p3), .val (.int ((p1 &&& (2147483647 : Int32)) % (67 : Int32))), .unset, .unset, .unset, .unset, .unset, .unset, .unset, .unset] [(.int (65 : Int32)), (.int ((p1 &&& (2147483647 : Int32)) % (67 : Int32)))])) t → Steps p.tables e below (s₁.setTop (entryFrame m #[(.int p1), (.int p2), (.int p3)] maxLocals)) t := fun t kt => by
      refine pre1 _ ?_
      show Steps p.tables e below (s₁.setTop (mkF m 11 #[.val (.int p1), .val (.int p2), .val (.int p3), .val (.int ((p1 &&& (2147483647 : Int32)) % (67 : Int32))), .unset, .unset, .unset, .unset, .unset, .unset, .unset, .unset] [(.int (32 : Int32)), (.int ((p1 &&& (2147483647 : Int32)) % (67 : Int32)))])) _
      refine XS.icmpYes X0.here hx rfl (pc0 := 11) (pc' := 20) rfl (hb hby at_11) rfl (flt hc2).2.1 (by decide) (by decide) ?_
      show Steps p.tables e below (s₁.setTop (mkF m 20 #[.val (.int p1), .val (.int p2), .val (.int p3), .val (.int ((p1 &&& (2147483647 : Int32)) % (67 : Int32))), .unset, .unset, .unset, .unset, .unset, .unset, .unset, .unset] [])) _
      refine own_blk X0 hx bl0_20_2 (own_hb hby bd0_20_2) (pc' := 23) (Ls' := #[.val (.int p1), .val (.int p2), .val (.int p3), .val (.int ((p1 &&& (2147483647 : Int32)) % (67 : Int32))), .unset, .unset, .unset, .unset, .unset, .unset, .unset, .unset]) (st' := [(.int (65 : Int32)), (.int ((p1 &&& (2147483647 : Int32)) % (67 : Int32)))]) rfl ?_
      exact kt
    by_cases hc6 : ((p1 &&& (2147483647 : Int32)) % (67 : Int32)) < (65 : Int32)
    · have pre7 : ∀ t, Steps p.tables e below (s₁.setTop (mkF m 58 #[.val (.int p1), .val (.int p2), .val (.int p3), .val (.int ((p1 &&& (2147483647 : Int32)) % (67 : Int32))), .val (.int ((127 : Int32) + (((p1 &&& (2147483647 : Int32)) % (67 : Int32)) - (32 : Int32)))), .val (.int ((127 : Int32) + (((p1 &&& (2147483647 : Int32)) % (67 : Int32)) - (32 : Int32)))), .val (.int (1 : Int32)), .unset, .unset, .unset, .unset, .unset] [])) t → Steps p.tables e below (s₁.setTop (entryFrame m #[(.int p1), (.int p2), (.int p3)] maxLocals)) t := fun t kt => by
        refine pre5 _ ?_
        show Steps p.tables e below (s₁.setTop (mkF m 23 #[.val (.int p1), .val (.int p2), .val (.int p3), .val (.int ((p1 &&& (2147483647 : Int32)) % (67 : Int32))), .unset, .unset, .unset, .unset, .unset, .unset, .unset, .unset] [(.int (65 : Int32)), (.int ((p1 &&& (2147483647 : Int32)) % (67 : Int32)))])) _
        refine XS.icmpNo X0.here hx rfl (hb hby at_23) rfl (tlt hc6).2.1 ?_
        show Steps p.tables e below (s₁.setTop (mkF m 26 #[.val (.int p1), .val (.int p2), .val (.int p3), .val (.int ((p1 &&& (2147483647 : Int32)) % (67 : Int32))), .unset, .unset, .unset, .unset, .unset, .unset, .unset, .unset] [])) _
        refine own_blk X0 hx bl0_26_6 (own_hb hby bd0_26_6) (pc' := 35) (Ls' := #[.val (.int p1), .val (.int p2), .val (.int p3), .val (.int ((p1 &&& (2147483647 : Int32)) % (67 : Int32))), .val (.int ((127 : Int32) + (((p1 &&& (2147483647 : Int32)) % (67 : Int32)) - (32 : Int32)))), .unset, .unset, .unset, .unset, .unset, .unset, .unset]) (st' := []) rfl ?_
        refine own_blk X0 hx bl0_35_3 (own_hb hby bd0_35_3) (pc' := 51) (Ls' := #[.val (.int p1), .val (.int p2), .val (.int p3), .val (.int ((p1 &&& (2147483647 : Int32)) % (67 : Int32))), .val (.int ((127 : Int32) + (((p1 &&& (2147483647 : Int32)) % (67 : Int32)) - (32 : Int32)))), .unset, .unset, .unset, .unset, .unset, .unset, .unset]) (st' := [(.int (((127 : Int32) + (((p1 &&& (2147483647 : Int32)) % (67 : Int32)) - (32 : Int32))).toUInt32.toUInt16.toUInt32.toInt32))]) rfl ?_
        rw [own_ic (own_r2 p1 hc2 hc6)]
        show Steps p.tables e below (s₁.setTop (mkF m 51 #[.val (.int p1), .val (.int p2), .val (.int p3), .val (.int ((p1 &&& (2147483647 : Int32)) % (67 : Int32))), .val (.int ((127 : Int32) + (((p1 &&& (2147483647 : Int32)) % (67 : Int32)) - (32 : Int32)))), .unset, .unset, .unset, .unset, .unset, .unset, .unset] [(.int ((127 : Int32) + (((p1 &&& (2147483647 : Int32)) % (67 : Int32)) - (32 : Int32))))])) _
        refine own_blk X0 hx bl0_51_1 (own_hb hby bd0_51_1) (pc' := 53) (Ls' := #[.val (.int p1), .val (.int p2), .val (.int p3), .val (.int ((p1 &&& (2147483647 : Int32)) % (67 : Int32))), .val (.int ((127 : Int32) + (((p1 &&& (2147483647 : Int32)) % (67 : Int32)) - (32 : Int32)))), .val (.int ((127 : Int32) + (((p1 &&& (2147483647 : Int32)) % (67 : Int32)) - (32 : Int32)))), .unset, .unset, .unset, .unset, .unset, .unset]) (st' := []) rfl ?_
        refine own_blk X0 hx bl0_53_3 (own_hb hby bd0_53_3) (pc' := 56) (Ls' := #[.val (.int p1), .val (.int p2), .val (.int p3), .val (.int ((p1 &&& (2147483647 : Int32)) % (67 : Int32))), .val (.int ((127 : Int32) + (((p1 &&& (2147483647 : Int32)) % (67 : Int32)) - (32 : Int32)))), .val (.int ((127 : Int32) + (((p1 &&& (2147483647 : Int32)) % (67 : Int32)) - (32 : Int32)))), .unset, .unset, .unset, .unset, .unset, .unset]) (st' := [(.int (p2 &&& (3 : Int32)))]) rfl ?_
        rw [hn]
        show Steps p.tables e below (s₁.setTop (mkF m 56 #[.val (.int p1), .val (.int p2), .val (.int p3), .val (.int ((p1 &&& (2147483647 : Int32)) % (67 : Int32))), .val (.int ((127 : Int32) + (((p1 &&& (2147483647 : Int32)) % (67 : Int32)) - (32 : Int32)))), .val (.int ((127 : Int32) + (((p1 &&& (2147483647 : Int32)) % (67 : Int32)) - (32 : Int32)))), .unset, .unset, .unset, .unset, .unset, .unset] [(.int (1 : Int32))])) _
        refine own_blk X0 hx bl0_56_1 (own_hb hby bd0_56_1) (pc' := 58) (Ls' := #[.val (.int p1), .val (.int p2), .val (.int p3), .val (.int ((p1 &&& (2147483647 : Int32)) % (67 : Int32))), .val (.int ((127 : Int32) + (((p1 &&& (2147483647 : Int32)) % (67 : Int32)) - (32 : Int32)))), .val (.int ((127 : Int32) + (((p1 &&& (2147483647 : Int32)) % (67 : Int32)) - (32 : Int32)))), .val (.int (1 : Int32)), .unset, .unset, .unset, .unset, .unset]) (st' := []) rfl ?_
        exact kt
      obtain ⟨s28, o8, u8a, u8b, u8c, v8, L8, rfl, ⟨rfl, u8d⟩, u8e⟩ := tlA1 p1 p2 p3 ((p1 &&& (2147483647 : Int32)) % (67 : Int32)) ((127 : Int32) + (((p1 &&& (2147483647 : Int32)) % (67 : Int32)) - (32 : Int32))) w1 cl1 X0 hx hZ hw hby hml hown Bd.returns Bd.notSynchronized e0 N0 Z0 pre7 S_HEX_DIGITS Ar_w1 sz1 hv (own_r2 p1 hc2 hc6).1 (own_r2 p1 hc2 hc6).2
      exact ⟨s28, _, u8a, u8b, u8c, _, _, rfl, ⟨by rw [f0_1, if_neg hc2, if_pos hc6], u8d⟩, u8e⟩
    · have pre9 : ∀ t, Steps p.tables e below (s₁.setTop (mkF m 58 #[.val (.int p1), .val (.int p2), .val (.int p3), .val (.int ((p1 &&& (2147483647 : Int32)) % (67 : Int32))), .val (.int ((8232 : Int32) + (((p1 &&& (2147483647 : Int32)) % (67 : Int32)) - (65 : Int32)))), .val (.int ((8232 : Int32) + (((p1 &&& (2147483647 : Int32)) % (67 : Int32)) - (65 : Int32)))), .val (.int (1 : Int32)), .unset, .unset, .unset, .unset, .unset] [])) t → Steps p.tables e below (s₁.setTop (entryFrame m #[(.int p1), (.int p2), (.int p3)] maxLocals)) t := fun t kt => by
        refine pre5 _ ?_
        show Steps p.tables e below (s₁.setTop (mkF m 23 #[.val (.int p1), .val (.int p2), .val (.int p3), .val (.int ((p1 &&& (2147483647 : Int32)) % (67 : Int32))), .unset, .unset, .unset, .unset, .unset, .unset, .unset, .unset] [(.int (65 : Int32)), (.int ((p1 &&& (2147483647 : Int32)) % (67 : Int32)))])) _
        refine XS.icmpYes X0.here hx rfl (pc0 := 23) (pc' := 38) rfl (hb hby at_23) rfl (flt hc6).2.1 (by decide) (by decide) ?_
        show Steps p.tables e below (s₁.setTop (mkF m 38 #[.val (.int p1), .val (.int p2), .val (.int p3), .val (.int ((p1 &&& (2147483647 : Int32)) % (67 : Int32))), .unset, .unset, .unset, .unset, .unset, .unset, .unset, .unset] [])) _
        refine own_blk X0 hx bl0_38_6 (own_hb hby bd0_38_6) (pc' := 48) (Ls' := #[.val (.int p1), .val (.int p2), .val (.int p3), .val (.int ((p1 &&& (2147483647 : Int32)) % (67 : Int32))), .val (.int ((8232 : Int32) + (((p1 &&& (2147483647 : Int32)) % (67 : Int32)) - (65 : Int32)))), .unset, .unset, .unset, .unset, .unset, .unset, .unset]) (st' := []) rfl ?_
        refine own_blk X0 hx bl0_48_2 (own_hb hby bd0_48_2) (pc' := 51) (Ls' := #[.val (.int p1), .val (.int p2), .val (.int p3), .val (.int ((p1 &&& (2147483647 : Int32)) % (67 : Int32))), .val (.int ((8232 : Int32) + (((p1 &&& (2147483647 : Int32)) % (67 : Int32)) - (65 : Int32)))), .unset, .unset, .unset, .unset, .unset, .unset, .unset]) (st' := [(.int (((8232 : Int32) + (((p1 &&& (2147483647 : Int32)) % (67 : Int32)) - (65 : Int32))).toUInt32.toUInt16.toUInt32.toInt32))]) rfl ?_
        rw [own_ic (own_r3 p1 hc6)]
        show Steps p.tables e below (s₁.setTop (mkF m 51 #[.val (.int p1), .val (.int p2), .val (.int p3), .val (.int ((p1 &&& (2147483647 : Int32)) % (67 : Int32))), .val (.int ((8232 : Int32) + (((p1 &&& (2147483647 : Int32)) % (67 : Int32)) - (65 : Int32)))), .unset, .unset, .unset, .unset, .unset, .unset, .unset] [(.int ((8232 : Int32) + (((p1 &&& (2147483647 : Int32)) % (67 : Int32)) - (65 : Int32))))])) _
        refine own_blk X0 hx bl0_51_1 (own_hb hby bd0_51_1) (pc' := 53) (Ls' := #[.val (.int p1), .val (.int p2), .val (.int p3), .val (.int ((p1 &&& (2147483647 : Int32)) % (67 : Int32))), .val (.int ((8232 : Int32) + (((p1 &&& (2147483647 : Int32)) % (67 : Int32)) - (65 : Int32)))), .val (.int ((8232 : Int32) + (((p1 &&& (2147483647 : Int32)) % (67 : Int32)) - (65 : Int32)))), .unset, .unset, .unset, .unset, .unset, .unset]) (st' := []) rfl ?_
        refine own_blk X0 hx bl0_53_3 (own_hb hby bd0_53_3) (pc' := 56) (Ls' := #[.val (.int p1), .val (.int p2), .val (.int p3), .val (.int ((p1 &&& (2147483647 : Int32)) % (67 : Int32))), .val (.int ((8232 : Int32) + (((p1 &&& (2147483647 : Int32)) % (67 : Int32)) - (65 : Int32)))), .val (.int ((8232 : Int32) + (((p1 &&& (2147483647 : Int32)) % (67 : Int32)) - (65 : Int32)))), .unset, .unset, .unset, .unset, .unset, .unset]) (st' := [(.int (p2 &&& (3 : Int32)))]) rfl ?_
        rw [hn]
        show Steps p.tables e below (s₁.setTop (mkF m 56 #[.val (.int p1), .val (.int p2), .val (.int p3), .val (.int ((p1 &&& (2147483647 : Int32)) % (67 : Int32))), .val (.int ((8232 : Int32) + (((p1 &&& (2147483647 : Int32)) % (67 : Int32)) - (65 : Int32)))), .val (.int ((8232 : Int32) + (((p1 &&& (2147483647 : Int32)) % (67 : Int32)) - (65 : Int32)))), .unset, .unset, .unset, .unset, .unset, .unset] [(.int (1 : Int32))])) _
        refine own_blk X0 hx bl0_56_1 (own_hb hby bd0_56_1) (pc' := 58) (Ls' := #[.val (.int p1), .val (.int p2), .val (.int p3), .val (.int ((p1 &&& (2147483647 : Int32)) % (67 : Int32))), .val (.int ((8232 : Int32) + (((p1 &&& (2147483647 : Int32)) % (67 : Int32)) - (65 : Int32)))), .val (.int ((8232 : Int32) + (((p1 &&& (2147483647 : Int32)) % (67 : Int32)) - (65 : Int32)))), .val (.int (1 : Int32)), .unset, .unset, .unset, .unset, .unset]) (st' := []) rfl ?_
        exact kt
      obtain ⟨s210, o10, u10a, u10b, u10c, v10, L10, rfl, ⟨rfl, u10d⟩, u10e⟩ := tlA1 p1 p2 p3 ((p1 &&& (2147483647 : Int32)) % (67 : Int32)) ((8232 : Int32) + (((p1 &&& (2147483647 : Int32)) % (67 : Int32)) - (65 : Int32))) w1 cl1 X0 hx hZ hw hby hml hown Bd.returns Bd.notSynchronized e0 N0 Z0 pre9 S_HEX_DIGITS Ar_w1 sz1 hv (own_r3 p1 hc6).1 (own_r3 p1 hc6).2
      exact ⟨s210, _, u10a, u10b, u10c, _, _, rfl, ⟨by rw [f0_1, if_neg hc2, if_neg hc6], u10d⟩, u10e⟩
theorem own_law1 (a b c : Int32) : f0_1 a b c = 1 := by
  unfold f0_1 fA1 fB1
  simp only [ite_self]

def f1_2 (p1 : Int32) (u : Int32) : Int32 := (if p1 = (8 : Int32) then (4 : Int32) else (if p1 = (9 : Int32) then (4 : Int32) else (if p1 = (10 : Int32) then (4 : Int32) else (if p1 = (11 : Int32) then (8 : Int32) else (if p1 = (12 : Int32) then (4 : Int32) else (if p1 = (13 : Int32) then (4 : Int32) else (8 : Int32)))))))
def f1_2_a2_0 (p1 : Int32) (u : Int32) : Int32 := u
def f1_2_a2_1 (p1 : Int32) (u : Int32) : Int32 := u
def f1_2_a2_2 (p1 : Int32) (u : Int32) : Int32 := (nar .byte (92 : Int32))
def f1_2_a2_3 (p1 : Int32) (u : Int32) : Int32 := (if p1 = (8 : Int32) then (nar .byte (98 : Int32)) else (if p1 = (9 : Int32) then (nar .byte (116 : Int32)) else (if p1 = (10 : Int32) then (nar .byte (110 : Int32)) else (if p1 = (11 : Int32) then (nar .byte (117 : Int32)) else (if p1 = (12 : Int32) then (nar .byte (102 : Int32)) else (if p1 = (13 : Int32) then (nar .byte (114 : Int32)) else (nar .byte (117 : Int32))))))))
def f1_2_a2_4 (p1 : Int32) (u : Int32) : Int32 := (if p1 = (8 : Int32) then u else (if p1 = (9 : Int32) then u else (if p1 = (10 : Int32) then u else (if p1 = (11 : Int32) then (nar .byte (own_tab (p1 >>> ((12 : Int32) &&& 31)))) else (if p1 = (12 : Int32) then u else (if p1 = (13 : Int32) then u else (nar .byte (own_tab (p1 >>> ((12 : Int32) &&& 31))))))))))
def f1_2_a2_5 (p1 : Int32) (u : Int32) : Int32 := (if p1 = (8 : Int32) then u else (if p1 = (9 : Int32) then u else (if p1 = (10 : Int32) then u else (if p1 = (11 : Int32) then (nar .byte (own_tab ((p1 >>> ((8 : Int32) &&& 31)) &&& (15 : Int32)))) else (if p1 = (12 : Int32) then u else (if p1 = (13 : Int32) then u else (nar .byte (own_tab ((p1 >>> ((8 : Int32) &&& 31)) &&& (15 : Int32))))))))))
def f1_2_a2_6 (p1 : Int32) (u : Int32) : Int32 := (if p1 = (8 : Int32) then u else (if p1 = (9 : Int32) then u else (if p1 = (10 : Int32) then u else (if p1 = (11 : Int32) then (nar .byte (own_tab ((p1 >>> ((4 : Int32) &&& 31)) &&& (15 : Int32)))) else (if p1 = (12 : Int32) then u else (if p1 = (13 : Int32) then u else (nar .byte (own_tab ((p1 >>> ((4 : Int32) &&& 31)) &&& (15 : Int32))))))))))
def f1_2_a2_7 (p1 : Int32) (u : Int32) : Int32 := (if p1 = (8 : Int32) then u else (if p1 = (9 : Int32) then u else (if p1 = (10 : Int32) then u else (if p1 = (11 : Int32) then (nar .byte (own_tab (p1 &&& (15 : Int32)))) else (if p1 = (12 : Int32) then u else (if p1 = (13 : Int32) then u else (nar .byte (own_tab (p1 &&& (15 : Int32))))))))))
def f1_2_a2_8 (p1 : Int32) (u : Int32) : Int32 := u
def f1_2_a2_9 (p1 : Int32) (u : Int32) : Int32 := u
def Q1_2 (Z : State) (p1 : Int32) (a2 : Addr) (u : Int32) (w1 : Addr) (cl1 : Cell) (k_a2 : ClassId) (h0 : Heap) (n0 : Nat) (v : Option Value) (h : Heap) (L : List Loc) : Prop := v = some (.int (f1_2 p1 u)) ∧ Fr n0 L ∧ Keep h0 h [a2] ∧ Arv Z h a2 k_a2 .byte (10 : Int32) [(.int (f1_2_a2_0 p1 u)), (.int (f1_2_a2_1 p1 u)), (.int (f1_2_a2_2 p1 u)), (.int (f1_2_a2_3 p1 u)), (.int (f1_2_a2_4 p1 u)), (.int (f1_2_a2_5 p1 u)), (.int (f1_2_a2_6 p1 u)), (.int (f1_2_a2_7 p1 u)), (.int (f1_2_a2_8 p1 u)), (.int (f1_2_a2_9 p1 u))] (.int (0 : Int32))
set_option maxRecDepth 65536 in
set_option maxHeartbeats 40000000 in
theorem rm1_2 (l : Launch) (Z : State) (a0 : Array Value) (hw : ∀ d ∈ tables_1, d.before a0 Z = true) (ws : List Jvm.Cond) (p1 : Int32) (a2 : Addr) (u : Int32) (w1 : Addr) (cl1 : Cell) (k_a2 : ClassId) (h0 : Heap) (n0 : Nat) (Z0 : n0 ≤ h0.size) (V_a2 : Arv Z h0 a2 k_a2 .byte (10 : Int32) [(.int u), (.int u), (.int u), (.int u), (.int u), (.int u), (.int u), (.int u), (.int u), (.int u)] (.int (0 : Int32))) (g_a2 : n0 ≤ a2) (S_HEX_DIGITS : Sta Z h0 "com/example/endcon/endcon/rules/LineText" "HEX_DIGITS" "[B" (.ref w1)) (ne_w1_a2 : w1 ≠ a2) (Ar_w1 : Arr Z h0 w1 cl1 .byte) (sz1 : cl1.slots.size = (16 : Int32).toNatClampNeg) (hv : ∀ j : Int32, ¬ j < 0 → j < 16 → cl1.slots[j.toNatClampNeg]? = some (.int (own_tab j))) (hp : ¬ (p1 < 0)) (hp2 : p1 < 65536) :
    MetFree l (⟨"com/example/endcon/endcon/rules/LineText", "escape", "(C[BI)I"⟩ : MethodName) (head1 (Jvm.Cond.code (⟨"com/example/endcon/endcon/rules/LineText", "escape", "(C[BI)I"⟩ : MethodName) prog_84_method_3_code 5 (some .int) :: ws) ({ frames := 0, cells := 0, slots := 0, locals := 0 } : Room)) (fun a U => a = #[(.int p1), (.ref a2), (.int (2 : Int32))] ∧ Z.Warmed39 U.vm ∧ U.heap = h0) (fun _ _ _ _ _ => True) (fun _ U o U' => ∃ v L, o = .returned v ∧ Q1_2 Z p1 a2 u w1 cl1 k_a2 h0 n0 v U'.heap L ∧ FrameEnd U o U' L ({ frames := 0, cells := 0, slots := 0, locals := 0 } : Room).cells ({ frames := 0, cells := 0, slots := 0, locals := 0 } : Room).slots) := by
  refine MetFree.of_bodySF (plainFor_of_name pn_1) hisR ?_
  intro p e s m args below meth c s₁ Bd hml0 hP hK
  obtain ⟨rfl, hZ, hh⟩ := hP
  have hx := Bd.exec
  have hby := Bd.bytes
  have hml : c.maxLocals = 5 := hml0
  have hown : s.vm.findClass "com/example/endcon/endcon/rules/LineText" = some m.cls := findClass_of_methodNamed Bd.named
  have hnm := (name_of_methodNamed Bd.named Bd.method).1
  have X0 : Stand p l e ({ frames := 0, cells := 0, slots := 0, locals := 0 } : Room) s m #[(.int p1), (.ref a2), (.int (2 : Int32))] below meth c s₁ [] 0 0 := Stand.of_body Bd
  have e0 : s₁.heap = h0 := by rw [← hh, Bd.state]; rfl
  have N0 := Fr.nil n0
  have pre0 : ∀ t, Steps p.tables e below (s₁.setTop (mkF m 0 #[.val (.int p1), .val (.ref a2), .val (.int (2 : Int32)), .unset, .unset] [])) t → Steps p.tables e below (s₁.setTop (entryFrame m #[(.int p1), (.ref a2), (.int (2 : Int32))] 5)) t := fun t k => castTop (ef_1 m p1 a2 (2 : Int32)) k
  obtain ⟨cx1, Ar1, qq1, S1, N1_, H1, G1⟩ := id V_a2
  have hin1 : ¬ ((2 : Int32) < 0 ∨ cx1.slots.size ≤ ((2 : Int32)).toNatClampNeg) := inb_of S1 ⟨by decide, by decide⟩
  obtain ⟨T1, h1, X1, e1, W1, st1⟩ := stB X0 hx hZ e0 Ar1 (j := (2 : Int32)) hin1 (g := (mkF m 4 #[.val (.int p1), .val (.ref a2), .val (.int (2 : Int32)), .unset, .unset] [(.int (92 : Int32)), (.int (2 : Int32)), (.ref a2)])) rfl rfl (hb hby d1_4)
  have V1 : Arv Z h1 a2 k_a2 .byte (10 : Int32) [(.int u), (.int u), (.int (nar .byte (92 : Int32))), (.int u), (.int u), (.int u), (.int u), (.int u), (.int u), (.int u)] (.int (0 : Int32)) := Arv.set Ar1 qq1 S1 N1_ H1 G1 (fits_nar_byte _) W1 2 rfl (Nat.le_of_ble_eq_true rfl)
  have zs2 : n0 ≤ h1.size := Nat.le_trans Z0 (Keep.of_wr W1).1
  have kp3 : Keep h0 h1 [a2] := (Keep.refl h0 [a2]).wr W1 (Or.inl (List.mem_of_getElem? (i := 0) rfl))
  have N1 := Fr.snoc X1 N0 g_a2
  have pre4 : ∀ t, Steps p.tables e below (T1.setTop (mkF m 6 #[.val (.int p1), .val (.ref a2), .val (.int (2 : Int32)), .unset, .unset] [(.int p1)])) t → Steps p.tables e below (s₁.setTop (entryFrame m #[(.int p1), (.ref a2), (.int (2 : Int32))] 5)) t := fun t kt => by
    refine pre0 _ ?_
    show Steps p.tables e below (s₁.setTop (mkF m 0 #[.val (.int p1), .val (.ref a2), .val (.int (2 : Int32)), .unset, .unset] [])) _
    refine own_blk X0 hx bl1_0_3 (own_hb hby bd1_0_3) (pc' := 4) (Ls' := #[.val (.int p1), .val (.ref a2), .val (.int (2 : Int32)), .unset, .unset]) (st' := [(.int (92 : Int32)), (.int (2 : Int32)), (.ref a2)]) rfl ?_
    refine st1 _ ?_
    show Steps p.tables e below (T1.setTop (mkF m 5 #[.val (.int p1), .val (.ref a2), .val (.int (2 : Int32)), .unset, .unset] [])) _
    refine own_blk X1 hx bl1_5_1 (own_hb hby bd1_5_1) (pc' := 6) (Ls' := #[.val (.int p1), .val (.ref a2), .val (.int (2 : Int32)), .unset, .unset]) (st' := [(.int p1)]) rfl ?_
    exact kt
  by_cases hc5 : p1 = (8 : Int32)
  · obtain ⟨cx6, Ar6, qq6, S6, N6_, H6, G6⟩ := id V1
    have hin6 : ¬ ((3 : Int32) < 0 ∨ cx6.slots.size ≤ ((3 : Int32)).toNatClampNeg) := inb_of S6 ⟨by decide, by decide⟩
    obtain ⟨T6, h6, X6, e6, W6, st6⟩ := stB X1 hx hZ e1 Ar6 (j := (3 : Int32)) hin6 (g := (mkF m 80 #[.val (.int p1), .val (.ref a2), .val (.int (2 : Int32)), .val (.int (98 : Int32)), .unset] [(.int (98 : Int32)), (.int (3 : Int32)), (.ref a2)])) rfl rfl (hb hby d1_80)
    have V6 : Arv Z h6 a2 k_a2 .byte (10 : Int32) [(.int u), (.int u), (.int (nar .byte (92 : Int32))), (.int (nar .byte (98 : Int32))), (.int u), (.int u), (.int u), (.int u), (.int u), (.int u)] (.int (0 : Int32)) := Arv.set Ar6 qq6 S6 N6_ H6 G6 (fits_nar_byte _) W6 3 rfl (Nat.le_of_ble_eq_true rfl)
    have zs7 : n0 ≤ h6.size := Nat.le_trans zs2 (Keep.of_wr W6).1
    have kp8 : Keep h0 h6 [a2] := kp3.wr W6 (Or.inl (List.mem_of_getElem? (i := 0) rfl))
    have N6 := Fr.snoc X6 N1 g_a2
    obtain ⟨fs, hr, hrun, hended, hW, hsame⟩ := X6.leave (v := some (.int (4 : Int32))) (fun h => by rw [Bd.returns] at h; cases h)
    refine ⟨_, _, pre4 _ ?_, hrun, hended, _, _, rfl, ?_, ⟨_, rfl⟩, hW, hsame.mono (by decide) (by decide)⟩
    · show Steps p.tables e below (T1.setTop (mkF m 6 #[.val (.int p1), .val (.ref a2), .val (.int (2 : Int32)), .unset, .unset] [(.int p1)])) _
      refine XS.tswIn X1.here hx rfl (pc0 := 6) (pc' := 44) (o := 38) rfl (hb hby d1_6) rfl (by rw [hc5]; decide) (by rw [hc5]; rfl) (by decide) (by decide) ?_
      show Steps p.tables e below (T1.setTop (mkF m 44 #[.val (.int p1), .val (.ref a2), .val (.int (2 : Int32)), .unset, .unset] [])) _
      refine own_blk X1 hx bl1_44_3 (own_hb hby bd1_44_3) (pc' := 71) (Ls' := #[.val (.int p1), .val (.ref a2), .val (.int (2 : Int32)), .val (.int (98 : Int32)), .unset]) (st' := []) rfl ?_
      refine own_blk X1 hx bl1_71_1 (own_hb hby bd1_71_1) (pc' := 72) (Ls' := #[.val (.int p1), .val (.ref a2), .val (.int (2 : Int32)), .val (.int (98 : Int32)), .unset]) (st' := [(.int (98 : Int32))]) rfl ?_
      refine XS.ifNo X1.here hx rfl (hb hby d1_72) rfl ((if0 _ _).trans (feq (by decide : ¬ ((98 : Int32) = (0 : Int32)))).1) ?_
      show Steps p.tables e below (T1.setTop (mkF m 75 #[.val (.int p1), .val (.ref a2), .val (.int (2 : Int32)), .val (.int (98 : Int32)), .unset] [])) _
      refine own_blk X1 hx bl1_75_5 (own_hb hby bd1_75_5) (pc' := 80) (Ls' := #[.val (.int p1), .val (.ref a2), .val (.int (2 : Int32)), .val (.int (98 : Int32)), .unset]) (st' := [(.int (98 : Int32)), (.int (3 : Int32)), (.ref a2)]) rfl ?_
      refine st6 _ ?_
      show Steps p.tables e below (T6.setTop (mkF m 81 #[.val (.int p1), .val (.ref a2), .val (.int (2 : Int32)), .val (.int (98 : Int32)), .unset] [])) _
      refine own_blk X6 hx bl1_81_4 (own_hb hby bd1_81_4) (pc' := 86) (Ls' := #[.val (.int p1), .val (.ref a2), .val (.int (2 : Int32)), .val (.int (98 : Int32)), .val (.int (4 : Int32))]) (st' := []) rfl ?_
      refine own_blk X6 hx bl1_86_2 (own_hb hby bd1_86_2) (pc' := 161) (Ls' := #[.val (.int p1), .val (.ref a2), .val (.int (2 : Int32)), .val (.int (98 : Int32)), .val (.int (4 : Int32))]) (st' := [(.int (4 : Int32))]) rfl ?_
      exact retI X6 hx Bd.returns (hb hby d1_161) hr
    · show Q1_2 Z p1 a2 u w1 cl1 k_a2 h0 n0 _ T6.heap _
      rw [e6]
      have lf9 : Arv Z h6 a2 k_a2 .byte (10 : Int32) [(.int (f1_2_a2_0 p1 u)), (.int (f1_2_a2_1 p1 u)), (.int (f1_2_a2_2 p1 u)), (.int (f1_2_a2_3 p1 u)), (.int (f1_2_a2_4 p1 u)), (.int (f1_2_a2_5 p1 u)), (.int (f1_2_a2_6 p1 u)), (.int (f1_2_a2_7 p1 u)), (.int (f1_2_a2_8 p1 u)), (.int (f1_2_a2_9 p1 u))] (.int (0 : Int32)) := by simp only [f1_2_a2_0, f1_2_a2_1, f1_2_a2_2, f1_2_a2_3, f1_2_a2_4, f1_2_a2_5, f1_2_a2_6, f1_2_a2_7, f1_2_a2_8, f1_2_a2_9, if_pos hc5]; exact V6
      exact ⟨by rw [f1_2, if_pos hc5], N6, kp8, lf9⟩
  · by_cases hc10 : p1 = (9 : Int32)
    · obtain ⟨cx11, Ar11, qq11, S11, N11_, H11, G11⟩ := id V1
      have hin11 : ¬ ((3 : Int32) < 0 ∨ cx11.slots.size ≤ ((3 : Int32)).toNatClampNeg) := inb_of S11 ⟨by decide, by decide⟩
      obtain ⟨T11, h11, X11, e11, W11, st11⟩ := stB X1 hx hZ e1 Ar11 (j := (3 : Int32)) hin11 (g := (mkF m 80 #[.val (.int p1), .val (.ref a2), .val (.int (2 : Int32)), .val (.int (116 : Int32)), .unset] [(.int (116 : Int32)), (.int (3 : Int32)), (.ref a2)])) rfl rfl (hb hby d1_80)
      have V11 : Arv Z h11 a2 k_a2 .byte (10 : Int32) [(.int u), (.int u), (.int (nar .byte (92 : Int32))), (.int (nar .byte (116 : Int32))), (.int u), (.int u), (.int u), (.int u), (.int u), (.int u)] (.int (0 : Int32)) := Arv.set Ar11 qq11 S11 N11_ H11 G11 (fits_nar_byte _) W11 3 rfl (Nat.le_of_ble_eq_true rfl)
      have zs12 : n0 ≤ h11.size := Nat.le_trans zs2 (Keep.of_wr W11).1
      have kp13 : Keep h0 h11 [a2] := kp3.wr W11 (Or.inl (List.mem_of_getElem? (i := 0) rfl))
      have N11 := Fr.snoc X11 N1 g_a2
      obtain ⟨fs, hr, hrun, hended, hW, hsame⟩ := X11.leave (v := some (.int (4 : Int32))) (fun h => by rw [Bd.returns] at h; cases h)
      refine ⟨_, _, pre4 _ ?_, hrun, hended, _, _, rfl, ?_, ⟨_, rfl⟩, hW, hsame.mono (by decide) (by decide)⟩
      · show Steps p.tables e below (T1.setTop (mkF m 6 #[.val (.int p1), .val (.ref a2), .val (.int (2 : Int32)), .unset, .unset] [(.int p1)])) _
        refine XS.tswIn X1.here hx rfl (pc0 := 6) (pc' := 49) (o := 43) rfl (hb hby d1_6) rfl (by rw [hc10]; decide) (by rw [hc10]; rfl) (by decide) (by decide) ?_
        show Steps p.tables e below (T1.setTop (mkF m 49 #[.val (.int p1), .val (.ref a2), .val (.int (2 : Int32)), .unset, .unset] [])) _
        refine own_blk X1 hx bl1_49_3 (own_hb hby bd1_49_3) (pc' := 71) (Ls' := #[.val (.int p1), .val (.ref a2), .val (.int (2 : Int32)), .val (.int (116 : Int32)), .unset]) (st' := []) rfl ?_
        refine own_blk X1 hx bl1_71_1 (own_hb hby bd1_71_1) (pc' := 72) (Ls' := #[.val (.int p1), .val (.ref a2), .val (.int (2 : Int32)), .val (.int (116 : Int32)), .unset]) (st' := [(.int (116 : Int32))]) rfl ?_
        refine XS.ifNo X1.here hx rfl (hb hby d1_72) rfl ((if0 _ _).trans (feq (by decide : ¬ ((116 : Int32) = (0 : Int32)))).1) ?_
        show Steps p.tables e below (T1.setTop (mkF m 75 #[.val (.int p1), .val (.ref a2), .val (.int (2 : Int32)), .val (.int (116 : Int32)), .unset] [])) _
        refine own_blk X1 hx bl1_75_5 (own_hb hby bd1_75_5) (pc' := 80) (Ls' := #[.val (.int p1), .val (.ref a2), .val (.int (2 : Int32)), .val (.int (116 : Int32)), .unset]) (st' := [(.int (116 : Int32)), (.int (3 : Int32)), (.ref a2)]) rfl ?_
        refine st11 _ ?_
        show Steps p.tables e below (T11.setTop (mkF m 81 #[.val (.int p1), .val (.ref a2), .val (.int (2 : Int32)), .val (.int (116 : Int32)), .unset] [])) _
        refine own_blk X11 hx bl1_81_4 (own_hb hby bd1_81_4) (pc' := 86) (Ls' := #[.val (.int p1), .val (.ref a2), .val (.int (2 : Int32)), .val (.int (116 : Int32)), .val (.int (4 : Int32))]) (st' := []) rfl ?_
        refine own_blk X11 hx bl1_86_2 (own_hb hby bd1_86_2) (pc' := 161) (Ls' := #[.val (.int p1), .val (.ref a2), .val (.int (2 : Int32)), .val (.int (116 : Int32)), .val (.int (4 : Int32))]) (st' := [(.int (4 : Int32))]) rfl ?_
        exact retI X11 hx Bd.returns (hb hby d1_161) hr
      · show Q1_2 Z p1 a2 u w1 cl1 k_a2 h0 n0 _ T11.heap _
        rw [e11]
        have lf14 : Arv Z h11 a2 k_a2 .byte (10 : Int32) [(.int (f1_2_a2_0 p1 u)), (.int (f1_2_a2_1 p1 u)), (.int (f1_2_a2_2 p1 u)), (.int (f1_2_a2_3 p1 u)), (.int (f1_2_a2_4 p1 u)), (.int (f1_2_a2_5 p1 u)), (.int (f1_2_a2_6 p1 u)), (.int (f1_2_a2_7 p1 u)), (.int (f1_2_a2_8 p1 u)), (.int (f1_2_a2_9 p1 u))] (.int (0 : Int32)) := by simp only [f1_2_a2_0, f1_2_a2_1, f1_2_a2_2, f1_2_a2_3, f1_2_a2_4, f1_2_a2_5, f1_2_a2_6, f1_2_a2_7, f1_2_a2_8, f1_2_a2_9, if_neg hc5, if_pos hc10]; exact V11
        exact ⟨by rw [f1_2, if_neg hc5, if_pos hc10], N11, kp13, lf14⟩
    · by_cases hc15 : p1 = (10 : Int32)
      · obtain ⟨cx16, Ar16, qq16, S16, N16_, H16, G16⟩ := id V1
        have hin16 : ¬ ((3 : Int32) < 0 ∨ cx16.slots.size ≤ ((3 : Int32)).toNatClampNeg) := inb_of S16 ⟨by decide, by decide⟩
        obtain ⟨T16, h16, X16, e16, W16, st16⟩ := stB X1 hx hZ e1 Ar16 (j := (3 : Int32)) hin16 (g := (mkF m 80 #[.val (.int p1), .val (.ref a2), .val (.int (2 : Int32)), .val (.int (110 : Int32)), .unset] [(.int (110 : Int32)), (.int (3 : Int32)), (.ref a2)])) rfl rfl (hb hby d1_80)
        have V16 : Arv Z h16 a2 k_a2 .byte (10 : Int32) [(.int u), (.int u), (.int (nar .byte (92 : Int32))), (.int (nar .byte (110 : Int32))), (.int u), (.int u), (.int u), (.int u), (.int u), (.int u)] (.int (0 : Int32)) := Arv.set Ar16 qq16 S16 N16_ H16 G16 (fits_nar_byte _) W16 3 rfl (Nat.le_of_ble_eq_true rfl)
        have zs17 : n0 ≤ h16.size := Nat.le_trans zs2 (Keep.of_wr W16).1
        have kp18 : Keep h0 h16 [a2] := kp3.wr W16 (Or.inl (List.mem_of_getElem? (i := 0) rfl))
        have N16 := Fr.snoc X16 N1 g_a2
        obtain ⟨fs, hr, hrun, hended, hW, hsame⟩ := X16.leave (v := some (.int (4 : Int32))) (fun h => by rw [Bd.returns] at h; cases h)
        refine ⟨_, _, pre4 _ ?_, hrun, hended, _, _, rfl, ?_, ⟨_, rfl⟩, hW, hsame.mono (by decide) (by decide)⟩
        · show Steps p.tables e below (T1.setTop (mkF m 6 #[.val (.int p1), .val (.ref a2), .val (.int (2 : Int32)), .unset, .unset] [(.int p1)])) _
          refine XS.tswIn X1.here hx rfl (pc0 := 6) (pc' := 54) (o := 48) rfl (hb hby d1_6) rfl (by rw [hc15]; decide) (by rw [hc15]; rfl) (by decide) (by decide) ?_
          show Steps p.tables e below (T1.setTop (mkF m 54 #[.val (.int p1), .val (.ref a2), .val (.int (2 : Int32)), .unset, .unset] [])) _
          refine own_blk X1 hx bl1_54_3 (own_hb hby bd1_54_3) (pc' := 71) (Ls' := #[.val (.int p1), .val (.ref a2), .val (.int (2 : Int32)), .val (.int (110 : Int32)), .unset]) (st' := []) rfl ?_
          refine own_blk X1 hx bl1_71_1 (own_hb hby bd1_71_1) (pc' := 72) (Ls' := #[.val (.int p1), .val (.ref a2), .val (.int (2 : Int32)), .val (.int (110 : Int32)), .unset]) (st' := [(.int (110 : Int32))]) rfl ?_
          refine XS.ifNo X1.here hx rfl (hb hby d1_72) rfl ((if0 _ _).trans (feq (by decide : ¬ ((110 : Int32) = (0 : Int32)))).1) ?_
          show Steps p.tables e below (T1.setTop (mkF m 75 #[.val (.int p1), .val (.ref a2), .val (.int (2 : Int32)), .val (.int (110 : Int32)), .unset] [])) _
          refine own_blk X1 hx bl1_75_5 (own_hb hby bd1_75_5) (pc' := 80) (Ls' := #[.val (.int p1), .val (.ref a2), .val (.int (2 : Int32)), .val (.int (110 : Int32)), .unset]) (st' := [(.int (110 : Int32)), (.int (3 : Int32)), (.ref a2)]) rfl ?_
          refine st16 _ ?_
          show Steps p.tables e below (T16.setTop (mkF m 81 #[.val (.int p1), .val (.ref a2), .val (.int (2 : Int32)), .val (.int (110 : Int32)), .unset] [])) _
          refine own_blk X16 hx bl1_81_4 (own_hb hby bd1_81_4) (pc' := 86) (Ls' := #[.val (.int p1), .val (.ref a2), .val (.int (2 : Int32)), .val (.int (110 : Int32)), .val (.int (4 : Int32))]) (st' := []) rfl ?_
          refine own_blk X16 hx bl1_86_2 (own_hb hby bd1_86_2) (pc' := 161) (Ls' := #[.val (.int p1), .val (.ref a2), .val (.int (2 : Int32)), .val (.int (110 : Int32)), .val (.int (4 : Int32))]) (st' := [(.int (4 : Int32))]) rfl ?_
          exact retI X16 hx Bd.returns (hb hby d1_161) hr
        · show Q1_2 Z p1 a2 u w1 cl1 k_a2 h0 n0 _ T16.heap _
          rw [e16]
          have lf19 : Arv Z h16 a2 k_a2 .byte (10 : Int32) [(.int (f1_2_a2_0 p1 u)), (.int (f1_2_a2_1 p1 u)), (.int (f1_2_a2_2 p1 u)), (.int (f1_2_a2_3 p1 u)), (.int (f1_2_a2_4 p1 u)), (.int (f1_2_a2_5 p1 u)), (.int (f1_2_a2_6 p1 u)), (.int (f1_2_a2_7 p1 u)), (.int (f1_2_a2_8 p1 u)), (.int (f1_2_a2_9 p1 u))] (.int (0 : Int32)) := by simp only [f1_2_a2_0, f1_2_a2_1, f1_2_a2_2, f1_2_a2_3, f1_2_a2_4, f1_2_a2_5, f1_2_a2_6, f1_2_a2_7, f1_2_a2_8, f1_2_a2_9, if_neg hc5, if_neg hc10, if_pos hc15]; exact V16
          exact ⟨by rw [f1_2, if_neg hc5, if_neg hc10, if_pos hc15], N16, kp18, lf19⟩
      · by_cases hc20 : p1 = (11 : Int32)
        · obtain ⟨cx21, Ar21, qq21, S21, N21_, H21, G21⟩ := id V1
          have hin21 : ¬ ((3 : Int32) < 0 ∨ cx21.slots.size ≤ ((3 : Int32)).toNatClampNeg) := inb_of S21 ⟨by decide, by decide⟩
          obtain ⟨T21, h21, X21, e21, W21, st21⟩ := stB X1 hx hZ e1 Ar21 (j := (3 : Int32)) hin21 (g := (mkF m 95 #[.val (.int p1), .val (.ref a2), .val (.int (2 : Int32)), .val (.int (0 : Int32)), .unset] [(.int (117 : Int32)), (.int (3 : Int32)), (.ref a2)])) rfl rfl (hb hby d1_95)
          have V21 : Arv Z h21 a2 k_a2 .byte (10 : Int32) [(.int u), (.int u), (.int (nar .byte (92 : Int32))), (.int (nar .byte (117 : Int32))), (.int u), (.int u), (.int u), (.int u), (.int u), (.int u)] (.int (0 : Int32)) := Arv.set Ar21 qq21 S21 N21_ H21 G21 (fits_nar_byte _) W21 3 rfl (Nat.le_of_ble_eq_true rfl)
          have zs22 : n0 ≤ h21.size := Nat.le_trans zs2 (Keep.of_wr W21).1
          have kp23 : Keep h0 h21 [a2] := kp3.wr W21 (Or.inl (List.mem_of_getElem? (i := 0) rfl))
          have N21 := Fr.snoc X21 N1 g_a2
          have fa24 : Sta Z h21 "com/example/endcon/endcon/rules/LineText" "HEX_DIGITS" "[B" (.ref w1) := ((S_HEX_DIGITS.wr W1).wr W21)
          obtain ⟨T25, X25, e25, st25⟩ := getS2 X21 hx hZ hown (host := "") (Or.inl (hw _ (List.mem_of_getElem? (i := 6) rfl))) Via.refl e21 fa24 (g := (mkF m 100 #[.val (.int p1), .val (.ref a2), .val (.int (2 : Int32)), .val (.int (0 : Int32)), .unset] [(.int (4 : Int32)), (.ref a2)])) rfl (hb hby d1_100)
          have fa27 : Arr Z h21 w1 cl1 .byte := ((Ar_w1.other W1 ne_w1_a2).other W21 ne_w1_a2)
          have hin26 : ¬ ((p1 >>> ((12 : Int32) &&& 31)) < 0 ∨ cl1.slots.size ≤ ((p1 >>> ((12 : Int32) &&& 31))).toNatClampNeg) := inb_of sz1 (own_sh12 p1 hp hp2)
          have hat26 := hv _ (own_sh12 p1 hp hp2).1 (own_sh12 p1 hp hp2).2
          obtain ⟨cx28, Ar28, qq28, S28, N28_, H28, G28⟩ := id V21
          have hin28 : ¬ ((4 : Int32) < 0 ∨ cx28.slots.size ≤ ((4 : Int32)).toNatClampNeg) := inb_of S28 ⟨by decide, by decide⟩
          obtain ⟨T28, h28, X28, e28, W28, st28⟩ := stB X25 hx hZ e25 Ar28 (j := (4 : Int32)) hin28 (g := (mkF m 108 #[.val (.int p1), .val (.ref a2), .val (.int (2 : Int32)), .val (.int (0 : Int32)), .unset] [(.int (own_tab (p1 >>> ((12 : Int32) &&& 31)))), (.int (4 : Int32)), (.ref a2)])) rfl rfl (hb hby d1_108)
          have V28 : Arv Z h28 a2 k_a2 .byte (10 : Int32) [(.int u), (.int u), (.int (nar .byte (92 : Int32))), (.int (nar .byte (117 : Int32))), (.int (nar .byte (own_tab (p1 >>> ((12 : Int32) &&& 31))))), (.int u), (.int u), (.int u), (.int u), (.int u)] (.int (0 : Int32)) := Arv.set Ar28 qq28 S28 N28_ H28 G28 (fits_nar_byte _) W28 4 rfl (Nat.le_of_ble_eq_true rfl)
          have zs29 : n0 ≤ h28.size := Nat.le_trans zs22 (Keep.of_wr W28).1
          have kp30 : Keep h0 h28 [a2] := kp23.wr W28 (Or.inl (List.mem_of_getElem? (i := 0) rfl))
          have N28 := Fr.snoc X28 N21 g_a2
          have fa31 : Sta Z h28 "com/example/endcon/endcon/rules/LineText" "HEX_DIGITS" "[B" (.ref w1) := (fa24.wr W28)
          obtain ⟨T32, X32, e32, st32⟩ := getS2 X28 hx hZ hown (host := "") (Or.inl (hw _ (List.mem_of_getElem? (i := 6) rfl))) Via.refl e28 fa31 (g := (mkF m 113 #[.val (.int p1), .val (.ref a2), .val (.int (2 : Int32)), .val (.int (0 : Int32)), .unset] [(.int (5 : Int32)), (.ref a2)])) rfl (hb hby d1_113)
          have fa34 : Arr Z h28 w1 cl1 .byte := (fa27.other W28 ne_w1_a2)
          have hin33 : ¬ (((p1 >>> ((8 : Int32) &&& 31)) &&& (15 : Int32)) < 0 ∨ cl1.slots.size ≤ (((p1 >>> ((8 : Int32) &&& 31)) &&& (15 : Int32))).toNatClampNeg) := inb_of sz1 (own_m15 (p1 >>> ((8 : Int32) &&& 31)))
          have hat33 := hv _ (own_m15 (p1 >>> ((8 : Int32) &&& 31))).1 (own_m15 (p1 >>> ((8 : Int32) &&& 31))).2
          obtain ⟨cx35, Ar35, qq35, S35, N35_, H35, G35⟩ := id V28
          have hin35 : ¬ ((5 : Int32) < 0 ∨ cx35.slots.size ≤ ((5 : Int32)).toNatClampNeg) := inb_of S35 ⟨by decide, by decide⟩
          obtain ⟨T35, h35, X35, e35, W35, st35⟩ := stB X32 hx hZ e32 Ar35 (j := (5 : Int32)) hin35 (g := (mkF m 124 #[.val (.int p1), .val (.ref a2), .val (.int (2 : Int32)), .val (.int (0 : Int32)), .unset] [(.int (own_tab ((p1 >>> ((8 : Int32) &&& 31)) &&& (15 : Int32)))), (.int (5 : Int32)), (.ref a2)])) rfl rfl (hb hby d1_124)
          have V35 : Arv Z h35 a2 k_a2 .byte (10 : Int32) [(.int u), (.int u), (.int (nar .byte (92 : Int32))), (.int (nar .byte (117 : Int32))), (.int (nar .byte (own_tab (p1 >>> ((12 : Int32) &&& 31))))), (.int (nar .byte (own_tab ((p1 >>> ((8 : Int32) &&& 31)) &&& (15 : Int32))))), (.int u), (.int u), (.int u), (.int u)] (.int (0 : Int32)) := Arv.set Ar35 qq35 S35 N35_ H35 G35 (fits_nar_byte _) W35 5 rfl (Nat.le_of_ble_eq_true rfl)
          have zs36 : n0 ≤ h35.size := Nat.le_trans zs29 (Keep.of_wr W35).1
          have kp37 : Keep h0 h35 [a2] := kp30.wr W35 (Or.inl (List.mem_of_getElem? (i := 0) rfl))
          have N35 := Fr.snoc X35 N28 g_a2
          have fa38 : Sta Z h35 "com/example/endcon/endcon/rules/LineText" "HEX_DIGITS" "[B" (.ref w1) := (fa31.wr W35)
          obtain ⟨T39, X39, e39, st39⟩ := getS2 X35 hx hZ hown (host := "") (Or.inl (hw _ (List.mem_of_getElem? (i := 6) rfl))) Via.refl e35 fa38 (g := (mkF m 129 #[.val (.int p1), .val (.ref a2), .val (.int (2 : Int32)), .val (.int (0 : Int32)), .unset] [(.int (6 : Int32)), (.ref a2)])) rfl (hb hby d1_129)
          have fa41 : Arr Z h35 w1 cl1 .byte := (fa34.other W35 ne_w1_a2)
          have hin40 : ¬ (((p1 >>> ((4 : Int32) &&& 31)) &&& (15 : Int32)) < 0 ∨ cl1.slots.size ≤ (((p1 >>> ((4 : Int32) &&& 31)) &&& (15 : Int32))).toNatClampNeg) := inb_of sz1 (own_m15 (p1 >>> ((4 : Int32) &&& 31)))
          have hat40 := hv _ (own_m15 (p1 >>> ((4 : Int32) &&& 31))).1 (own_m15 (p1 >>> ((4 : Int32) &&& 31))).2
          obtain ⟨cx42, Ar42, qq42, S42, N42_, H42, G42⟩ := id V35
          have hin42 : ¬ ((6 : Int32) < 0 ∨ cx42.slots.size ≤ ((6 : Int32)).toNatClampNeg) := inb_of S42 ⟨by decide, by decide⟩
          obtain ⟨T42, h42, X42, e42, W42, st42⟩ := stB X39 hx hZ e39 Ar42 (j := (6 : Int32)) hin42 (g := (mkF m 139 #[.val (.int p1), .val (.ref a2), .val (.int (2 : Int32)), .val (.int (0 : Int32)), .unset] [(.int (own_tab ((p1 >>> ((4 : Int32) &&& 31)) &&& (15 : Int32)))), (.int (6 : Int32)), (.ref a2)])) rfl rfl (hb hby d1_139)
          have V42 : Arv Z h42 a2 k_a2 .byte (10 : Int32) [(.int u), (.int u), (.int (nar .byte (92 : Int32))), (.int (nar .byte (117 : Int32))), (.int (nar .byte (own_tab (p1 >>> ((12 : Int32) &&& 31))))), (.int (nar .byte (own_tab ((p1 >>> ((8 : Int32) &&& 31)) &&& (15 : Int32))))), (.int (nar .byte (own_tab ((p1 >>> ((4 : Int32) &&& 31)) &&& (15 : Int32))))), (.int u), (.int u), (.int u)] (.int (0 : Int32)) := Arv.set Ar42 qq42 S42 N42_ H42 G42 (fits_nar_byte _) W42 6 rfl (Nat.le_of_ble_eq_true rfl)
          have zs43 : n0 ≤ h42.size := Nat.le_trans zs36 (Keep.of_wr W42).1
          have kp44 : Keep h0 h42 [a2] := kp37.wr W42 (Or.inl (List.mem_of_getElem? (i := 0) rfl))
          have N42 := Fr.snoc X42 N35 g_a2
          have fa45 : Sta Z h42 "com/example/endcon/endcon/rules/LineText" "HEX_DIGITS" "[B" (.ref w1) := (fa38.wr W42)
          obtain ⟨T46, X46, e46, st46⟩ := getS2 X42 hx hZ hown (host := "") (Or.inl (hw _ (List.mem_of_getElem? (i := 6) rfl))) Via.refl e42 fa45 (g := (mkF m 144 #[.val (.int p1), .val (.ref a2), .val (.int (2 : Int32)), .val (.int (0 : Int32)), .unset] [(.int (7 : Int32)), (.ref a2)])) rfl (hb hby d1_144)
          have fa48 : Arr Z h42 w1 cl1 .byte := (fa41.other W42 ne_w1_a2)
          have hin47 : ¬ ((p1 &&& (15 : Int32)) < 0 ∨ cl1.slots.size ≤ ((p1 &&& (15 : Int32))).toNatClampNeg) := inb_of sz1 (own_m15 p1)
          have hat47 := hv _ (own_m15 p1).1 (own_m15 p1).2
          obtain ⟨cx49, Ar49, qq49, S49, N49_, H49, G49⟩ := id V42
          have hin49 : ¬ ((7 : Int32) < 0 ∨ cx49.slots.size ≤ ((7 : Int32)).toNatClampNeg) := inb_of S49 ⟨by decide, by decide⟩
          obtain ⟨T49, h49, X49, e49, W49, st49⟩ := stB X46 hx hZ e46 Ar49 (j := (7 : Int32)) hin49 (g := (mkF m 152 #[.val (.int p1), .val (.ref a2), .val (.int (2 : Int32)), .val (.int (0 : Int32)), .unset] [(.int (own_tab (p1 &&& (15 : Int32)))), (.int (7 : Int32)), (.ref a2)])) rfl rfl (hb hby d1_152)
          have V49 : Arv Z h49 a2 k_a2 .byte (10 : Int32) [(.int u), (.int u), (.int (nar .byte (92 : Int32))), (.int (nar .byte (117 : Int32))), (.int (nar .byte (own_tab (p1 >>> ((12 : Int32) &&& 31))))), (.int (nar .byte (own_tab ((p1 >>> ((8 : Int32) &&& 31)) &&& (15 : Int32))))), (.int (nar .byte (own_tab ((p1 >>> ((4 : Int32) &&& 31)) &&& (15 : Int32))))), (.int (nar .byte (own_tab (p1 &&& (15 : Int32))))), (.int u), (.int u)] (.int (0 : Int32)) := Arv.set Ar49 qq49 S49 N49_ H49 G49 (fits_nar_byte _) W49 7 rfl (Nat.le_of_ble_eq_true rfl)
          have zs50 : n0 ≤ h49.size := Nat.le_trans zs43 (Keep.of_wr W49).1
          have kp51 : Keep h0 h49 [a2] := kp44.wr W49 (Or.inl (List.mem_of_getElem? (i := 0) rfl))
          have N49 := Fr.snoc X49 N42 g_a2
          obtain ⟨fs, hr, hrun, hended, hW, hsame⟩ := X49.leave (v := some (.int (8 : Int32))) (fun h => by rw [Bd.returns] at h; cases h)
          refine ⟨_, _, pre4 _ ?_, hrun, hended, _, _, rfl, ?_, ⟨_, rfl⟩, hW, hsame.mono (by decide) (by decide)⟩
          · show Steps p.tables e below (T1.setTop (mkF m 6 #[.val (.int p1), .val (.ref a2), .val (.int (2 : Int32)), .unset, .unset] [(.int p1)])) _
            refine XS.tswIn X1.here hx rfl (pc0 := 6) (pc' := 69) (o := 63) rfl (hb hby d1_6) rfl (by rw [hc20]; decide) (by rw [hc20]; rfl) (by decide) (by decide) ?_
            show Steps p.tables e below (T1.setTop (mkF m 69 #[.val (.int p1), .val (.ref a2), .val (.int (2 : Int32)), .unset, .unset] [])) _
            refine own_blk X1 hx bl1_69_2 (own_hb hby bd1_69_2) (pc' := 71) (Ls' := #[.val (.int p1), .val (.ref a2), .val (.int (2 : Int32)), .val (.int (0 : Int32)), .unset]) (st' := []) rfl ?_
            refine own_blk X1 hx bl1_71_1 (own_hb hby bd1_71_1) (pc' := 72) (Ls' := #[.val (.int p1), .val (.ref a2), .val (.int (2 : Int32)), .val (.int (0 : Int32)), .unset]) (st' := [(.int (0 : Int32))]) rfl ?_
            refine XS.ifYes X1.here hx rfl (pc0 := 72) (pc' := 89) rfl (hb hby d1_72) rfl ((if0 _ _).trans (teq (by decide : (0 : Int32) = (0 : Int32))).1) (by decide) (by decide) ?_
            show Steps p.tables e below (T1.setTop (mkF m 89 #[.val (.int p1), .val (.ref a2), .val (.int (2 : Int32)), .val (.int (0 : Int32)), .unset] [])) _
            refine own_blk X1 hx bl1_89_5 (own_hb hby bd1_89_5) (pc' := 95) (Ls' := #[.val (.int p1), .val (.ref a2), .val (.int (2 : Int32)), .val (.int (0 : Int32)), .unset]) (st' := [(.int (117 : Int32)), (.int (3 : Int32)), (.ref a2)]) rfl ?_
            refine st21 _ ?_
            show Steps p.tables e below (T21.setTop (mkF m 96 #[.val (.int p1), .val (.ref a2), .val (.int (2 : Int32)), .val (.int (0 : Int32)), .unset] [])) _
            refine own_blk X21 hx bl1_96_4 (own_hb hby bd1_96_4) (pc' := 100) (Ls' := #[.val (.int p1), .val (.ref a2), .val (.int (2 : Int32)), .val (.int (0 : Int32)), .unset]) (st' := [(.int (4 : Int32)), (.ref a2)]) rfl ?_
            refine st25 _ ?_
            show Steps p.tables e below (T25.setTop (mkF m 103 #[.val (.int p1), .val (.ref a2), .val (.int (2 : Int32)), .val (.int (0 : Int32)), .unset] [(.ref w1), (.int (4 : Int32)), (.ref a2)])) _
            refine own_blk X25 hx bl1_103_3 (own_hb hby bd1_103_3) (pc' := 107) (Ls' := #[.val (.int p1), .val (.ref a2), .val (.int (2 : Int32)), .val (.int (0 : Int32)), .unset]) (st' := [(.int (p1 >>> ((12 : Int32) &&& 31))), (.ref w1), (.int (4 : Int32)), (.ref a2)]) rfl ?_
            refine X25.baloadBytes hx (j := (p1 >>> ((12 : Int32) &&& 31))) (v := (.int (own_tab (p1 >>> ((12 : Int32) &&& 31))))) (by rw [e25]; exact fa27.1) (State.isArrayOf_alike hZ.alike fa27.2.1) fa27.2.2 hin26 hat26 (g := (mkF m 107 #[.val (.int p1), .val (.ref a2), .val (.int (2 : Int32)), .val (.int (0 : Int32)), .unset] [(.int (p1 >>> ((12 : Int32) &&& 31))), (.ref w1), (.int (4 : Int32)), (.ref a2)])) rfl rfl (hb hby d1_107) _ ?_
            show Steps p.tables e below (T25.setTop (mkF m 108 #[.val (.int p1), .val (.ref a2), .val (.int (2 : Int32)), .val (.int (0 : Int32)), .unset] [(.int (own_tab (p1 >>> ((12 : Int32) &&& 31)))), (.int (4 : Int32)), (.ref a2)])) _
            refine st28 _ ?_
            show Steps p.tables e below (T28.setTop (mkF m 109 #[.val (.int p1), .val (.ref a2), .val (.int (2 : Int32)), .val (.int (0 : Int32)), .unset] [])) _
            refine own_blk X28 hx bl1_109_4 (own_hb hby bd1_109_4) (pc' := 113) (Ls' := #[.val (.int p1), .val (.ref a2), .val (.int (2 : Int32)), .val (.int (0 : Int32)), .unset]) (st' := [(.int (5 : Int32)), (.ref a2)]) rfl ?_
            refine st32 _ ?_
            show Steps p.tables e below (T32.setTop (mkF m 116 #[.val (.int p1), .val (.ref a2), .val (.int (2 : Int32)), .val (.int (0 : Int32)), .unset] [(.ref w1), (.int (5 : Int32)), (.ref a2)])) _
            refine own_blk X32 hx bl1_116_5 (own_hb hby bd1_116_5) (pc' := 123) (Ls' := #[.val (.int p1), .val (.ref a2), .val (.int (2 : Int32)), .val (.int (0 : Int32)), .unset]) (st' := [(.int ((p1 >>> ((8 : Int32) &&& 31)) &&& (15 : Int32))), (.ref w1), (.int (5 : Int32)), (.ref a2)]) rfl ?_
            refine X32.baloadBytes hx (j := ((p1 >>> ((8 : Int32) &&& 31)) &&& (15 : Int32))) (v := (.int (own_tab ((p1 >>> ((8 : Int32) &&& 31)) &&& (15 : Int32))))) (by rw [e32]; exact fa34.1) (State.isArrayOf_alike hZ.alike fa34.2.1) fa34.2.2 hin33 hat33 (g := (mkF m 123 #[.val (.int p1), .val (.ref a2), .val (.int (2 : Int32)), .val (.int (0 : Int32)), .unset] [(.int ((p1 >>> ((8 : Int32) &&& 31)) &&& (15 : Int32))), (.ref w1), (.int (5 : Int32)), (.ref a2)])) rfl rfl (hb hby d1_123) _ ?_
            show Steps p.tables e below (T32.setTop (mkF m 124 #[.val (.int p1), .val (.ref a2), .val (.int (2 : Int32)), .val (.int (0 : Int32)), .unset] [(.int (own_tab ((p1 >>> ((8 : Int32) &&& 31)) &&& (15 : Int32)))), (.int (5 : Int32)), (.ref a2)])) _
            refine st35 _ ?_
            show Steps p.tables e below (T35.setTop (mkF m 125 #[.val (.int p1), .val (.ref a2), .val (.int (2 : Int32)), .val (.int (0 : Int32)), .unset] [])) _
            refine own_blk X35 hx bl1_125_4 (own_hb hby bd1_125_4) (pc' := 129) (Ls' := #[.val (.int p1), .val (.ref a2), .val (.int (2 : Int32)), .val (.int (0 : Int32)), .unset]) (st' := [(.int (6 : Int32)), (.ref a2)]) rfl ?_
            refine st39 _ ?_
            show Steps p.tables e below (T39.setTop (mkF m 132 #[.val (.int p1), .val (.ref a2), .val (.int (2 : Int32)), .val (.int (0 : Int32)), .unset] [(.ref w1), (.int (6 : Int32)), (.ref a2)])) _
            refine own_blk X39 hx bl1_132_5 (own_hb hby bd1_132_5) (pc' := 138) (Ls' := #[.val (.int p1), .val (.ref a2), .val (.int (2 : Int32)), .val (.int (0 : Int32)), .unset]) (st' := [(.int ((p1 >>> ((4 : Int32) &&& 31)) &&& (15 : Int32))), (.ref w1), (.int (6 : Int32)), (.ref a2)]) rfl ?_
            refine X39.baloadBytes hx (j := ((p1 >>> ((4 : Int32) &&& 31)) &&& (15 : Int32))) (v := (.int (own_tab ((p1 >>> ((4 : Int32) &&& 31)) &&& (15 : Int32))))) (by rw [e39]; exact fa41.1) (State.isArrayOf_alike hZ.alike fa41.2.1) fa41.2.2 hin40 hat40 (g := (mkF m 138 #[.val (.int p1), .val (.ref a2), .val (.int (2 : Int32)), .val (.int (0 : Int32)), .unset] [(.int ((p1 >>> ((4 : Int32) &&& 31)) &&& (15 : Int32))), (.ref w1), (.int (6 : Int32)), (.ref a2)])) rfl rfl (hb hby d1_138) _ ?_
            show Steps p.tables e below (T39.setTop (mkF m 139 #[.val (.int p1), .val (.ref a2), .val (.int (2 : Int32)), .val (.int (0 : Int32)), .unset] [(.int (own_tab ((p1 >>> ((4 : Int32) &&& 31)) &&& (15 : Int32)))), (.int (6 : Int32)), (.ref a2)])) _
            refine st42 _ ?_
            show Steps p.tables e below (T42.setTop (mkF m 140 #[.val (.int p1), .val (.ref a2), .val (.int (2 : Int32)), .val (.int (0 : Int32)), .unset] [])) _
            refine own_blk X42 hx bl1_140_4 (own_hb hby bd1_140_4) (pc' := 144) (Ls' := #[.val (.int p1), .val (.ref a2), .val (.int (2 : Int32)), .val (.int (0 : Int32)), .unset]) (st' := [(.int (7 : Int32)), (.ref a2)]) rfl ?_
            refine st46 _ ?_
            show Steps p.tables e below (T46.setTop (mkF m 147 #[.val (.int p1), .val (.ref a2), .val (.int (2 : Int32)), .val (.int (0 : Int32)), .unset] [(.ref w1), (.int (7 : Int32)), (.ref a2)])) _
            refine own_blk X46 hx bl1_147_3 (own_hb hby bd1_147_3) (pc' := 151) (Ls' := #[.val (.int p1), .val (.ref a2), .val (.int (2 : Int32)), .val (.int (0 : Int32)), .unset]) (st' := [(.int (p1 &&& (15 : Int32))), (.ref w1), (.int (7 : Int32)), (.ref a2)]) rfl ?_
            refine X46.baloadBytes hx (j := (p1 &&& (15 : Int32))) (v := (.int (own_tab (p1 &&& (15 : Int32))))) (by rw [e46]; exact fa48.1) (State.isArrayOf_alike hZ.alike fa48.2.1) fa48.2.2 hin47 hat47 (g := (mkF m 151 #[.val (.int p1), .val (.ref a2), .val (.int (2 : Int32)), .val (.int (0 : Int32)), .unset] [(.int (p1 &&& (15 : Int32))), (.ref w1), (.int (7 : Int32)), (.ref a2)])) rfl rfl (hb hby d1_151) _ ?_
            show Steps p.tables e below (T46.setTop (mkF m 152 #[.val (.int p1), .val (.ref a2), .val (.int (2 : Int32)), .val (.int (0 : Int32)), .unset] [(.int (own_tab (p1 &&& (15 : Int32)))), (.int (7 : Int32)), (.ref a2)])) _
            refine st49 _ ?_
            show Steps p.tables e below (T49.setTop (mkF m 153 #[.val (.int p1), .val (.ref a2), .val (.int (2 : Int32)), .val (.int (0 : Int32)), .unset] [])) _
            refine own_blk X49 hx bl1_153_4 (own_hb hby bd1_153_4) (pc' := 159) (Ls' := #[.val (.int p1), .val (.ref a2), .val (.int (2 : Int32)), .val (.int (0 : Int32)), .val (.int (8 : Int32))]) (st' := []) rfl ?_
            refine own_blk X49 hx bl1_159_1 (own_hb hby bd1_159_1) (pc' := 161) (Ls' := #[.val (.int p1), .val (.ref a2), .val (.int (2 : Int32)), .val (.int (0 : Int32)), .val (.int (8 : Int32))]) (st' := [(.int (8 : Int32))]) rfl ?_
            exact retI X49 hx Bd.returns (hb hby d1_161) hr
          · show Q1_2 Z p1 a2 u w1 cl1 k_a2 h0 n0 _ T49.heap _
            rw [e49]
            have lf52 : Arv Z h49 a2 k_a2 .byte (10 : Int32) [(.int (f1_2_a2_0 p1 u)), (.int (f1_2_a2_1 p1 u)), (.int (f1_2_a2_2 p1 u)), (.int (f1_2_a2_3 p1 u)), (.int (f1_2_a2_4 p1 u)), (.int (f1_2_a2_5 p1 u)), (.int (f1_2_a2_6 p1 u)), (.int (f1_2_a2_7 p1 u)), (.int (f1_2_a2_8 p1 u)), (.int (f1_2_a2_9 p1 u))] (.int (0 : Int32)) := by simp only [f1_2_a2_0, f1_2_a2_1, f1_2_a2_2, f1_2_a2_3, f1_2_a2_4, f1_2_a2_5, f1_2_a2_6, f1_2_a2_7, f1_2_a2_8, f1_2_a2_9, if_neg hc5, if_neg hc10, if_neg hc15, if_pos hc20]; exact V49
            exact ⟨by rw [f1_2, if_neg hc5, if_neg hc10, if_neg hc15, if_pos hc20], N49, kp51, lf52⟩
        · by_cases hc53 : p1 = (12 : Int32)
          · obtain ⟨cx54, Ar54, qq54, S54, N54_, H54, G54⟩ := id V1
            have hin54 : ¬ ((3 : Int32) < 0 ∨ cx54.slots.size ≤ ((3 : Int32)).toNatClampNeg) := inb_of S54 ⟨by decide, by decide⟩
            obtain ⟨T54, h54, X54, e54, W54, st54⟩ := stB X1 hx hZ e1 Ar54 (j := (3 : Int32)) hin54 (g := (mkF m 80 #[.val (.int p1), .val (.ref a2), .val (.int (2 : Int32)), .val (.int (102 : Int32)), .unset] [(.int (102 : Int32)), (.int (3 : Int32)), (.ref a2)])) rfl rfl (hb hby d1_80)
            have V54 : Arv Z h54 a2 k_a2 .byte (10 : Int32) [(.int u), (.int u), (.int (nar .byte (92 : Int32))), (.int (nar .byte (102 : Int32))), (.int u), (.int u), (.int u), (.int u), (.int u), (.int u)] (.int (0 : Int32)) := Arv.set Ar54 qq54 S54 N54_ H54 G54 (fits_nar_byte _) W54 3 rfl (Nat.le_of_ble_eq_true rfl)
            have zs55 : n0 ≤ h54.size := Nat.le_trans zs2 (Keep.of_wr W54).1
            have kp56 : Keep h0 h54 [a2] := kp3.wr W54 (Or.inl (List.mem_of_getElem? (i := 0) rfl))
            have N54 := Fr.snoc X54 N1 g_a2
            obtain ⟨fs, hr, hrun, hended, hW, hsame⟩ := X54.leave (v := some (.int (4 : Int32))) (fun h => by rw [Bd.returns] at h; cases h)
            refine ⟨_, _, pre4 _ ?_, hrun, hended, _, _, rfl, ?_, ⟨_, rfl⟩, hW, hsame.mono (by decide) (by decide)⟩
            · show Steps p.tables e below (T1.setTop (mkF m 6 #[.val (.int p1), .val (.ref a2), .val (.int (2 : Int32)), .unset, .unset] [(.int p1)])) _
              refine XS.tswIn X1.here hx rfl (pc0 := 6) (pc' := 59) (o := 53) rfl (hb hby d1_6) rfl (by rw [hc53]; decide) (by rw [hc53]; rfl) (by decide) (by decide) ?_
              show Steps p.tables e below (T1.setTop (mkF m 59 #[.val (.int p1), .val (.ref a2), .val (.int (2 : Int32)), .unset, .unset] [])) _
              refine own_blk X1 hx bl1_59_3 (own_hb hby bd1_59_3) (pc' := 71) (Ls' := #[.val (.int p1), .val (.ref a2), .val (.int (2 : Int32)), .val (.int (102 : Int32)), .unset]) (st' := []) rfl ?_
              refine own_blk X1 hx bl1_71_1 (own_hb hby bd1_71_1) (pc' := 72) (Ls' := #[.val (.int p1), .val (.ref a2), .val (.int (2 : Int32)), .val (.int (102 : Int32)), .unset]) (st' := [(.int (102 : Int32))]) rfl ?_
              refine XS.ifNo X1.here hx rfl (hb hby d1_72) rfl ((if0 _ _).trans (feq (by decide : ¬ ((102 : Int32) = (0 : Int32)))).1) ?_
              show Steps p.tables e below (T1.setTop (mkF m 75 #[.val (.int p1), .val (.ref a2), .val (.int (2 : Int32)), .val (.int (102 : Int32)), .unset] [])) _
              refine own_blk X1 hx bl1_75_5 (own_hb hby bd1_75_5) (pc' := 80) (Ls' := #[.val (.int p1), .val (.ref a2), .val (.int (2 : Int32)), .val (.int (102 : Int32)), .unset]) (st' := [(.int (102 : Int32)), (.int (3 : Int32)), (.ref a2)]) rfl ?_
              refine st54 _ ?_
              show Steps p.tables e below (T54.setTop (mkF m 81 #[.val (.int p1), .val (.ref a2), .val (.int (2 : Int32)), .val (.int (102 : Int32)), .unset] [])) _
              refine own_blk X54 hx bl1_81_4 (own_hb hby bd1_81_4) (pc' := 86) (Ls' := #[.val (.int p1), .val (.ref a2), .val (.int (2 : Int32)), .val (.int (102 : Int32)), .val (.int (4 : Int32))]) (st' := []) rfl ?_
              refine own_blk X54 hx bl1_86_2 (own_hb hby bd1_86_2) (pc' := 161) (Ls' := #[.val (.int p1), .val (.ref a2), .val (.int (2 : Int32)), .val (.int (102 : Int32)), .val (.int (4 : Int32))]) (st' := [(.int (4 : Int32))]) rfl ?_
              exact retI X54 hx Bd.returns (hb hby d1_161) hr
            · show Q1_2 Z p1 a2 u w1 cl1 k_a2 h0 n0 _ T54.heap _
              rw [e54]
              have lf57 : Arv Z h54 a2 k_a2 .byte (10 : Int32) [(.int (f1_2_a2_0 p1 u)), (.int (f1_2_a2_1 p1 u)), (.int (f1_2_a2_2 p1 u)), (.int (f1_2_a2_3 p1 u)), (.int (f1_2_a2_4 p1 u)), (.int (f1_2_a2_5 p1 u)), (.int (f1_2_a2_6 p1 u)), (.int (f1_2_a2_7 p1 u)), (.int (f1_2_a2_8 p1 u)), (.int (f1_2_a2_9 p1 u))] (.int (0 : Int32)) := by simp only [f1_2_a2_0, f1_2_a2_1, f1_2_a2_2, f1_2_a2_3, f1_2_a2_4, f1_2_a2_5, f1_2_a2_6, f1_2_a2_7, f1_2_a2_8, f1_2_a2_9, if_neg hc5, if_neg hc10, if_neg hc15, if_neg hc20, if_pos hc53]; exact V54
              exact ⟨by rw [f1_2, if_neg hc5, if_neg hc10, if_neg hc15, if_neg hc20, if_pos hc53], N54, kp56, lf57⟩
          · by_cases hc58 : p1 = (13 : Int32)
            · obtain ⟨cx59, Ar59, qq59, S59, N59_, H59, G59⟩ := id V1
              have hin59 : ¬ ((3 : Int32) < 0 ∨ cx59.slots.size ≤ ((3 : Int32)).toNatClampNeg) := inb_of S59 ⟨by decide, by decide⟩
              obtain ⟨T59, h59, X59, e59, W59, st59⟩ := stB X1 hx hZ e1 Ar59 (j := (3 : Int32)) hin59 (g := (mkF m 80 #[.val (.int p1), .val (.ref a2), .val (.int (2 : Int32)), .val (.int (114 : Int32)), .unset] [(.int (114 : Int32)), (.int (3 : Int32)), (.ref a2)])) rfl rfl (hb hby d1_80)
              have V59 : Arv Z h59 a2 k_a2 .byte (10 : Int32) [(.int u), (.int u), (.int (nar .byte (92 : Int32))), (.int (nar .byte (114 : Int32))), (.int u), (.int u), (.int u), (.int u), (.int u), (.int u)] (.int (0 : Int32)) := Arv.set Ar59 qq59 S59 N59_ H59 G59 (fits_nar_byte _) W59 3 rfl (Nat.le_of_ble_eq_true rfl)
              have zs60 : n0 ≤ h59.size := Nat.le_trans zs2 (Keep.of_wr W59).1
              have kp61 : Keep h0 h59 [a2] := kp3.wr W59 (Or.inl (List.mem_of_getElem? (i := 0) rfl))
              have N59 := Fr.snoc X59 N1 g_a2
              obtain ⟨fs, hr, hrun, hended, hW, hsame⟩ := X59.leave (v := some (.int (4 : Int32))) (fun h => by rw [Bd.returns] at h; cases h)
              refine ⟨_, _, pre4 _ ?_, hrun, hended, _, _, rfl, ?_, ⟨_, rfl⟩, hW, hsame.mono (by decide) (by decide)⟩
              · show Steps p.tables e below (T1.setTop (mkF m 6 #[.val (.int p1), .val (.ref a2), .val (.int (2 : Int32)), .unset, .unset] [(.int p1)])) _
                refine XS.tswIn X1.here hx rfl (pc0 := 6) (pc' := 64) (o := 58) rfl (hb hby d1_6) rfl (by rw [hc58]; decide) (by rw [hc58]; rfl) (by decide) (by decide) ?_
                show Steps p.tables e below (T1.setTop (mkF m 64 #[.val (.int p1), .val (.ref a2), .val (.int (2 : Int32)), .unset, .unset] [])) _
                refine own_blk X1 hx bl1_64_3 (own_hb hby bd1_64_3) (pc' := 71) (Ls' := #[.val (.int p1), .val (.ref a2), .val (.int (2 : Int32)), .val (.int (114 : Int32)), .unset]) (st' := []) rfl ?_
                refine own_blk X1 hx bl1_71_1 (own_hb hby bd1_71_1) (pc' := 72) (Ls' := #[.val (.int p1), .val (.ref a2), .val (.int (2 : Int32)), .val (.int (114 : Int32)), .unset]) (st' := [(.int (114 : Int32))]) rfl ?_
                refine XS.ifNo X1.here hx rfl (hb hby d1_72) rfl ((if0 _ _).trans (feq (by decide : ¬ ((114 : Int32) = (0 : Int32)))).1) ?_
                show Steps p.tables e below (T1.setTop (mkF m 75 #[.val (.int p1), .val (.ref a2), .val (.int (2 : Int32)), .val (.int (114 : Int32)), .unset] [])) _
                refine own_blk X1 hx bl1_75_5 (own_hb hby bd1_75_5) (pc' := 80) (Ls' := #[.val (.int p1), .val (.ref a2), .val (.int (2 : Int32)), .val (.int (114 : Int32)), .unset]) (st' := [(.int (114 : Int32)), (.int (3 : Int32)), (.ref a2)]) rfl ?_
                refine st59 _ ?_
                show Steps p.tables e below (T59.setTop (mkF m 81 #[.val (.int p1), .val (.ref a2), .val (.int (2 : Int32)), .val (.int (114 : Int32)), .unset] [])) _
                refine own_blk X59 hx bl1_81_4 (own_hb hby bd1_81_4) (pc' := 86) (Ls' := #[.val (.int p1), .val (.ref a2), .val (.int (2 : Int32)), .val (.int (114 : Int32)), .val (.int (4 : Int32))]) (st' := []) rfl ?_
                refine own_blk X59 hx bl1_86_2 (own_hb hby bd1_86_2) (pc' := 161) (Ls' := #[.val (.int p1), .val (.ref a2), .val (.int (2 : Int32)), .val (.int (114 : Int32)), .val (.int (4 : Int32))]) (st' := [(.int (4 : Int32))]) rfl ?_
                exact retI X59 hx Bd.returns (hb hby d1_161) hr
              · show Q1_2 Z p1 a2 u w1 cl1 k_a2 h0 n0 _ T59.heap _
                rw [e59]
                have lf62 : Arv Z h59 a2 k_a2 .byte (10 : Int32) [(.int (f1_2_a2_0 p1 u)), (.int (f1_2_a2_1 p1 u)), (.int (f1_2_a2_2 p1 u)), (.int (f1_2_a2_3 p1 u)), (.int (f1_2_a2_4 p1 u)), (.int (f1_2_a2_5 p1 u)), (.int (f1_2_a2_6 p1 u)), (.int (f1_2_a2_7 p1 u)), (.int (f1_2_a2_8 p1 u)), (.int (f1_2_a2_9 p1 u))] (.int (0 : Int32)) := by simp only [f1_2_a2_0, f1_2_a2_1, f1_2_a2_2, f1_2_a2_3, f1_2_a2_4, f1_2_a2_5, f1_2_a2_6, f1_2_a2_7, f1_2_a2_8, f1_2_a2_9, if_neg hc5, if_neg hc10, if_neg hc15, if_neg hc20, if_neg hc53, if_pos hc58]; exact V59
                exact ⟨by rw [f1_2, if_neg hc5, if_neg hc10, if_neg hc15, if_neg hc20, if_neg hc53, if_pos hc58], N59, kp61, lf62⟩
            · obtain ⟨cx63, Ar63, qq63, S63, N63_, H63, G63⟩ := id V1
              have hin63 : ¬ ((3 : Int32) < 0 ∨ cx63.slots.size ≤ ((3 : Int32)).toNatClampNeg) := inb_of S63 ⟨by decide, by decide⟩
              obtain ⟨T63, h63, X63, e63, W63, st63⟩ := stB X1 hx hZ e1 Ar63 (j := (3 : Int32)) hin63 (g := (mkF m 95 #[.val (.int p1), .val (.ref a2), .val (.int (2 : Int32)), .val (.int (0 : Int32)), .unset] [(.int (117 : Int32)), (.int (3 : Int32)), (.ref a2)])) rfl rfl (hb hby d1_95)
              have V63 : Arv Z h63 a2 k_a2 .byte (10 : Int32) [(.int u), (.int u), (.int (nar .byte (92 : Int32))), (.int (nar .byte (117 : Int32))), (.int u), (.int u), (.int u), (.int u), (.int u), (.int u)] (.int (0 : Int32)) := Arv.set Ar63 qq63 S63 N63_ H63 G63 (fits_nar_byte _) W63 3 rfl (Nat.le_of_ble_eq_true rfl)
              have zs64 : n0 ≤ h63.size := Nat.le_trans zs2 (Keep.of_wr W63).1
              have kp65 : Keep h0 h63 [a2] := kp3.wr W63 (Or.inl (List.mem_of_getElem? (i := 0) rfl))
              have N63 := Fr.snoc X63 N1 g_a2
              have fa66 : Sta Z h63 "com/example/endcon/endcon/rules/LineText" "HEX_DIGITS" "[B" (.ref w1) := ((S_HEX_DIGITS.wr W1).wr W63)
              obtain ⟨T67, X67, e67, st67⟩ := getS2 X63 hx hZ hown (host := "") (Or.inl (hw _ (List.mem_of_getElem? (i := 6) rfl))) Via.refl e63 fa66 (g := (mkF m 100 #[.val (.int p1), .val (.ref a2), .val (.int (2 : Int32)), .val (.int (0 : Int32)), .unset] [(.int (4 : Int32)), (.ref a2)])) rfl (hb hby d1_100)
              have fa69 : Arr Z h63 w1 cl1 .byte := ((Ar_w1.other W1 ne_w1_a2).other W63 ne_w1_a2)
              have hin68 : ¬ ((p1 >>> ((12 : Int32) &&& 31)) < 0 ∨ cl1.slots.size ≤ ((p1 >>> ((12 : Int32) &&& 31))).toNatClampNeg) := inb_of sz1 (own_sh12 p1 hp hp2)
              have hat68 := hv _ (own_sh12 p1 hp hp2).1 (own_sh12 p1 hp hp2).2
              obtain ⟨cx70, Ar70, qq70, S70, N70_, H70, G70⟩ := id V63
              have hin70 : ¬ ((4 : Int32) < 0 ∨ cx70.slots.size ≤ ((4 : Int32)).toNatClampNeg) := inb_of S70 ⟨by decide, by decide⟩
              obtain ⟨T70, h70, X70, e70, W70, st70⟩ := stB X67 hx hZ e67 Ar70 (j := (4 : Int32)) hin70 (g := (mkF m 108 #[.val (.int p1), .val (.ref a2), .val (.int (2 : Int32)), .val (.int (0 : Int32)), .unset] [(.int (own_tab (p1 >>> ((12 : Int32) &&& 31)))), (.int (4 : Int32)), (.ref a2)])) rfl rfl (hb hby d1_108)
              have V70 : Arv Z h70 a2 k_a2 .byte (10 : Int32) [(.int u), (.int u), (.int (nar .byte (92 : Int32))), (.int (nar .byte (117 : Int32))), (.int (nar .byte (own_tab (p1 >>> ((12 : Int32) &&& 31))))), (.int u), (.int u), (.int u), (.int u), (.int u)] (.int (0 : Int32)) := Arv.set Ar70 qq70 S70 N70_ H70 G70 (fits_nar_byte _) W70 4 rfl (Nat.le_of_ble_eq_true rfl)
              have zs71 : n0 ≤ h70.size := Nat.le_trans zs64 (Keep.of_wr W70).1
              have kp72 : Keep h0 h70 [a2] := kp65.wr W70 (Or.inl (List.mem_of_getElem? (i := 0) rfl))
              have N70 := Fr.snoc X70 N63 g_a2
              have fa73 : Sta Z h70 "com/example/endcon/endcon/rules/LineText" "HEX_DIGITS" "[B" (.ref w1) := (fa66.wr W70)
              obtain ⟨T74, X74, e74, st74⟩ := getS2 X70 hx hZ hown (host := "") (Or.inl (hw _ (List.mem_of_getElem? (i := 6) rfl))) Via.refl e70 fa73 (g := (mkF m 113 #[.val (.int p1), .val (.ref a2), .val (.int (2 : Int32)), .val (.int (0 : Int32)), .unset] [(.int (5 : Int32)), (.ref a2)])) rfl (hb hby d1_113)
              have fa76 : Arr Z h70 w1 cl1 .byte := (fa69.other W70 ne_w1_a2)
              have hin75 : ¬ (((p1 >>> ((8 : Int32) &&& 31)) &&& (15 : Int32)) < 0 ∨ cl1.slots.size ≤ (((p1 >>> ((8 : Int32) &&& 31)) &&& (15 : Int32))).toNatClampNeg) := inb_of sz1 (own_m15 (p1 >>> ((8 : Int32) &&& 31)))
              have hat75 := hv _ (own_m15 (p1 >>> ((8 : Int32) &&& 31))).1 (own_m15 (p1 >>> ((8 : Int32) &&& 31))).2
              obtain ⟨cx77, Ar77, qq77, S77, N77_, H77, G77⟩ := id V70
              have hin77 : ¬ ((5 : Int32) < 0 ∨ cx77.slots.size ≤ ((5 : Int32)).toNatClampNeg) := inb_of S77 ⟨by decide, by decide⟩
              obtain ⟨T77, h77, X77, e77, W77, st77⟩ := stB X74 hx hZ e74 Ar77 (j := (5 : Int32)) hin77 (g := (mkF m 124 #[.val (.int p1), .val (.ref a2), .val (.int (2 : Int32)), .val (.int (0 : Int32)), .unset] [(.int (own_tab ((p1 >>> ((8 : Int32) &&& 31)) &&& (15 : Int32)))), (.int (5 : Int32)), (.ref a2)])) rfl rfl (hb hby d1_124)
              have V77 : Arv Z h77 a2 k_a2 .byte (10 : Int32) [(.int u), (.int u), (.int (nar .byte (92 : Int32))), (.int (nar .byte (117 : Int32))), (.int (nar .byte (own_tab (p1 >>> ((12 : Int32) &&& 31))))), (.int (nar .byte (own_tab ((p1 >>> ((8 : Int32) &&& 31)) &&& (15 : Int32))))), (.int u), (.int u), (.int u), (.int u)] (.int (0 : Int32)) := Arv.set Ar77 qq77 S77 N77_ H77 G77 (fits_nar_byte _) W77 5 rfl (Nat.le_of_ble_eq_true rfl)
              have zs78 : n0 ≤ h77.size := Nat.le_trans zs71 (Keep.of_wr W77).1
              have kp79 : Keep h0 h77 [a2] := kp72.wr W77 (Or.inl (List.mem_of_getElem? (i := 0) rfl))
              have N77 := Fr.snoc X77 N70 g_a2
              have fa80 : Sta Z h77 "com/example/endcon/endcon/rules/LineText" "HEX_DIGITS" "[B" (.ref w1) := (fa73.wr W77)
              obtain ⟨T81, X81, e81, st81⟩ := getS2 X77 hx hZ hown (host := "") (Or.inl (hw _ (List.mem_of_getElem? (i := 6) rfl))) Via.refl e77 fa80 (g := (mkF m 129 #[.val (.int p1), .val (.ref a2), .val (.int (2 : Int32)), .val (.int (0 : Int32)), .unset] [(.int (6 : Int32)), (.ref a2)])) rfl (hb hby d1_129)
              have fa83 : Arr Z h77 w1 cl1 .byte := (fa76.other W77 ne_w1_a2)
              have hin82 : ¬ (((p1 >>> ((4 : Int32) &&& 31)) &&& (15 : Int32)) < 0 ∨ cl1.slots.size ≤ (((p1 >>> ((4 : Int32) &&& 31)) &&& (15 : Int32))).toNatClampNeg) := inb_of sz1 (own_m15 (p1 >>> ((4 : Int32) &&& 31)))
              have hat82 := hv _ (own_m15 (p1 >>> ((4 : Int32) &&& 31))).1 (own_m15 (p1 >>> ((4 : Int32) &&& 31))).2
              obtain ⟨cx84, Ar84, qq84, S84, N84_, H84, G84⟩ := id V77
              have hin84 : ¬ ((6 : Int32) < 0 ∨ cx84.slots.size ≤ ((6 : Int32)).toNatClampNeg) := inb_of S84 ⟨by decide, by decide⟩
              obtain ⟨T84, h84, X84, e84, W84, st84⟩ := stB X81 hx hZ e81 Ar84 (j := (6 : Int32)) hin84 (g := (mkF m 139 #[.val (.int p1), .val (.ref a2), .val (.int (2 : Int32)), .val (.int (0 : Int32)), .unset] [(.int (own_tab ((p1 >>> ((4 : Int32) &&& 31)) &&& (15 : Int32)))), (.int (6 : Int32)), (.ref a2)])) rfl rfl (hb hby d1_139)
              have V84 : Arv Z h84 a2 k_a2 .byte (10 : Int32) [(.int u), (.int u), (.int (nar .byte (92 : Int32))), (.int (nar .byte (117 : Int32))), (.int (nar .byte (own_tab (p1 >>> ((12 : Int32) &&& 31))))), (.int (nar .byte (own_tab ((p1 >>> ((8 : Int32) &&& 31)) &&& (15 : Int32))))), (.int (nar .byte (own_tab ((p1 >>> ((4 : Int32) &&& 31)) &&& (15 : Int32))))), (.int u), (.int u), (.int u)] (.int (0 : Int32)) := Arv.set Ar84 qq84 S84 N84_ H84 G84 (fits_nar_byte _) W84 6 rfl (Nat.le_of_ble_eq_true rfl)
              have zs85 : n0 ≤ h84.size := Nat.le_trans zs78 (Keep.of_wr W84).1
              have kp86 : Keep h0 h84 [a2] := kp79.wr W84 (Or.inl (List.mem_of_getElem? (i := 0) rfl))
              have N84 := Fr.snoc X84 N77 g_a2
              have fa87 : Sta Z h84 "com/example/endcon/endcon/rules/LineText" "HEX_DIGITS" "[B" (.ref w1) := (fa80.wr W84)
              obtain ⟨T88, X88, e88, st88⟩ := getS2 X84 hx hZ hown (host := "") (Or.inl (hw _ (List.mem_of_getElem? (i := 6) rfl))) Via.refl e84 fa87 (g := (mkF m 144 #[.val (.int p1), .val (.ref a2), .val (.int (2 : Int32)), .val (.int (0 : Int32)), .unset] [(.int (7 : Int32)), (.ref a2)])) rfl (hb hby d1_144)
              have fa90 : Arr Z h84 w1 cl1 .byte := (fa83.other W84 ne_w1_a2)
              have hin89 : ¬ ((p1 &&& (15 : Int32)) < 0 ∨ cl1.slots.size ≤ ((p1 &&& (15 : Int32))).toNatClampNeg) := inb_of sz1 (own_m15 p1)
              have hat89 := hv _ (own_m15 p1).1 (own_m15 p1).2
              obtain ⟨cx91, Ar91, qq91, S91, N91_, H91, G91⟩ := id V84
              have hin91 : ¬ ((7 : Int32) < 0 ∨ cx91.slots.size ≤ ((7 : Int32)).toNatClampNeg) := inb_of S91 ⟨by decide, by decide⟩
              obtain ⟨T91, h91, X91, e91, W91, st91⟩ := stB X88 hx hZ e88 Ar91 (j := (7 : Int32)) hin91 (g := (mkF m 152 #[.val (.int p1), .val (.ref a2), .val (.int (2 : Int32)), .val (.int (0 : Int32)), .unset] [(.int (own_tab (p1 &&& (15 : Int32)))), (.int (7 : Int32)), (.ref a2)])) rfl rfl (hb hby d1_152)
              have V91 : Arv Z h91 a2 k_a2 .byte (10 : Int32) [(.int u), (.int u), (.int (nar .byte (92 : Int32))), (.int (nar .byte (117 : Int32))), (.int (nar .byte (own_tab (p1 >>> ((12 : Int32) &&& 31))))), (.int (nar .byte (own_tab ((p1 >>> ((8 : Int32) &&& 31)) &&& (15 : Int32))))), (.int (nar .byte (own_tab ((p1 >>> ((4 : Int32) &&& 31)) &&& (15 : Int32))))), (.int (nar .byte (own_tab (p1 &&& (15 : Int32))))), (.int u), (.int u)] (.int (0 : Int32)) := Arv.set Ar91 qq91 S91 N91_ H91 G91 (fits_nar_byte _) W91 7 rfl (Nat.le_of_ble_eq_true rfl)
              have zs92 : n0 ≤ h91.size := Nat.le_trans zs85 (Keep.of_wr W91).1
              have kp93 : Keep h0 h91 [a2] := kp86.wr W91 (Or.inl (List.mem_of_getElem? (i := 0) rfl))
              have N91 := Fr.snoc X91 N84 g_a2
              obtain ⟨fs, hr, hrun, hended, hW, hsame⟩ := X91.leave (v := some (.int (8 : Int32))) (fun h => by rw [Bd.returns] at h; cases h)
              refine ⟨_, _, pre4 _ ?_, hrun, hended, _, _, rfl, ?_, ⟨_, rfl⟩, hW, hsame.mono (by decide) (by decide)⟩
              · show Steps p.tables e below (T1.setTop (mkF m 6 #[.val (.int p1), .val (.ref a2), .val (.int (2 : Int32)), .unset, .unset] [(.int p1)])) _
                refine XS.tswOut X1.here hx rfl (pc0 := 6) (pc' := 69) rfl (hb hby d1_6) rfl (own_out8_13 hc5 hc10 hc15 hc20 hc53 hc58) (by decide) (by decide) ?_
                show Steps p.tables e below (T1.setTop (mkF m 69 #[.val (.int p1), .val (.ref a2), .val (.int (2 : Int32)), .unset, .unset] [])) _
                refine own_blk X1 hx bl1_69_2 (own_hb hby bd1_69_2) (pc' := 71) (Ls' := #[.val (.int p1), .val (.ref a2), .val (.int (2 : Int32)), .val (.int (0 : Int32)), .unset]) (st' := []) rfl ?_
                refine own_blk X1 hx bl1_71_1 (own_hb hby bd1_71_1) (pc' := 72) (Ls' := #[.val (.int p1), .val (.ref a2), .val (.int (2 : Int32)), .val (.int (0 : Int32)), .unset]) (st' := [(.int (0 : Int32))]) rfl ?_
                refine XS.ifYes X1.here hx rfl (pc0 := 72) (pc' := 89) rfl (hb hby d1_72) rfl ((if0 _ _).trans (teq (by decide : (0 : Int32) = (0 : Int32))).1) (by decide) (by decide) ?_
                show Steps p.tables e below (T1.setTop (mkF m 89 #[.val (.int p1), .val (.ref a2), .val (.int (2 : Int32)), .val (.int (0 : Int32)), .unset] [])) _
                refine own_blk X1 hx bl1_89_5 (own_hb hby bd1_89_5) (pc' := 95) (Ls' := #[.val (.int p1), .val (.ref a2), .val (.int (2 : Int32)), .val (.int (0 : Int32)), .unset]) (st' := [(.int (117 : Int32)), (.int (3 : Int32)), (.ref a2)]) rfl ?_
                refine st63 _ ?_
                show Steps p.tables e below (T63.setTop (mkF m 96 #[.val (.int p1), .val (.ref a2), .val (.int (2 : Int32)), .val (.int (0 : Int32)), .unset] [])) _
                refine own_blk X63 hx bl1_96_4 (own_hb hby bd1_96_4) (pc' := 100) (Ls' := #[.val (.int p1), .val (.ref a2), .val (.int (2 : Int32)), .val (.int (0 : Int32)), .unset]) (st' := [(.int (4 : Int32)), (.ref a2)]) rfl ?_
                refine st67 _ ?_
                show Steps p.tables e below (T67.setTop (mkF m 103 #[.val (.int p1), .val (.ref a2), .val (.int (2 : Int32)), .val (.int (0 : Int32)), .unset] [(.ref w1), (.int (4 : Int32)), (.ref a2)])) _
                refine own_blk X67 hx bl1_103_3 (own_hb hby bd1_103_3) (pc' := 107) (Ls' := #[.val (.int p1), .val (.ref a2), .val (.int (2 : Int32)), .val (.int (0 : Int32)), .unset]) (st' := [(.int (p1 >>> ((12 : Int32) &&& 31))), (.ref w1), (.int (4 : Int32)), (.ref a2)]) rfl ?_
                refine X67.baloadBytes hx (j := (p1 >>> ((12 : Int32) &&& 31))) (v := (.int (own_tab (p1 >>> ((12 : Int32) &&& 31))))) (by rw [e67]; exact fa69.1) (State.isArrayOf_alike hZ.alike fa69.2.1) fa69.2.2 hin68 hat68 (g := (mkF m 107 #[.val (.int p1), .val (.ref a2), .val (.int (2 : Int32)), .val (.int (0 : Int32)), .unset] [(.int (p1 >>> ((12 : Int32) &&& 31))), (.ref w1), (.int (4 : Int32)), (.ref a2)])) rfl rfl (hb hby d1_107) _ ?_
                show Steps p.tables e below (T67.setTop (mkF m 108 #[.val (.int p1), .val (.ref a2), .val (.int (2 : Int32)), .val (.int (0 : Int32)), .unset] [(.int (own_tab (p1 >>> ((12 : Int32) &&& 31)))), (.int (4 : Int32)), (.ref a2)])) _
                refine st70 _ ?_
                show Steps p.tables e below (T70.setTop (mkF m 109 #[.val (.int p1), .val (.ref a2), .val (.int (2 : Int32)), .val (.int (0 : Int32)), .unset] [])) _
                refine own_blk X70 hx bl1_109_4 (own_hb hby bd1_109_4) (pc' := 113) (Ls' := #[.val (.int p1), .val (.ref a2), .val (.int (2 : Int32)), .val (.int (0 : Int32)), .unset]) (st' := [(.int (5 : Int32)), (.ref a2)]) rfl ?_
                refine st74 _ ?_
                show Steps p.tables e below (T74.setTop (mkF m 116 #[.val (.int p1), .val (.ref a2), .val (.int (2 : Int32)), .val (.int (0 : Int32)), .unset] [(.ref w1), (.int (5 : Int32)), (.ref a2)])) _
                refine own_blk X74 hx bl1_116_5 (own_hb hby bd1_116_5) (pc' := 123) (Ls' := #[.val (.int p1), .val (.ref a2), .val (.int (2 : Int32)), .val (.int (0 : Int32)), .unset]) (st' := [(.int ((p1 >>> ((8 : Int32) &&& 31)) &&& (15 : Int32))), (.ref w1), (.int (5 : Int32)), (.ref a2)]) rfl ?_
                refine X74.baloadBytes hx (j := ((p1 >>> ((8 : Int32) &&& 31)) &&& (15 : Int32))) (v := (.int (own_tab ((p1 >>> ((8 : Int32) &&& 31)) &&& (15 : Int32))))) (by rw [e74]; exact fa76.1) (State.isArrayOf_alike hZ.alike fa76.2.1) fa76.2.2 hin75 hat75 (g := (mkF m 123 #[.val (.int p1), .val (.ref a2), .val (.int (2 : Int32)), .val (.int (0 : Int32)), .unset] [(.int ((p1 >>> ((8 : Int32) &&& 31)) &&& (15 : Int32))), (.ref w1), (.int (5 : Int32)), (.ref a2)])) rfl rfl (hb hby d1_123) _ ?_
                show Steps p.tables e below (T74.setTop (mkF m 124 #[.val (.int p1), .val (.ref a2), .val (.int (2 : Int32)), .val (.int (0 : Int32)), .unset] [(.int (own_tab ((p1 >>> ((8 : Int32) &&& 31)) &&& (15 : Int32)))), (.int (5 : Int32)), (.ref a2)])) _
                refine st77 _ ?_
                show Steps p.tables e below (T77.setTop (mkF m 125 #[.val (.int p1), .val (.ref a2), .val (.int (2 : Int32)), .val (.int (0 : Int32)), .unset] [])) _
                refine own_blk X77 hx bl1_125_4 (own_hb hby bd1_125_4) (pc' := 129) (Ls' := #[.val (.int p1), .val (.ref a2), .val (.int (2 : Int32)), .val (.int (0 : Int32)), .unset]) (st' := [(.int (6 : Int32)), (.ref a2)]) rfl ?_
                refine st81 _ ?_
                show Steps p.tables e below (T81.setTop (mkF m 132 #[.val (.int p1), .val (.ref a2), .val (.int (2 : Int32)), .val (.int (0 : Int32)), .unset] [(.ref w1), (.int (6 : Int32)), (.ref a2)])) _
                refine own_blk X81 hx bl1_132_5 (own_hb hby bd1_132_5) (pc' := 138) (Ls' := #[.val (.int p1), .val (.ref a2), .val (.int (2 : Int32)), .val (.int (0 : Int32)), .unset]) (st' := [(.int ((p1 >>> ((4 : Int32) &&& 31)) &&& (15 : Int32))), (.ref w1), (.int (6 : Int32)), (.ref a2)]) rfl ?_
                refine X81.baloadBytes hx (j := ((p1 >>> ((4 : Int32) &&& 31)) &&& (15 : Int32))) (v := (.int (own_tab ((p1 >>> ((4 : Int32) &&& 31)) &&& (15 : Int32))))) (by rw [e81]; exact fa83.1) (State.isArrayOf_alike hZ.alike fa83.2.1) fa83.2.2 hin82 hat82 (g := (mkF m 138 #[.val (.int p1), .val (.ref a2), .val (.int (2 : Int32)), .val (.int (0 : Int32)), .unset] [(.int ((p1 >>> ((4 : Int32) &&& 31)) &&& (15 : Int32))), (.ref w1), (.int (6 : Int32)), (.ref a2)])) rfl rfl (hb hby d1_138) _ ?_
                show Steps p.tables e below (T81.setTop (mkF m 139 #[.val (.int p1), .val (.ref a2), .val (.int (2 : Int32)), .val (.int (0 : Int32)), .unset] [(.int (own_tab ((p1 >>> ((4 : Int32) &&& 31)) &&& (15 : Int32)))), (.int (6 : Int32)), (.ref a2)])) _
                refine st84 _ ?_
                show Steps p.tables e below (T84.setTop (mkF m 140 #[.val (.int p1), .val (.ref a2), .val (.int (2 : Int32)), .val (.int (0 : Int32)), .unset] [])) _
                refine own_blk X84 hx bl1_140_4 (own_hb hby bd1_140_4) (pc' := 144) (Ls' := #[.val (.int p1), .val (.ref a2), .val (.int (2 : Int32)), .val (.int (0 : Int32)), .unset]) (st' := [(.int (7 : Int32)), (.ref a2)]) rfl ?_
                refine st88 _ ?_
                show Steps p.tables e below (T88.setTop (mkF m 147 #[.val (.int p1), .val (.ref a2), .val (.int (2 : Int32)), .val (.int (0 : Int32)), .unset] [(.ref w1), (.int (7 : Int32)), (.ref a2)])) _
                refine own_blk X88 hx bl1_147_3 (own_hb hby bd1_147_3) (pc' := 151) (Ls' := #[.val (.int p1), .val (.ref a2), .val (.int (2 : Int32)), .val (.int (0 : Int32)), .unset]) (st' := [(.int (p1 &&& (15 : Int32))), (.ref w1), (.int (7 : Int32)), (.ref a2)]) rfl ?_
                refine X88.baloadBytes hx (j := (p1 &&& (15 : Int32))) (v := (.int (own_tab (p1 &&& (15 : Int32))))) (by rw [e88]; exact fa90.1) (State.isArrayOf_alike hZ.alike fa90.2.1) fa90.2.2 hin89 hat89 (g := (mkF m 151 #[.val (.int p1), .val (.ref a2), .val (.int (2 : Int32)), .val (.int (0 : Int32)), .unset] [(.int (p1 &&& (15 : Int32))), (.ref w1), (.int (7 : Int32)), (.ref a2)])) rfl rfl (hb hby d1_151) _ ?_
                show Steps p.tables e below (T88.setTop (mkF m 152 #[.val (.int p1), .val (.ref a2), .val (.int (2 : Int32)), .val (.int (0 : Int32)), .unset] [(.int (own_tab (p1 &&& (15 : Int32)))), (.int (7 : Int32)), (.ref a2)])) _
                refine st91 _ ?_
                show Steps p.tables e below (T91.setTop (mkF m 153 #[.val (.int p1), .val (.ref a2), .val (.int (2 : Int32)), .val (.int (0 : Int32)), .unset] [])) _
                refine own_blk X91 hx bl1_153_4 (own_hb hby bd1_153_4) (pc' := 159) (Ls' := #[.val (.int p1), .val (.ref a2), .val (.int (2 : Int32)), .val (.int (0 : Int32)), .val (.int (8 : Int32))]) (st' := []) rfl ?_
                refine own_blk X91 hx bl1_159_1 (own_hb hby bd1_159_1) (pc' := 161) (Ls' := #[.val (.int p1), .val (.ref a2), .val (.int (2 : Int32)), .val (.int (0 : Int32)), .val (.int (8 : Int32))]) (st' := [(.int (8 : Int32))]) rfl ?_
                exact retI X91 hx Bd.returns (hb hby d1_161) hr
              · show Q1_2 Z p1 a2 u w1 cl1 k_a2 h0 n0 _ T91.heap _
                rw [e91]
                have lf94 : Arv Z h91 a2 k_a2 .byte (10 : Int32) [(.int (f1_2_a2_0 p1 u)), (.int (f1_2_a2_1 p1 u)), (.int (f1_2_a2_2 p1 u)), (.int (f1_2_a2_3 p1 u)), (.int (f1_2_a2_4 p1 u)), (.int (f1_2_a2_5 p1 u)), (.int (f1_2_a2_6 p1 u)), (.int (f1_2_a2_7 p1 u)), (.int (f1_2_a2_8 p1 u)), (.int (f1_2_a2_9 p1 u))] (.int (0 : Int32)) := by simp only [f1_2_a2_0, f1_2_a2_1, f1_2_a2_2, f1_2_a2_3, f1_2_a2_4, f1_2_a2_5, f1_2_a2_6, f1_2_a2_7, f1_2_a2_8, f1_2_a2_9, if_neg hc5, if_neg hc10, if_neg hc15, if_neg hc20, if_neg hc53, if_neg hc58]; exact V91
                exact ⟨by rw [f1_2, if_neg hc5, if_neg hc10, if_neg hc15, if_neg hc20, if_neg hc53, if_neg hc58], N91, kp93, lf94⟩
theorem own_end2n (tc u : Int32) (h : ¬ (f2 tc) = (0 : Int32)) : (f1_2 tc u) = (4 : Int32) := by
  by_cases h8 : tc = 8
  · subst h8; rfl
  by_cases h9 : tc = 9
  · subst h9; rfl
  by_cases h10 : tc = 10
  · subst h10; rfl
  by_cases h12 : tc = 12
  · subst h12; rfl
  by_cases h13 : tc = 13
  · subst h13; rfl
  have hsf : f2 tc = 0 := by rw [f2, if_neg h8, if_neg h9, if_neg h10, if_neg h12, if_neg h13]
  exact absurd hsf h
theorem own_end2z (tc u : Int32) (h : (f2 tc) = (0 : Int32)) : (f1_2 tc u) = (8 : Int32) := by
  by_cases h8 : tc = 8
  · subst h8; exact absurd h (by decide)
  by_cases h9 : tc = 9
  · subst h9; exact absurd h (by decide)
  by_cases h10 : tc = 10
  · subst h10; exact absurd h (by decide)
  by_cases h12 : tc = 12
  · subst h12; exact absurd h (by decide)
  by_cases h13 : tc = 13
  · subst h13; exact absurd h (by decide)
  unfold f1_2
  simp only [h8, h9, h10, h12, h13, if_false, ite_self]
theorem own_e2_0 (tc t2 : Int32) (hp : ¬ tc < 0) (hp2 : tc < 65536) : (f1_2_a2_0 tc (nar .byte (t2.toInt8.toInt32))) = (f3 (0 : Int32) (2 : Int32) tc (t2.toInt8.toInt32)) := by
  have n1 := own_nib tc hp hp2
  by_cases h8 : tc = 8
  · subst h8; rfl
  by_cases h9 : tc = 9
  · subst h9; rfl
  by_cases h10 : tc = 10
  · subst h10; rfl
  by_cases h12 : tc = 12
  · subst h12; rfl
  by_cases h13 : tc = 13
  · subst h13; rfl
  have hsf : f2 tc = 0 := by rw [f2, if_neg h8, if_neg h9, if_neg h10, if_neg h12, if_neg h13]
  unfold f1_2_a2_0 f3
  simp only [hsf, h8, h9, h10, h12, h13, if_false, ite_self]
  first | rfl | exact n1.1 | exact n1.2.1 | exact n1.2.2.1 | exact n1.2.2.2
theorem own_e2_1 (tc t2 : Int32) (hp : ¬ tc < 0) (hp2 : tc < 65536) : (f1_2_a2_1 tc (nar .byte (t2.toInt8.toInt32))) = (f3 (1 : Int32) (2 : Int32) tc (t2.toInt8.toInt32)) := by
  have n1 := own_nib tc hp hp2
  by_cases h8 : tc = 8
  · subst h8; rfl
  by_cases h9 : tc = 9
  · subst h9; rfl
  by_cases h10 : tc = 10
  · subst h10; rfl
  by_cases h12 : tc = 12
  · subst h12; rfl
  by_cases h13 : tc = 13
  · subst h13; rfl
  have hsf : f2 tc = 0 := by rw [f2, if_neg h8, if_neg h9, if_neg h10, if_neg h12, if_neg h13]
  unfold f1_2_a2_1 f3
  simp only [hsf, h8, h9, h10, h12, h13, if_false, ite_self]
  first | rfl | exact n1.1 | exact n1.2.1 | exact n1.2.2.1 | exact n1.2.2.2
theorem own_e2_2 (tc t2 : Int32) (hp : ¬ tc < 0) (hp2 : tc < 65536) : (f1_2_a2_2 tc (nar .byte (t2.toInt8.toInt32))) = (f3 (2 : Int32) (2 : Int32) tc (t2.toInt8.toInt32)) := by
  have n1 := own_nib tc hp hp2
  by_cases h8 : tc = 8
  · subst h8; rfl
  by_cases h9 : tc = 9
  · subst h9; rfl
  by_cases h10 : tc = 10
  · subst h10; rfl
  by_cases h12 : tc = 12
  · subst h12; rfl
  by_cases h13 : tc = 13
  · subst h13; rfl
  have hsf : f2 tc = 0 := by rw [f2, if_neg h8, if_neg h9, if_neg h10, if_neg h12, if_neg h13]
  unfold f1_2_a2_2 f3
  simp only [hsf, h8, h9, h10, h12, h13, if_false, ite_self]
  first | rfl | exact n1.1 | exact n1.2.1 | exact n1.2.2.1 | exact n1.2.2.2
theorem own_e2_3 (tc t2 : Int32) (hp : ¬ tc < 0) (hp2 : tc < 65536) : (f1_2_a2_3 tc (nar .byte (t2.toInt8.toInt32))) = (f3 (3 : Int32) (2 : Int32) tc (t2.toInt8.toInt32)) := by
  have n1 := own_nib tc hp hp2
  by_cases h8 : tc = 8
  · subst h8; rfl
  by_cases h9 : tc = 9
  · subst h9; rfl
  by_cases h10 : tc = 10
  · subst h10; rfl
  by_cases h12 : tc = 12
  · subst h12; rfl
  by_cases h13 : tc = 13
  · subst h13; rfl
  have hsf : f2 tc = 0 := by rw [f2, if_neg h8, if_neg h9, if_neg h10, if_neg h12, if_neg h13]
  unfold f1_2_a2_3 f3
  simp only [hsf, h8, h9, h10, h12, h13, if_false, ite_self]
  first | rfl | exact n1.1 | exact n1.2.1 | exact n1.2.2.1 | exact n1.2.2.2
theorem own_e2_4 (tc t2 : Int32) (hp : ¬ tc < 0) (hp2 : tc < 65536) : (f1_2_a2_4 tc (nar .byte (t2.toInt8.toInt32))) = (f3 (4 : Int32) (2 : Int32) tc (t2.toInt8.toInt32)) := by
  have n1 := own_nib tc hp hp2
  by_cases h8 : tc = 8
  · subst h8; rfl
  by_cases h9 : tc = 9
  · subst h9; rfl
  by_cases h10 : tc = 10
  · subst h10; rfl
  by_cases h12 : tc = 12
  · subst h12; rfl
  by_cases h13 : tc = 13
  · subst h13; rfl
  have hsf : f2 tc = 0 := by rw [f2, if_neg h8, if_neg h9, if_neg h10, if_neg h12, if_neg h13]
  unfold f1_2_a2_4 f3
  simp only [hsf, h8, h9, h10, h12, h13, if_false, ite_self]
  first | rfl | exact n1.1 | exact n1.2.1 | exact n1.2.2.1 | exact n1.2.2.2
theorem own_e2_5 (tc t2 : Int32) (hp : ¬ tc < 0) (hp2 : tc < 65536) : (f1_2_a2_5 tc (nar .byte (t2.toInt8.toInt32))) = (f3 (5 : Int32) (2 : Int32) tc (t2.toInt8.toInt32)) := by
  have n1 := own_nib tc hp hp2
  by_cases h8 : tc = 8
  · subst h8; rfl
  by_cases h9 : tc = 9
  · subst h9; rfl
  by_cases h10 : tc = 10
  · subst h10; rfl
  by_cases h12 : tc = 12
  · subst h12; rfl
  by_cases h13 : tc = 13
  · subst h13; rfl
  have hsf : f2 tc = 0 := by rw [f2, if_neg h8, if_neg h9, if_neg h10, if_neg h12, if_neg h13]
  unfold f1_2_a2_5 f3
  simp only [hsf, h8, h9, h10, h12, h13, if_false, ite_self]
  first | rfl | exact n1.1 | exact n1.2.1 | exact n1.2.2.1 | exact n1.2.2.2
theorem own_e2_6 (tc t2 : Int32) (hp : ¬ tc < 0) (hp2 : tc < 65536) : (f1_2_a2_6 tc (nar .byte (t2.toInt8.toInt32))) = (f3 (6 : Int32) (2 : Int32) tc (t2.toInt8.toInt32)) := by
  have n1 := own_nib tc hp hp2
  by_cases h8 : tc = 8
  · subst h8; rfl
  by_cases h9 : tc = 9
  · subst h9; rfl
  by_cases h10 : tc = 10
  · subst h10; rfl
  by_cases h12 : tc = 12
  · subst h12; rfl
  by_cases h13 : tc = 13
  · subst h13; rfl
  have hsf : f2 tc = 0 := by rw [f2, if_neg h8, if_neg h9, if_neg h10, if_neg h12, if_neg h13]
  unfold f1_2_a2_6 f3
  simp only [hsf, h8, h9, h10, h12, h13, if_false, ite_self]
  first | rfl | exact n1.1 | exact n1.2.1 | exact n1.2.2.1 | exact n1.2.2.2
theorem own_e2_7 (tc t2 : Int32) (hp : ¬ tc < 0) (hp2 : tc < 65536) : (f1_2_a2_7 tc (nar .byte (t2.toInt8.toInt32))) = (f3 (7 : Int32) (2 : Int32) tc (t2.toInt8.toInt32)) := by
  have n1 := own_nib tc hp hp2
  by_cases h8 : tc = 8
  · subst h8; rfl
  by_cases h9 : tc = 9
  · subst h9; rfl
  by_cases h10 : tc = 10
  · subst h10; rfl
  by_cases h12 : tc = 12
  · subst h12; rfl
  by_cases h13 : tc = 13
  · subst h13; rfl
  have hsf : f2 tc = 0 := by rw [f2, if_neg h8, if_neg h9, if_neg h10, if_neg h12, if_neg h13]
  unfold f1_2_a2_7 f3
  simp only [hsf, h8, h9, h10, h12, h13, if_false, ite_self]
  first | rfl | exact n1.1 | exact n1.2.1 | exact n1.2.2.1 | exact n1.2.2.2
theorem own_e2_8 (tc t2 : Int32) (hp : ¬ tc < 0) (hp2 : tc < 65536) : (f1_2_a2_8 tc (nar .byte (t2.toInt8.toInt32))) = (f3 (8 : Int32) (2 : Int32) tc (t2.toInt8.toInt32)) := by
  have n1 := own_nib tc hp hp2
  by_cases h8 : tc = 8
  · subst h8; rfl
  by_cases h9 : tc = 9
  · subst h9; rfl
  by_cases h10 : tc = 10
  · subst h10; rfl
  by_cases h12 : tc = 12
  · subst h12; rfl
  by_cases h13 : tc = 13
  · subst h13; rfl
  have hsf : f2 tc = 0 := by rw [f2, if_neg h8, if_neg h9, if_neg h10, if_neg h12, if_neg h13]
  unfold f1_2_a2_8 f3
  simp only [hsf, h8, h9, h10, h12, h13, if_false, ite_self]
  first | rfl | exact n1.1 | exact n1.2.1 | exact n1.2.2.1 | exact n1.2.2.2
theorem own_e2_9 (tc t2 : Int32) (hp : ¬ tc < 0) (hp2 : tc < 65536) : (f1_2_a2_9 tc (nar .byte (t2.toInt8.toInt32))) = (f3 (9 : Int32) (2 : Int32) tc (t2.toInt8.toInt32)) := by
  have n1 := own_nib tc hp hp2
  by_cases h8 : tc = 8
  · subst h8; rfl
  by_cases h9 : tc = 9
  · subst h9; rfl
  by_cases h10 : tc = 10
  · subst h10; rfl
  by_cases h12 : tc = 12
  · subst h12; rfl
  by_cases h13 : tc = 13
  · subst h13; rfl
  have hsf : f2 tc = 0 := by rw [f2, if_neg h8, if_neg h9, if_neg h10, if_neg h12, if_neg h13]
  unfold f1_2_a2_9 f3
  simp only [hsf, h8, h9, h10, h12, h13, if_false, ite_self]
  first | rfl | exact n1.1 | exact n1.2.1 | exact n1.2.2.1 | exact n1.2.2.2
def fB2 (t0 : Int32) (t1 : Int32) (t2 : Int32) (t3 : Int32) (tc : Int32) (t9 : Int32) (t10 : Int32) : Int32 := (1 : Int32)
set_option maxRecDepth 65536 in
set_option maxHeartbeats 40000000 in
theorem tlB2 {p : Program} {l : Launch} {e : Env} {s : State} {m : MethodId} {args : Array Value} {below : List Frame} {meth : Method} {c : Code} {s₁ T0 : State} {locs : List Loc} {Z : State} {a0 : Array Value} {h0 : Heap} {n0 : Nat} {E : JFrame} (t0 : Int32) (t1 : Int32) (t2 : Int32) (t3 : Int32) (tc : Int32) (t9 : Int32) (t10 : Int32) (tb : Addr) (tk : ClassId)
    (X0 : Stand p l e room_1 s m args below meth c T0 locs 1 10) (hx : p.tables.exec = Jvm.exec) (hZ : Z.Warmed39 s.vm) (hw : ∀ d ∈ tables_1, d.before a0 Z = true) (hby : c.code = code) (hml : c.maxLocals = 12) (hown : s.vm.findClass "com/example/endcon/endcon/rules/LineTextEscapePinLaw" = some m.cls) (hret : meth.sig.returnType = some .boolean) (hlk : meth.locks = false) (e0 : T0.heap = h0) (N0 : Fr n0 locs) (Z0 : n0 ≤ h0.size)
    (pre0 : ∀ t, Steps p.tables e below (T0.setTop (mkF m 176 #[.val (.int t0), .val (.int t1), .val (.int t2), .val (.int t3), .val (.int tc), .val (.int tc), .val (.int (2 : Int32)), .val (.int (t2.toInt8.toInt32)), .val (.ref tb), .val (.int t9), .val (.int t10), .val (.int (1 : Int32))] [])) t → Steps p.tables e below (s₁.setTop E) t) (V_tb : Arv Z h0 tb tk .byte (10 : Int32) [(.int (f1_2_a2_0 tc (nar .byte (t2.toInt8.toInt32)))), (.int (f1_2_a2_1 tc (nar .byte (t2.toInt8.toInt32)))), (.int (f1_2_a2_2 tc (nar .byte (t2.toInt8.toInt32)))), (.int (f1_2_a2_3 tc (nar .byte (t2.toInt8.toInt32)))), (.int (f1_2_a2_4 tc (nar .byte (t2.toInt8.toInt32)))), (.int (f1_2_a2_5 tc (nar .byte (t2.toInt8.toInt32)))), (.int (f1_2_a2_6 tc (nar .byte (t2.toInt8.toInt32)))), (.int (f1_2_a2_7 tc (nar .byte (t2.toInt8.toInt32)))), (.int (f1_2_a2_8 tc (nar .byte (t2.toInt8.toInt32)))), (.int (f1_2_a2_9 tc (nar .byte (t2.toInt8.toInt32))))] (.int (0 : Int32))) (hp : ¬ (tc < 0)) (hp2 : tc < 65536) :
    ∃ s₂ o, Steps p.tables e below (s₁.setTop E) s₂ ∧ s₂.status = .running ∧ Ended s₂ below o ∧ ∃ v L, o = .returned v ∧ (v = some (.int (fB2 t0 t1 t2 t3 tc t9 t10)) ∧ Fr n0 L) ∧ FrameEnd s o s₂ L room_1.cells room_1.slots := by
  obtain ⟨cx1, Ar1, qq1, S1, N1_, H1, G1⟩ := id V_tb
  have hin1 : ¬ ((0 : Int32) < 0 ∨ cx1.slots.size ≤ ((0 : Int32)).toNatClampNeg) := inb_of S1 ⟨by decide, by decide⟩
  have hat1 : cx1.slots[((0 : Int32)).toNatClampNeg]? = some (.int (f1_2_a2_0 tc (nar .byte (t2.toInt8.toInt32)))) := (H1 ((0 : Int32)).toNatClampNeg (Nat.lt_of_not_le fun w => hin1 (Or.inr w))).trans (congrArg some (rfl))
  obtain ⟨_, T2, Lc2, X2, hQ2, st2⟩ := own_callS X0 hx hZ (y := (⟨"com/example/endcon/endcon/rules/LineTextEscapePinLaw", "expectedAt", "(IIIB)B"⟩ : MethodName)) hown (hw _ (List.mem_of_getElem? (i := 12) rfl)) (hw _ (List.mem_of_getElem? (i := 13) rfl)) (hw _ (List.mem_of_getElem? (i := 10) rfl)) (hw _ (List.mem_of_getElem? (i := 14) rfl)) (by decide) (W := 1) (argsL := [(.int (0 : Int32)), (.int (2 : Int32)), (.int tc), (.int (t2.toInt8.toInt32))]) (rest := [(.int (f1_2_a2_0 tc (nar .byte (t2.toInt8.toInt32))))]) (rm3 l Z a0 hw [] (0 : Int32) (2 : Int32) tc (t2.toInt8.toInt32) h0 n0 Z0 ) (by decide) (by decide) (c' := 1) (s' := 10) rfl rfl (by decide) (by decide) e0 (g := (mkF m 192 #[.val (.int t0), .val (.int t1), .val (.int t2), .val (.int t3), .val (.int tc), .val (.int tc), .val (.int (2 : Int32)), .val (.int (t2.toInt8.toInt32)), .val (.ref tb), .val (.int t9), .val (.int t10), .val (.int (1 : Int32))] [(.int (t2.toInt8.toInt32)), (.int tc), (.int (2 : Int32)), (.int (0 : Int32)), (.int (f1_2_a2_0 tc (nar .byte (t2.toInt8.toInt32))))])) rfl (by rw [hml]; rfl) (lenOf pd_0_2 rfl) rfl (by show 2 * 0 + _ ≤ _; exact Nat.le_of_eq rfl) (hb hby at_192)
  obtain ⟨rfl, N2q, e2⟩ := hQ2
  have N2 := Fr.app N0 N2q
  obtain ⟨cx3, Ar3, qq3, S3, N3_, H3, G3⟩ := id V_tb
  have hin3 : ¬ ((1 : Int32) < 0 ∨ cx3.slots.size ≤ ((1 : Int32)).toNatClampNeg) := inb_of S3 ⟨by decide, by decide⟩
  have hat3 : cx3.slots[((1 : Int32)).toNatClampNeg]? = some (.int (f1_2_a2_1 tc (nar .byte (t2.toInt8.toInt32)))) := (H3 ((1 : Int32)).toNatClampNeg (Nat.lt_of_not_le fun w => hin3 (Or.inr w))).trans (congrArg some (rfl))
  obtain ⟨_, T4, Lc4, X4, hQ4, st4⟩ := own_callS X2 hx hZ (y := (⟨"com/example/endcon/endcon/rules/LineTextEscapePinLaw", "expectedAt", "(IIIB)B"⟩ : MethodName)) hown (hw _ (List.mem_of_getElem? (i := 12) rfl)) (hw _ (List.mem_of_getElem? (i := 13) rfl)) (hw _ (List.mem_of_getElem? (i := 10) rfl)) (hw _ (List.mem_of_getElem? (i := 14) rfl)) (by decide) (W := 1) (argsL := [(.int (1 : Int32)), (.int (2 : Int32)), (.int tc), (.int (t2.toInt8.toInt32))]) (rest := [(.int (f1_2_a2_1 tc (nar .byte (t2.toInt8.toInt32))))]) (rm3 l Z a0 hw [] (1 : Int32) (2 : Int32) tc (t2.toInt8.toInt32) h0 n0 Z0 ) (by decide) (by decide) (c' := 1) (s' := 10) rfl rfl (by decide) (by decide) e2 (g := (mkF m 221 #[.val (.int t0), .val (.int t1), .val (.int t2), .val (.int t3), .val (.int tc), .val (.int tc), .val (.int (2 : Int32)), .val (.int (t2.toInt8.toInt32)), .val (.ref tb), .val (.int t9), .val (.int t10), .val (.int (1 : Int32))] [(.int (t2.toInt8.toInt32)), (.int tc), (.int (2 : Int32)), (.int (1 : Int32)), (.int (f1_2_a2_1 tc (nar .byte (t2.toInt8.toInt32))))])) rfl (by rw [hml]; rfl) (lenOf pd_0_2 rfl) rfl (by show 2 * 0 + _ ≤ _; exact Nat.le_of_eq rfl) (hb hby at_221)
  obtain ⟨rfl, N4q, e4⟩ := hQ4
  have N4 := Fr.app N2 N4q
  obtain ⟨cx5, Ar5, qq5, S5, N5_, H5, G5⟩ := id V_tb
  have hin5 : ¬ ((2 : Int32) < 0 ∨ cx5.slots.size ≤ ((2 : Int32)).toNatClampNeg) := inb_of S5 ⟨by decide, by decide⟩
  have hat5 : cx5.slots[((2 : Int32)).toNatClampNeg]? = some (.int (f1_2_a2_2 tc (nar .byte (t2.toInt8.toInt32)))) := (H5 ((2 : Int32)).toNatClampNeg (Nat.lt_of_not_le fun w => hin5 (Or.inr w))).trans (congrArg some (rfl))
  obtain ⟨_, T6, Lc6, X6, hQ6, st6⟩ := own_callS X4 hx hZ (y := (⟨"com/example/endcon/endcon/rules/LineTextEscapePinLaw", "expectedAt", "(IIIB)B"⟩ : MethodName)) hown (hw _ (List.mem_of_getElem? (i := 12) rfl)) (hw _ (List.mem_of_getElem? (i := 13) rfl)) (hw _ (List.mem_of_getElem? (i := 10) rfl)) (hw _ (List.mem_of_getElem? (i := 14) rfl)) (by decide) (W := 1) (argsL := [(.int (2 : Int32)), (.int (2 : Int32)), (.int tc), (.int (t2.toInt8.toInt32))]) (rest := [(.int (f1_2_a2_2 tc (nar .byte (t2.toInt8.toInt32))))]) (rm3 l Z a0 hw [] (2 : Int32) (2 : Int32) tc (t2.toInt8.toInt32) h0 n0 Z0 ) (by decide) (by decide) (c' := 1) (s' := 10) rfl rfl (by decide) (by decide) e4 (g := (mkF m 250 #[.val (.int t0), .val (.int t1), .val (.int t2), .val (.int t3), .val (.int tc), .val (.int tc), .val (.int (2 : Int32)), .val (.int (t2.toInt8.toInt32)), .val (.ref tb), .val (.int t9), .val (.int t10), .val (.int (1 : Int32))] [(.int (t2.toInt8.toInt32)), (.int tc), (.int (2 : Int32)), (.int (2 : Int32)), (.int (f1_2_a2_2 tc (nar .byte (t2.toInt8.toInt32))))])) rfl (by rw [hml]; rfl) (lenOf pd_0_2 rfl) rfl (by show 2 * 0 + _ ≤ _; exact Nat.le_of_eq rfl) (hb hby at_250)
  obtain ⟨rfl, N6q, e6⟩ := hQ6
  have N6 := Fr.app N4 N6q
  obtain ⟨cx7, Ar7, qq7, S7, N7_, H7, G7⟩ := id V_tb
  have hin7 : ¬ ((3 : Int32) < 0 ∨ cx7.slots.size ≤ ((3 : Int32)).toNatClampNeg) := inb_of S7 ⟨by decide, by decide⟩
  have hat7 : cx7.slots[((3 : Int32)).toNatClampNeg]? = some (.int (f1_2_a2_3 tc (nar .byte (t2.toInt8.toInt32)))) := (H7 ((3 : Int32)).toNatClampNeg (Nat.lt_of_not_le fun w => hin7 (Or.inr w))).trans (congrArg some (rfl))
  obtain ⟨_, T8, Lc8, X8, hQ8, st8⟩ := own_callS X6 hx hZ (y := (⟨"com/example/endcon/endcon/rules/LineTextEscapePinLaw", "expectedAt", "(IIIB)B"⟩ : MethodName)) hown (hw _ (List.mem_of_getElem? (i := 12) rfl)) (hw _ (List.mem_of_getElem? (i := 13) rfl)) (hw _ (List.mem_of_getElem? (i := 10) rfl)) (hw _ (List.mem_of_getElem? (i := 14) rfl)) (by decide) (W := 1) (argsL := [(.int (3 : Int32)), (.int (2 : Int32)), (.int tc), (.int (t2.toInt8.toInt32))]) (rest := [(.int (f1_2_a2_3 tc (nar .byte (t2.toInt8.toInt32))))]) (rm3 l Z a0 hw [] (3 : Int32) (2 : Int32) tc (t2.toInt8.toInt32) h0 n0 Z0 ) (by decide) (by decide) (c' := 1) (s' := 10) rfl rfl (by decide) (by decide) e6 (g := (mkF m 279 #[.val (.int t0), .val (.int t1), .val (.int t2), .val (.int t3), .val (.int tc), .val (.int tc), .val (.int (2 : Int32)), .val (.int (t2.toInt8.toInt32)), .val (.ref tb), .val (.int t9), .val (.int t10), .val (.int (1 : Int32))] [(.int (t2.toInt8.toInt32)), (.int tc), (.int (2 : Int32)), (.int (3 : Int32)), (.int (f1_2_a2_3 tc (nar .byte (t2.toInt8.toInt32))))])) rfl (by rw [hml]; rfl) (lenOf pd_0_2 rfl) rfl (by show 2 * 0 + _ ≤ _; exact Nat.le_of_eq rfl) (hb hby at_279)
  obtain ⟨rfl, N8q, e8⟩ := hQ8
  have N8 := Fr.app N6 N8q
  obtain ⟨cx9, Ar9, qq9, S9, N9_, H9, G9⟩ := id V_tb
  have hin9 : ¬ ((4 : Int32) < 0 ∨ cx9.slots.size ≤ ((4 : Int32)).toNatClampNeg) := inb_of S9 ⟨by decide, by decide⟩
  have hat9 : cx9.slots[((4 : Int32)).toNatClampNeg]? = some (.int (f1_2_a2_4 tc (nar .byte (t2.toInt8.toInt32)))) := (H9 ((4 : Int32)).toNatClampNeg (Nat.lt_of_not_le fun w => hin9 (Or.inr w))).trans (congrArg some (rfl))
  obtain ⟨_, T10, Lc10, X10, hQ10, st10⟩ := own_callS X8 hx hZ (y := (⟨"com/example/endcon/endcon/rules/LineTextEscapePinLaw", "expectedAt", "(IIIB)B"⟩ : MethodName)) hown (hw _ (List.mem_of_getElem? (i := 12) rfl)) (hw _ (List.mem_of_getElem? (i := 13) rfl)) (hw _ (List.mem_of_getElem? (i := 10) rfl)) (hw _ (List.mem_of_getElem? (i := 14) rfl)) (by decide) (W := 1) (argsL := [(.int (4 : Int32)), (.int (2 : Int32)), (.int tc), (.int (t2.toInt8.toInt32))]) (rest := [(.int (f1_2_a2_4 tc (nar .byte (t2.toInt8.toInt32))))]) (rm3 l Z a0 hw [] (4 : Int32) (2 : Int32) tc (t2.toInt8.toInt32) h0 n0 Z0 ) (by decide) (by decide) (c' := 1) (s' := 10) rfl rfl (by decide) (by decide) e8 (g := (mkF m 308 #[.val (.int t0), .val (.int t1), .val (.int t2), .val (.int t3), .val (.int tc), .val (.int tc), .val (.int (2 : Int32)), .val (.int (t2.toInt8.toInt32)), .val (.ref tb), .val (.int t9), .val (.int t10), .val (.int (1 : Int32))] [(.int (t2.toInt8.toInt32)), (.int tc), (.int (2 : Int32)), (.int (4 : Int32)), (.int (f1_2_a2_4 tc (nar .byte (t2.toInt8.toInt32))))])) rfl (by rw [hml]; rfl) (lenOf pd_0_2 rfl) rfl (by show 2 * 0 + _ ≤ _; exact Nat.le_of_eq rfl) (hb hby at_308)
  obtain ⟨rfl, N10q, e10⟩ := hQ10
  have N10 := Fr.app N8 N10q
  obtain ⟨cx11, Ar11, qq11, S11, N11_, H11, G11⟩ := id V_tb
  have hin11 : ¬ ((5 : Int32) < 0 ∨ cx11.slots.size ≤ ((5 : Int32)).toNatClampNeg) := inb_of S11 ⟨by decide, by decide⟩
  have hat11 : cx11.slots[((5 : Int32)).toNatClampNeg]? = some (.int (f1_2_a2_5 tc (nar .byte (t2.toInt8.toInt32)))) := (H11 ((5 : Int32)).toNatClampNeg (Nat.lt_of_not_le fun w => hin11 (Or.inr w))).trans (congrArg some (rfl))
  obtain ⟨_, T12, Lc12, X12, hQ12, st12⟩ := own_callS X10 hx hZ (y := (⟨"com/example/endcon/endcon/rules/LineTextEscapePinLaw", "expectedAt", "(IIIB)B"⟩ : MethodName)) hown (hw _ (List.mem_of_getElem? (i := 12) rfl)) (hw _ (List.mem_of_getElem? (i := 13) rfl)) (hw _ (List.mem_of_getElem? (i := 10) rfl)) (hw _ (List.mem_of_getElem? (i := 14) rfl)) (by decide) (W := 1) (argsL := [(.int (5 : Int32)), (.int (2 : Int32)), (.int tc), (.int (t2.toInt8.toInt32))]) (rest := [(.int (f1_2_a2_5 tc (nar .byte (t2.toInt8.toInt32))))]) (rm3 l Z a0 hw [] (5 : Int32) (2 : Int32) tc (t2.toInt8.toInt32) h0 n0 Z0 ) (by decide) (by decide) (c' := 1) (s' := 10) rfl rfl (by decide) (by decide) e10 (g := (mkF m 337 #[.val (.int t0), .val (.int t1), .val (.int t2), .val (.int t3), .val (.int tc), .val (.int tc), .val (.int (2 : Int32)), .val (.int (t2.toInt8.toInt32)), .val (.ref tb), .val (.int t9), .val (.int t10), .val (.int (1 : Int32))] [(.int (t2.toInt8.toInt32)), (.int tc), (.int (2 : Int32)), (.int (5 : Int32)), (.int (f1_2_a2_5 tc (nar .byte (t2.toInt8.toInt32))))])) rfl (by rw [hml]; rfl) (lenOf pd_0_2 rfl) rfl (by show 2 * 0 + _ ≤ _; exact Nat.le_of_eq rfl) (hb hby at_337)
  obtain ⟨rfl, N12q, e12⟩ := hQ12
  have N12 := Fr.app N10 N12q
  obtain ⟨cx13, Ar13, qq13, S13, N13_, H13, G13⟩ := id V_tb
  have hin13 : ¬ ((6 : Int32) < 0 ∨ cx13.slots.size ≤ ((6 : Int32)).toNatClampNeg) := inb_of S13 ⟨by decide, by decide⟩
  have hat13 : cx13.slots[((6 : Int32)).toNatClampNeg]? = some (.int (f1_2_a2_6 tc (nar .byte (t2.toInt8.toInt32)))) := (H13 ((6 : Int32)).toNatClampNeg (Nat.lt_of_not_le fun w => hin13 (Or.inr w))).trans (congrArg some (rfl))
  obtain ⟨_, T14, Lc14, X14, hQ14, st14⟩ := own_callS X12 hx hZ (y := (⟨"com/example/endcon/endcon/rules/LineTextEscapePinLaw", "expectedAt", "(IIIB)B"⟩ : MethodName)) hown (hw _ (List.mem_of_getElem? (i := 12) rfl)) (hw _ (List.mem_of_getElem? (i := 13) rfl)) (hw _ (List.mem_of_getElem? (i := 10) rfl)) (hw _ (List.mem_of_getElem? (i := 14) rfl)) (by decide) (W := 1) (argsL := [(.int (6 : Int32)), (.int (2 : Int32)), (.int tc), (.int (t2.toInt8.toInt32))]) (rest := [(.int (f1_2_a2_6 tc (nar .byte (t2.toInt8.toInt32))))]) (rm3 l Z a0 hw [] (6 : Int32) (2 : Int32) tc (t2.toInt8.toInt32) h0 n0 Z0 ) (by decide) (by decide) (c' := 1) (s' := 10) rfl rfl (by decide) (by decide) e12 (g := (mkF m 368 #[.val (.int t0), .val (.int t1), .val (.int t2), .val (.int t3), .val (.int tc), .val (.int tc), .val (.int (2 : Int32)), .val (.int (t2.toInt8.toInt32)), .val (.ref tb), .val (.int t9), .val (.int t10), .val (.int (1 : Int32))] [(.int (t2.toInt8.toInt32)), (.int tc), (.int (2 : Int32)), (.int (6 : Int32)), (.int (f1_2_a2_6 tc (nar .byte (t2.toInt8.toInt32))))])) rfl (by rw [hml]; rfl) (lenOf pd_0_2 rfl) rfl (by show 2 * 0 + _ ≤ _; exact Nat.le_of_eq rfl) (hb hby at_368)
  obtain ⟨rfl, N14q, e14⟩ := hQ14
  have N14 := Fr.app N12 N14q
  obtain ⟨cx15, Ar15, qq15, S15, N15_, H15, G15⟩ := id V_tb
  have hin15 : ¬ ((7 : Int32) < 0 ∨ cx15.slots.size ≤ ((7 : Int32)).toNatClampNeg) := inb_of S15 ⟨by decide, by decide⟩
  have hat15 : cx15.slots[((7 : Int32)).toNatClampNeg]? = some (.int (f1_2_a2_7 tc (nar .byte (t2.toInt8.toInt32)))) := (H15 ((7 : Int32)).toNatClampNeg (Nat.lt_of_not_le fun w => hin15 (Or.inr w))).trans (congrArg some (rfl))
  obtain ⟨_, T16, Lc16, X16, hQ16, st16⟩ := own_callS X14 hx hZ (y := (⟨"com/example/endcon/endcon/rules/LineTextEscapePinLaw", "expectedAt", "(IIIB)B"⟩ : MethodName)) hown (hw _ (List.mem_of_getElem? (i := 12) rfl)) (hw _ (List.mem_of_getElem? (i := 13) rfl)) (hw _ (List.mem_of_getElem? (i := 10) rfl)) (hw _ (List.mem_of_getElem? (i := 14) rfl)) (by decide) (W := 1) (argsL := [(.int (7 : Int32)), (.int (2 : Int32)), (.int tc), (.int (t2.toInt8.toInt32))]) (rest := [(.int (f1_2_a2_7 tc (nar .byte (t2.toInt8.toInt32))))]) (rm3 l Z a0 hw [] (7 : Int32) (2 : Int32) tc (t2.toInt8.toInt32) h0 n0 Z0 ) (by decide) (by decide) (c' := 1) (s' := 10) rfl rfl (by decide) (by decide) e14 (g := (mkF m 399 #[.val (.int t0), .val (.int t1), .val (.int t2), .val (.int t3), .val (.int tc), .val (.int tc), .val (.int (2 : Int32)), .val (.int (t2.toInt8.toInt32)), .val (.ref tb), .val (.int t9), .val (.int t10), .val (.int (1 : Int32))] [(.int (t2.toInt8.toInt32)), (.int tc), (.int (2 : Int32)), (.int (7 : Int32)), (.int (f1_2_a2_7 tc (nar .byte (t2.toInt8.toInt32))))])) rfl (by rw [hml]; rfl) (lenOf pd_0_2 rfl) rfl (by show 2 * 0 + _ ≤ _; exact Nat.le_of_eq rfl) (hb hby at_399)
  obtain ⟨rfl, N16q, e16⟩ := hQ16
  have N16 := Fr.app N14 N16q
  obtain ⟨cx17, Ar17, qq17, S17, N17_, H17, G17⟩ := id V_tb
  have hin17 : ¬ ((8 : Int32) < 0 ∨ cx17.slots.size ≤ ((8 : Int32)).toNatClampNeg) := inb_of S17 ⟨by decide, by decide⟩
  have hat17 : cx17.slots[((8 : Int32)).toNatClampNeg]? = some (.int (f1_2_a2_8 tc (nar .byte (t2.toInt8.toInt32)))) := (H17 ((8 : Int32)).toNatClampNeg (Nat.lt_of_not_le fun w => hin17 (Or.inr w))).trans (congrArg some (rfl))
  obtain ⟨_, T18, Lc18, X18, hQ18, st18⟩ := own_callS X16 hx hZ (y := (⟨"com/example/endcon/endcon/rules/LineTextEscapePinLaw", "expectedAt", "(IIIB)B"⟩ : MethodName)) hown (hw _ (List.mem_of_getElem? (i := 12) rfl)) (hw _ (List.mem_of_getElem? (i := 13) rfl)) (hw _ (List.mem_of_getElem? (i := 10) rfl)) (hw _ (List.mem_of_getElem? (i := 14) rfl)) (by decide) (W := 1) (argsL := [(.int (8 : Int32)), (.int (2 : Int32)), (.int tc), (.int (t2.toInt8.toInt32))]) (rest := [(.int (f1_2_a2_8 tc (nar .byte (t2.toInt8.toInt32))))]) (rm3 l Z a0 hw [] (8 : Int32) (2 : Int32) tc (t2.toInt8.toInt32) h0 n0 Z0 ) (by decide) (by decide) (c' := 1) (s' := 10) rfl rfl (by decide) (by decide) e16 (g := (mkF m 430 #[.val (.int t0), .val (.int t1), .val (.int t2), .val (.int t3), .val (.int tc), .val (.int tc), .val (.int (2 : Int32)), .val (.int (t2.toInt8.toInt32)), .val (.ref tb), .val (.int t9), .val (.int t10), .val (.int (1 : Int32))] [(.int (t2.toInt8.toInt32)), (.int tc), (.int (2 : Int32)), (.int (8 : Int32)), (.int (f1_2_a2_8 tc (nar .byte (t2.toInt8.toInt32))))])) rfl (by rw [hml]; rfl) (lenOf pd_0_2 rfl) rfl (by show 2 * 0 + _ ≤ _; exact Nat.le_of_eq rfl) (hb hby at_430)
  obtain ⟨rfl, N18q, e18⟩ := hQ18
  have N18 := Fr.app N16 N18q
  obtain ⟨cx19, Ar19, qq19, S19, N19_, H19, G19⟩ := id V_tb
  have hin19 : ¬ ((9 : Int32) < 0 ∨ cx19.slots.size ≤ ((9 : Int32)).toNatClampNeg) := inb_of S19 ⟨by decide, by decide⟩
  have hat19 : cx19.slots[((9 : Int32)).toNatClampNeg]? = some (.int (f1_2_a2_9 tc (nar .byte (t2.toInt8.toInt32)))) := (H19 ((9 : Int32)).toNatClampNeg (Nat.lt_of_not_le fun w => hin19 (Or.inr w))).trans (congrArg some (rfl))
  obtain ⟨_, T20, Lc20, X20, hQ20, st20⟩ := own_callS X18 hx hZ (y := (⟨"com/example/endcon/endcon/rules/LineTextEscapePinLaw", "expectedAt", "(IIIB)B"⟩ : MethodName)) hown (hw _ (List.mem_of_getElem? (i := 12) rfl)) (hw _ (List.mem_of_getElem? (i := 13) rfl)) (hw _ (List.mem_of_getElem? (i := 10) rfl)) (hw _ (List.mem_of_getElem? (i := 14) rfl)) (by decide) (W := 1) (argsL := [(.int (9 : Int32)), (.int (2 : Int32)), (.int tc), (.int (t2.toInt8.toInt32))]) (rest := [(.int (f1_2_a2_9 tc (nar .byte (t2.toInt8.toInt32))))]) (rm3 l Z a0 hw [] (9 : Int32) (2 : Int32) tc (t2.toInt8.toInt32) h0 n0 Z0 ) (by decide) (by decide) (c' := 1) (s' := 10) rfl rfl (by decide) (by decide) e18 (g := (mkF m 461 #[.val (.int t0), .val (.int t1), .val (.int t2), .val (.int t3), .val (.int tc), .val (.int tc), .val (.int (2 : Int32)), .val (.int (t2.toInt8.toInt32)), .val (.ref tb), .val (.int t9), .val (.int t10), .val (.int (1 : Int32))] [(.int (t2.toInt8.toInt32)), (.int tc), (.int (2 : Int32)), (.int (9 : Int32)), (.int (f1_2_a2_9 tc (nar .byte (t2.toInt8.toInt32))))])) rfl (by rw [hml]; rfl) (lenOf pd_0_2 rfl) rfl (by show 2 * 0 + _ ≤ _; exact Nat.le_of_eq rfl) (hb hby at_461)
  obtain ⟨rfl, N20q, e20⟩ := hQ20
  have N20 := Fr.app N18 N20q
  obtain ⟨fs, hr, hrun, hended, hW, hsame⟩ := X20.leave (v := some (.int (1 : Int32))) (fun h => by rw [hret] at h; cases h)
  refine ⟨_, _, pre0 _ ?_, hrun, hended, _, _, rfl, ?_, ⟨_, rfl⟩, hW, hsame.mono (by decide) (by decide)⟩
  · show Steps p.tables e below (T0.setTop (mkF m 176 #[.val (.int t0), .val (.int t1), .val (.int t2), .val (.int t3), .val (.int tc), .val (.int tc), .val (.int (2 : Int32)), .val (.int (t2.toInt8.toInt32)), .val (.ref tb), .val (.int t9), .val (.int t10), .val (.int (1 : Int32))] [])) _
    refine own_blk X0 hx bl0_176_1 (own_hb hby bd0_176_1) (pc' := 178) (Ls' := #[.val (.int t0), .val (.int t1), .val (.int t2), .val (.int t3), .val (.int tc), .val (.int tc), .val (.int (2 : Int32)), .val (.int (t2.toInt8.toInt32)), .val (.ref tb), .val (.int t9), .val (.int t10), .val (.int (1 : Int32))]) (st' := [(.int (1 : Int32))]) rfl ?_
    refine XS.ifNo X0.here hx rfl (hb hby at_178) rfl ((if0 _ _).trans (feq (by decide : ¬ ((1 : Int32) = (0 : Int32)))).1) ?_
    show Steps p.tables e below (T0.setTop (mkF m 181 #[.val (.int t0), .val (.int t1), .val (.int t2), .val (.int t3), .val (.int tc), .val (.int tc), .val (.int (2 : Int32)), .val (.int (t2.toInt8.toInt32)), .val (.ref tb), .val (.int t9), .val (.int t10), .val (.int (1 : Int32))] [])) _
    refine own_blk X0 hx bl0_181_2 (own_hb hby bd0_181_2) (pc' := 184) (Ls' := #[.val (.int t0), .val (.int t1), .val (.int t2), .val (.int t3), .val (.int tc), .val (.int tc), .val (.int (2 : Int32)), .val (.int (t2.toInt8.toInt32)), .val (.ref tb), .val (.int t9), .val (.int t10), .val (.int (1 : Int32))]) (st' := [(.int (0 : Int32)), (.ref tb)]) rfl ?_
    refine X0.baloadBytes hx (j := (0 : Int32)) (v := (.int (f1_2_a2_0 tc (nar .byte (t2.toInt8.toInt32))))) (by rw [e0]; exact Ar1.1) (State.isArrayOf_alike hZ.alike Ar1.2.1) Ar1.2.2 hin1 hat1 (g := (mkF m 184 #[.val (.int t0), .val (.int t1), .val (.int t2), .val (.int t3), .val (.int tc), .val (.int tc), .val (.int (2 : Int32)), .val (.int (t2.toInt8.toInt32)), .val (.ref tb), .val (.int t9), .val (.int t10), .val (.int (1 : Int32))] [(.int (0 : Int32)), (.ref tb)])) rfl rfl (hb hby at_184) _ ?_
    show Steps p.tables e below (T0.setTop (mkF m 185 #[.val (.int t0), .val (.int t1), .val (.int t2), .val (.int t3), .val (.int tc), .val (.int tc), .val (.int (2 : Int32)), .val (.int (t2.toInt8.toInt32)), .val (.ref tb), .val (.int t9), .val (.int t10), .val (.int (1 : Int32))] [(.int (f1_2_a2_0 tc (nar .byte (t2.toInt8.toInt32))))])) _
    refine own_blk X0 hx bl0_185_4 (own_hb hby bd0_185_4) (pc' := 192) (Ls' := #[.val (.int t0), .val (.int t1), .val (.int t2), .val (.int t3), .val (.int tc), .val (.int tc), .val (.int (2 : Int32)), .val (.int (t2.toInt8.toInt32)), .val (.ref tb), .val (.int t9), .val (.int t10), .val (.int (1 : Int32))]) (st' := [(.int (t2.toInt8.toInt32)), (.int tc), (.int (2 : Int32)), (.int (0 : Int32)), (.int (f1_2_a2_0 tc (nar .byte (t2.toInt8.toInt32))))]) rfl ?_
    refine st2 _ ?_
    show Steps p.tables e below (T2.setTop (mkF m 195 #[.val (.int t0), .val (.int t1), .val (.int t2), .val (.int t3), .val (.int tc), .val (.int tc), .val (.int (2 : Int32)), .val (.int (t2.toInt8.toInt32)), .val (.ref tb), .val (.int t9), .val (.int t10), .val (.int (1 : Int32))] [(.int (f3 (0 : Int32) (2 : Int32) tc (t2.toInt8.toInt32))), (.int (f1_2_a2_0 tc (nar .byte (t2.toInt8.toInt32))))])) _
    refine XS.icmpNo X2.here hx rfl (hb hby at_195) rfl (teq (own_e2_0 tc t2 hp hp2)).2 ?_
    show Steps p.tables e below (T2.setTop (mkF m 198 #[.val (.int t0), .val (.int t1), .val (.int t2), .val (.int t3), .val (.int tc), .val (.int tc), .val (.int (2 : Int32)), .val (.int (t2.toInt8.toInt32)), .val (.ref tb), .val (.int t9), .val (.int t10), .val (.int (1 : Int32))] [])) _
    refine own_blk X2 hx bl0_198_3 (own_hb hby bd0_198_3) (pc' := 205) (Ls' := #[.val (.int t0), .val (.int t1), .val (.int t2), .val (.int t3), .val (.int tc), .val (.int tc), .val (.int (2 : Int32)), .val (.int (t2.toInt8.toInt32)), .val (.ref tb), .val (.int t9), .val (.int t10), .val (.int (1 : Int32))]) (st' := []) rfl ?_
    refine own_blk X2 hx bl0_205_1 (own_hb hby bd0_205_1) (pc' := 207) (Ls' := #[.val (.int t0), .val (.int t1), .val (.int t2), .val (.int t3), .val (.int tc), .val (.int tc), .val (.int (2 : Int32)), .val (.int (t2.toInt8.toInt32)), .val (.ref tb), .val (.int t9), .val (.int t10), .val (.int (1 : Int32))]) (st' := [(.int (1 : Int32))]) rfl ?_
    refine XS.ifNo X2.here hx rfl (hb hby at_207) rfl ((if0 _ _).trans (feq (by decide : ¬ ((1 : Int32) = (0 : Int32)))).1) ?_
    show Steps p.tables e below (T2.setTop (mkF m 210 #[.val (.int t0), .val (.int t1), .val (.int t2), .val (.int t3), .val (.int tc), .val (.int tc), .val (.int (2 : Int32)), .val (.int (t2.toInt8.toInt32)), .val (.ref tb), .val (.int t9), .val (.int t10), .val (.int (1 : Int32))] [])) _
    refine own_blk X2 hx bl0_210_2 (own_hb hby bd0_210_2) (pc' := 213) (Ls' := #[.val (.int t0), .val (.int t1), .val (.int t2), .val (.int t3), .val (.int tc), .val (.int tc), .val (.int (2 : Int32)), .val (.int (t2.toInt8.toInt32)), .val (.ref tb), .val (.int t9), .val (.int t10), .val (.int (1 : Int32))]) (st' := [(.int (1 : Int32)), (.ref tb)]) rfl ?_
    refine X2.baloadBytes hx (j := (1 : Int32)) (v := (.int (f1_2_a2_1 tc (nar .byte (t2.toInt8.toInt32))))) (by rw [e2]; exact Ar3.1) (State.isArrayOf_alike hZ.alike Ar3.2.1) Ar3.2.2 hin3 hat3 (g := (mkF m 213 #[.val (.int t0), .val (.int t1), .val (.int t2), .val (.int t3), .val (.int tc), .val (.int tc), .val (.int (2 : Int32)), .val (.int (t2.toInt8.toInt32)), .val (.ref tb), .val (.int t9), .val (.int t10), .val (.int (1 : Int32))] [(.int (1 : Int32)), (.ref tb)])) rfl rfl (hb hby at_213) _ ?_
    show Steps p.tables e below (T2.setTop (mkF m 214 #[.val (.int t0), .val (.int t1), .val (.int t2), .val (.int t3), .val (.int tc), .val (.int tc), .val (.int (2 : Int32)), .val (.int (t2.toInt8.toInt32)), .val (.ref tb), .val (.int t9), .val (.int t10), .val (.int (1 : Int32))] [(.int (f1_2_a2_1 tc (nar .byte (t2.toInt8.toInt32))))])) _
    refine own_blk X2 hx bl0_214_4 (own_hb hby bd0_214_4) (pc' := 221) (Ls' := #[.val (.int t0), .val (.int t1), .val (.int t2), .val (.int t3), .val (.int tc), .val (.int tc), .val (.int (2 : Int32)), .val (.int (t2.toInt8.toInt32)), .val (.ref tb), .val (.int t9), .val (.int t10), .val (.int (1 : Int32))]) (st' := [(.int (t2.toInt8.toInt32)), (.int tc), (.int (2 : Int32)), (.int (1 : Int32)), (.int (f1_2_a2_1 tc (nar .byte (t2.toInt8.toInt32))))]) rfl ?_
    refine st4 _ ?_
    show Steps p.tables e below (T4.setTop (mkF m 224 #[.val (.int t0), .val (.int t1), .val (.int t2), .val (.int t3), .val (.int tc), .val (.int tc), .val (.int (2 : Int32)), .val (.int (t2.toInt8.toInt32)), .val (.ref tb), .val (.int t9), .val (.int t10), .val (.int (1 : Int32))] [(.int (f3 (1 : Int32) (2 : Int32) tc (t2.toInt8.toInt32))), (.int (f1_2_a2_1 tc (nar .byte (t2.toInt8.toInt32))))])) _
    refine XS.icmpNo X4.here hx rfl (hb hby at_224) rfl (teq (own_e2_1 tc t2 hp hp2)).2 ?_
    show Steps p.tables e below (T4.setTop (mkF m 227 #[.val (.int t0), .val (.int t1), .val (.int t2), .val (.int t3), .val (.int tc), .val (.int tc), .val (.int (2 : Int32)), .val (.int (t2.toInt8.toInt32)), .val (.ref tb), .val (.int t9), .val (.int t10), .val (.int (1 : Int32))] [])) _
    refine own_blk X4 hx bl0_227_3 (own_hb hby bd0_227_3) (pc' := 234) (Ls' := #[.val (.int t0), .val (.int t1), .val (.int t2), .val (.int t3), .val (.int tc), .val (.int tc), .val (.int (2 : Int32)), .val (.int (t2.toInt8.toInt32)), .val (.ref tb), .val (.int t9), .val (.int t10), .val (.int (1 : Int32))]) (st' := []) rfl ?_
    refine own_blk X4 hx bl0_234_1 (own_hb hby bd0_234_1) (pc' := 236) (Ls' := #[.val (.int t0), .val (.int t1), .val (.int t2), .val (.int t3), .val (.int tc), .val (.int tc), .val (.int (2 : Int32)), .val (.int (t2.toInt8.toInt32)), .val (.ref tb), .val (.int t9), .val (.int t10), .val (.int (1 : Int32))]) (st' := [(.int (1 : Int32))]) rfl ?_
    refine XS.ifNo X4.here hx rfl (hb hby at_236) rfl ((if0 _ _).trans (feq (by decide : ¬ ((1 : Int32) = (0 : Int32)))).1) ?_
    show Steps p.tables e below (T4.setTop (mkF m 239 #[.val (.int t0), .val (.int t1), .val (.int t2), .val (.int t3), .val (.int tc), .val (.int tc), .val (.int (2 : Int32)), .val (.int (t2.toInt8.toInt32)), .val (.ref tb), .val (.int t9), .val (.int t10), .val (.int (1 : Int32))] [])) _
    refine own_blk X4 hx bl0_239_2 (own_hb hby bd0_239_2) (pc' := 242) (Ls' := #[.val (.int t0), .val (.int t1), .val (.int t2), .val (.int t3), .val (.int tc), .val (.int tc), .val (.int (2 : Int32)), .val (.int (t2.toInt8.toInt32)), .val (.ref tb), .val (.int t9), .val (.int t10), .val (.int (1 : Int32))]) (st' := [(.int (2 : Int32)), (.ref tb)]) rfl ?_
    refine X4.baloadBytes hx (j := (2 : Int32)) (v := (.int (f1_2_a2_2 tc (nar .byte (t2.toInt8.toInt32))))) (by rw [e4]; exact Ar5.1) (State.isArrayOf_alike hZ.alike Ar5.2.1) Ar5.2.2 hin5 hat5 (g := (mkF m 242 #[.val (.int t0), .val (.int t1), .val (.int t2), .val (.int t3), .val (.int tc), .val (.int tc), .val (.int (2 : Int32)), .val (.int (t2.toInt8.toInt32)), .val (.ref tb), .val (.int t9), .val (.int t10), .val (.int (1 : Int32))] [(.int (2 : Int32)), (.ref tb)])) rfl rfl (hb hby at_242) _ ?_
    show Steps p.tables e below (T4.setTop (mkF m 243 #[.val (.int t0), .val (.int t1), .val (.int t2), .val (.int t3), .val (.int tc), .val (.int tc), .val (.int (2 : Int32)), .val (.int (t2.toInt8.toInt32)), .val (.ref tb), .val (.int t9), .val (.int t10), .val (.int (1 : Int32))] [(.int (f1_2_a2_2 tc (nar .byte (t2.toInt8.toInt32))))])) _
    refine own_blk X4 hx bl0_243_4 (own_hb hby bd0_243_4) (pc' := 250) (Ls' := #[.val (.int t0), .val (.int t1), .val (.int t2), .val (.int t3), .val (.int tc), .val (.int tc), .val (.int (2 : Int32)), .val (.int (t2.toInt8.toInt32)), .val (.ref tb), .val (.int t9), .val (.int t10), .val (.int (1 : Int32))]) (st' := [(.int (t2.toInt8.toInt32)), (.int tc), (.int (2 : Int32)), (.int (2 : Int32)), (.int (f1_2_a2_2 tc (nar .byte (t2.toInt8.toInt32))))]) rfl ?_
    refine st6 _ ?_
    show Steps p.tables e below (T6.setTop (mkF m 253 #[.val (.int t0), .val (.int t1), .val (.int t2), .val (.int t3), .val (.int tc), .val (.int tc), .val (.int (2 : Int32)), .val (.int (t2.toInt8.toInt32)), .val (.ref tb), .val (.int t9), .val (.int t10), .val (.int (1 : Int32))] [(.int (f3 (2 : Int32) (2 : Int32) tc (t2.toInt8.toInt32))), (.int (f1_2_a2_2 tc (nar .byte (t2.toInt8.toInt32))))])) _
    refine XS.icmpNo X6.here hx rfl (hb hby at_253) rfl (teq (own_e2_2 tc t2 hp hp2)).2 ?_
    show Steps p.tables e below (T6.setTop (mkF m 256 #[.val (.int t0), .val (.int t1), .val (.int t2), .val (.int t3), .val (.int tc), .val (.int tc), .val (.int (2 : Int32)), .val (.int (t2.toInt8.toInt32)), .val (.ref tb), .val (.int t9), .val (.int t10), .val (.int (1 : Int32))] [])) _
    refine own_blk X6 hx bl0_256_3 (own_hb hby bd0_256_3) (pc' := 263) (Ls' := #[.val (.int t0), .val (.int t1), .val (.int t2), .val (.int t3), .val (.int tc), .val (.int tc), .val (.int (2 : Int32)), .val (.int (t2.toInt8.toInt32)), .val (.ref tb), .val (.int t9), .val (.int t10), .val (.int (1 : Int32))]) (st' := []) rfl ?_
    refine own_blk X6 hx bl0_263_1 (own_hb hby bd0_263_1) (pc' := 265) (Ls' := #[.val (.int t0), .val (.int t1), .val (.int t2), .val (.int t3), .val (.int tc), .val (.int tc), .val (.int (2 : Int32)), .val (.int (t2.toInt8.toInt32)), .val (.ref tb), .val (.int t9), .val (.int t10), .val (.int (1 : Int32))]) (st' := [(.int (1 : Int32))]) rfl ?_
    refine XS.ifNo X6.here hx rfl (hb hby at_265) rfl ((if0 _ _).trans (feq (by decide : ¬ ((1 : Int32) = (0 : Int32)))).1) ?_
    show Steps p.tables e below (T6.setTop (mkF m 268 #[.val (.int t0), .val (.int t1), .val (.int t2), .val (.int t3), .val (.int tc), .val (.int tc), .val (.int (2 : Int32)), .val (.int (t2.toInt8.toInt32)), .val (.ref tb), .val (.int t9), .val (.int t10), .val (.int (1 : Int32))] [])) _
    refine own_blk X6 hx bl0_268_2 (own_hb hby bd0_268_2) (pc' := 271) (Ls' := #[.val (.int t0), .val (.int t1), .val (.int t2), .val (.int t3), .val (.int tc), .val (.int tc), .val (.int (2 : Int32)), .val (.int (t2.toInt8.toInt32)), .val (.ref tb), .val (.int t9), .val (.int t10), .val (.int (1 : Int32))]) (st' := [(.int (3 : Int32)), (.ref tb)]) rfl ?_
    refine X6.baloadBytes hx (j := (3 : Int32)) (v := (.int (f1_2_a2_3 tc (nar .byte (t2.toInt8.toInt32))))) (by rw [e6]; exact Ar7.1) (State.isArrayOf_alike hZ.alike Ar7.2.1) Ar7.2.2 hin7 hat7 (g := (mkF m 271 #[.val (.int t0), .val (.int t1), .val (.int t2), .val (.int t3), .val (.int tc), .val (.int tc), .val (.int (2 : Int32)), .val (.int (t2.toInt8.toInt32)), .val (.ref tb), .val (.int t9), .val (.int t10), .val (.int (1 : Int32))] [(.int (3 : Int32)), (.ref tb)])) rfl rfl (hb hby at_271) _ ?_
    show Steps p.tables e below (T6.setTop (mkF m 272 #[.val (.int t0), .val (.int t1), .val (.int t2), .val (.int t3), .val (.int tc), .val (.int tc), .val (.int (2 : Int32)), .val (.int (t2.toInt8.toInt32)), .val (.ref tb), .val (.int t9), .val (.int t10), .val (.int (1 : Int32))] [(.int (f1_2_a2_3 tc (nar .byte (t2.toInt8.toInt32))))])) _
    refine own_blk X6 hx bl0_272_4 (own_hb hby bd0_272_4) (pc' := 279) (Ls' := #[.val (.int t0), .val (.int t1), .val (.int t2), .val (.int t3), .val (.int tc), .val (.int tc), .val (.int (2 : Int32)), .val (.int (t2.toInt8.toInt32)), .val (.ref tb), .val (.int t9), .val (.int t10), .val (.int (1 : Int32))]) (st' := [(.int (t2.toInt8.toInt32)), (.int tc), (.int (2 : Int32)), (.int (3 : Int32)), (.int (f1_2_a2_3 tc (nar .byte (t2.toInt8.toInt32))))]) rfl ?_
    refine st8 _ ?_
    show Steps p.tables e below (T8.setTop (mkF m 282 #[.val (.int t0), .val (.int t1), .val (.int t2), .val (.int t3), .val (.int tc), .val (.int tc), .val (.int (2 : Int32)), .val (.int (t2.toInt8.toInt32)), .val (.ref tb), .val (.int t9), .val (.int t10), .val (.int (1 : Int32))] [(.int (f3 (3 : Int32) (2 : Int32) tc (t2.toInt8.toInt32))), (.int (f1_2_a2_3 tc (nar .byte (t2.toInt8.toInt32))))])) _
    refine XS.icmpNo X8.here hx rfl (hb hby at_282) rfl (teq (own_e2_3 tc t2 hp hp2)).2 ?_
    show Steps p.tables e below (T8.setTop (mkF m 285 #[.val (.int t0), .val (.int t1), .val (.int t2), .val (.int t3), .val (.int tc), .val (.int tc), .val (.int (2 : Int32)), .val (.int (t2.toInt8.toInt32)), .val (.ref tb), .val (.int t9), .val (.int t10), .val (.int (1 : Int32))] [])) _
    refine own_blk X8 hx bl0_285_3 (own_hb hby bd0_285_3) (pc' := 292) (Ls' := #[.val (.int t0), .val (.int t1), .val (.int t2), .val (.int t3), .val (.int tc), .val (.int tc), .val (.int (2 : Int32)), .val (.int (t2.toInt8.toInt32)), .val (.ref tb), .val (.int t9), .val (.int t10), .val (.int (1 : Int32))]) (st' := []) rfl ?_
    refine own_blk X8 hx bl0_292_1 (own_hb hby bd0_292_1) (pc' := 294) (Ls' := #[.val (.int t0), .val (.int t1), .val (.int t2), .val (.int t3), .val (.int tc), .val (.int tc), .val (.int (2 : Int32)), .val (.int (t2.toInt8.toInt32)), .val (.ref tb), .val (.int t9), .val (.int t10), .val (.int (1 : Int32))]) (st' := [(.int (1 : Int32))]) rfl ?_
    refine XS.ifNo X8.here hx rfl (hb hby at_294) rfl ((if0 _ _).trans (feq (by decide : ¬ ((1 : Int32) = (0 : Int32)))).1) ?_
    show Steps p.tables e below (T8.setTop (mkF m 297 #[.val (.int t0), .val (.int t1), .val (.int t2), .val (.int t3), .val (.int tc), .val (.int tc), .val (.int (2 : Int32)), .val (.int (t2.toInt8.toInt32)), .val (.ref tb), .val (.int t9), .val (.int t10), .val (.int (1 : Int32))] [])) _
    refine own_blk X8 hx bl0_297_2 (own_hb hby bd0_297_2) (pc' := 300) (Ls' := #[.val (.int t0), .val (.int t1), .val (.int t2), .val (.int t3), .val (.int tc), .val (.int tc), .val (.int (2 : Int32)), .val (.int (t2.toInt8.toInt32)), .val (.ref tb), .val (.int t9), .val (.int t10), .val (.int (1 : Int32))]) (st' := [(.int (4 : Int32)), (.ref tb)]) rfl ?_
    refine X8.baloadBytes hx (j := (4 : Int32)) (v := (.int (f1_2_a2_4 tc (nar .byte (t2.toInt8.toInt32))))) (by rw [e8]; exact Ar9.1) (State.isArrayOf_alike hZ.alike Ar9.2.1) Ar9.2.2 hin9 hat9 (g := (mkF m 300 #[.val (.int t0), .val (.int t1), .val (.int t2), .val (.int t3), .val (.int tc), .val (.int tc), .val (.int (2 : Int32)), .val (.int (t2.toInt8.toInt32)), .val (.ref tb), .val (.int t9), .val (.int t10), .val (.int (1 : Int32))] [(.int (4 : Int32)), (.ref tb)])) rfl rfl (hb hby at_300) _ ?_
    show Steps p.tables e below (T8.setTop (mkF m 301 #[.val (.int t0), .val (.int t1), .val (.int t2), .val (.int t3), .val (.int tc), .val (.int tc), .val (.int (2 : Int32)), .val (.int (t2.toInt8.toInt32)), .val (.ref tb), .val (.int t9), .val (.int t10), .val (.int (1 : Int32))] [(.int (f1_2_a2_4 tc (nar .byte (t2.toInt8.toInt32))))])) _
    refine own_blk X8 hx bl0_301_4 (own_hb hby bd0_301_4) (pc' := 308) (Ls' := #[.val (.int t0), .val (.int t1), .val (.int t2), .val (.int t3), .val (.int tc), .val (.int tc), .val (.int (2 : Int32)), .val (.int (t2.toInt8.toInt32)), .val (.ref tb), .val (.int t9), .val (.int t10), .val (.int (1 : Int32))]) (st' := [(.int (t2.toInt8.toInt32)), (.int tc), (.int (2 : Int32)), (.int (4 : Int32)), (.int (f1_2_a2_4 tc (nar .byte (t2.toInt8.toInt32))))]) rfl ?_
    refine st10 _ ?_
    show Steps p.tables e below (T10.setTop (mkF m 311 #[.val (.int t0), .val (.int t1), .val (.int t2), .val (.int t3), .val (.int tc), .val (.int tc), .val (.int (2 : Int32)), .val (.int (t2.toInt8.toInt32)), .val (.ref tb), .val (.int t9), .val (.int t10), .val (.int (1 : Int32))] [(.int (f3 (4 : Int32) (2 : Int32) tc (t2.toInt8.toInt32))), (.int (f1_2_a2_4 tc (nar .byte (t2.toInt8.toInt32))))])) _
    refine XS.icmpNo X10.here hx rfl (hb hby at_311) rfl (teq (own_e2_4 tc t2 hp hp2)).2 ?_
    show Steps p.tables e below (T10.setTop (mkF m 314 #[.val (.int t0), .val (.int t1), .val (.int t2), .val (.int t3), .val (.int tc), .val (.int tc), .val (.int (2 : Int32)), .val (.int (t2.toInt8.toInt32)), .val (.ref tb), .val (.int t9), .val (.int t10), .val (.int (1 : Int32))] [])) _
    refine own_blk X10 hx bl0_314_3 (own_hb hby bd0_314_3) (pc' := 321) (Ls' := #[.val (.int t0), .val (.int t1), .val (.int t2), .val (.int t3), .val (.int tc), .val (.int tc), .val (.int (2 : Int32)), .val (.int (t2.toInt8.toInt32)), .val (.ref tb), .val (.int t9), .val (.int t10), .val (.int (1 : Int32))]) (st' := []) rfl ?_
    refine own_blk X10 hx bl0_321_1 (own_hb hby bd0_321_1) (pc' := 323) (Ls' := #[.val (.int t0), .val (.int t1), .val (.int t2), .val (.int t3), .val (.int tc), .val (.int tc), .val (.int (2 : Int32)), .val (.int (t2.toInt8.toInt32)), .val (.ref tb), .val (.int t9), .val (.int t10), .val (.int (1 : Int32))]) (st' := [(.int (1 : Int32))]) rfl ?_
    refine XS.ifNo X10.here hx rfl (hb hby at_323) rfl ((if0 _ _).trans (feq (by decide : ¬ ((1 : Int32) = (0 : Int32)))).1) ?_
    show Steps p.tables e below (T10.setTop (mkF m 326 #[.val (.int t0), .val (.int t1), .val (.int t2), .val (.int t3), .val (.int tc), .val (.int tc), .val (.int (2 : Int32)), .val (.int (t2.toInt8.toInt32)), .val (.ref tb), .val (.int t9), .val (.int t10), .val (.int (1 : Int32))] [])) _
    refine own_blk X10 hx bl0_326_2 (own_hb hby bd0_326_2) (pc' := 329) (Ls' := #[.val (.int t0), .val (.int t1), .val (.int t2), .val (.int t3), .val (.int tc), .val (.int tc), .val (.int (2 : Int32)), .val (.int (t2.toInt8.toInt32)), .val (.ref tb), .val (.int t9), .val (.int t10), .val (.int (1 : Int32))]) (st' := [(.int (5 : Int32)), (.ref tb)]) rfl ?_
    refine X10.baloadBytes hx (j := (5 : Int32)) (v := (.int (f1_2_a2_5 tc (nar .byte (t2.toInt8.toInt32))))) (by rw [e10]; exact Ar11.1) (State.isArrayOf_alike hZ.alike Ar11.2.1) Ar11.2.2 hin11 hat11 (g := (mkF m 329 #[.val (.int t0), .val (.int t1), .val (.int t2), .val (.int t3), .val (.int tc), .val (.int tc), .val (.int (2 : Int32)), .val (.int (t2.toInt8.toInt32)), .val (.ref tb), .val (.int t9), .val (.int t10), .val (.int (1 : Int32))] [(.int (5 : Int32)), (.ref tb)])) rfl rfl (hb hby at_329) _ ?_
    show Steps p.tables e below (T10.setTop (mkF m 330 #[.val (.int t0), .val (.int t1), .val (.int t2), .val (.int t3), .val (.int tc), .val (.int tc), .val (.int (2 : Int32)), .val (.int (t2.toInt8.toInt32)), .val (.ref tb), .val (.int t9), .val (.int t10), .val (.int (1 : Int32))] [(.int (f1_2_a2_5 tc (nar .byte (t2.toInt8.toInt32))))])) _
    refine own_blk X10 hx bl0_330_4 (own_hb hby bd0_330_4) (pc' := 337) (Ls' := #[.val (.int t0), .val (.int t1), .val (.int t2), .val (.int t3), .val (.int tc), .val (.int tc), .val (.int (2 : Int32)), .val (.int (t2.toInt8.toInt32)), .val (.ref tb), .val (.int t9), .val (.int t10), .val (.int (1 : Int32))]) (st' := [(.int (t2.toInt8.toInt32)), (.int tc), (.int (2 : Int32)), (.int (5 : Int32)), (.int (f1_2_a2_5 tc (nar .byte (t2.toInt8.toInt32))))]) rfl ?_
    refine st12 _ ?_
    show Steps p.tables e below (T12.setTop (mkF m 340 #[.val (.int t0), .val (.int t1), .val (.int t2), .val (.int t3), .val (.int tc), .val (.int tc), .val (.int (2 : Int32)), .val (.int (t2.toInt8.toInt32)), .val (.ref tb), .val (.int t9), .val (.int t10), .val (.int (1 : Int32))] [(.int (f3 (5 : Int32) (2 : Int32) tc (t2.toInt8.toInt32))), (.int (f1_2_a2_5 tc (nar .byte (t2.toInt8.toInt32))))])) _
    refine XS.icmpNo X12.here hx rfl (hb hby at_340) rfl (teq (own_e2_5 tc t2 hp hp2)).2 ?_
    show Steps p.tables e below (T12.setTop (mkF m 343 #[.val (.int t0), .val (.int t1), .val (.int t2), .val (.int t3), .val (.int tc), .val (.int tc), .val (.int (2 : Int32)), .val (.int (t2.toInt8.toInt32)), .val (.ref tb), .val (.int t9), .val (.int t10), .val (.int (1 : Int32))] [])) _
    refine own_blk X12 hx bl0_343_3 (own_hb hby bd0_343_3) (pc' := 350) (Ls' := #[.val (.int t0), .val (.int t1), .val (.int t2), .val (.int t3), .val (.int tc), .val (.int tc), .val (.int (2 : Int32)), .val (.int (t2.toInt8.toInt32)), .val (.ref tb), .val (.int t9), .val (.int t10), .val (.int (1 : Int32))]) (st' := []) rfl ?_
    refine own_blk X12 hx bl0_350_1 (own_hb hby bd0_350_1) (pc' := 352) (Ls' := #[.val (.int t0), .val (.int t1), .val (.int t2), .val (.int t3), .val (.int tc), .val (.int tc), .val (.int (2 : Int32)), .val (.int (t2.toInt8.toInt32)), .val (.ref tb), .val (.int t9), .val (.int t10), .val (.int (1 : Int32))]) (st' := [(.int (1 : Int32))]) rfl ?_
    refine XS.ifNo X12.here hx rfl (hb hby at_352) rfl ((if0 _ _).trans (feq (by decide : ¬ ((1 : Int32) = (0 : Int32)))).1) ?_
    show Steps p.tables e below (T12.setTop (mkF m 355 #[.val (.int t0), .val (.int t1), .val (.int t2), .val (.int t3), .val (.int tc), .val (.int tc), .val (.int (2 : Int32)), .val (.int (t2.toInt8.toInt32)), .val (.ref tb), .val (.int t9), .val (.int t10), .val (.int (1 : Int32))] [])) _
    refine own_blk X12 hx bl0_355_2 (own_hb hby bd0_355_2) (pc' := 359) (Ls' := #[.val (.int t0), .val (.int t1), .val (.int t2), .val (.int t3), .val (.int tc), .val (.int tc), .val (.int (2 : Int32)), .val (.int (t2.toInt8.toInt32)), .val (.ref tb), .val (.int t9), .val (.int t10), .val (.int (1 : Int32))]) (st' := [(.int (6 : Int32)), (.ref tb)]) rfl ?_
    refine X12.baloadBytes hx (j := (6 : Int32)) (v := (.int (f1_2_a2_6 tc (nar .byte (t2.toInt8.toInt32))))) (by rw [e12]; exact Ar13.1) (State.isArrayOf_alike hZ.alike Ar13.2.1) Ar13.2.2 hin13 hat13 (g := (mkF m 359 #[.val (.int t0), .val (.int t1), .val (.int t2), .val (.int t3), .val (.int tc), .val (.int tc), .val (.int (2 : Int32)), .val (.int (t2.toInt8.toInt32)), .val (.ref tb), .val (.int t9), .val (.int t10), .val (.int (1 : Int32))] [(.int (6 : Int32)), (.ref tb)])) rfl rfl (hb hby at_359) _ ?_
    show Steps p.tables e below (T12.setTop (mkF m 360 #[.val (.int t0), .val (.int t1), .val (.int t2), .val (.int t3), .val (.int tc), .val (.int tc), .val (.int (2 : Int32)), .val (.int (t2.toInt8.toInt32)), .val (.ref tb), .val (.int t9), .val (.int t10), .val (.int (1 : Int32))] [(.int (f1_2_a2_6 tc (nar .byte (t2.toInt8.toInt32))))])) _
    refine own_blk X12 hx bl0_360_4 (own_hb hby bd0_360_4) (pc' := 368) (Ls' := #[.val (.int t0), .val (.int t1), .val (.int t2), .val (.int t3), .val (.int tc), .val (.int tc), .val (.int (2 : Int32)), .val (.int (t2.toInt8.toInt32)), .val (.ref tb), .val (.int t9), .val (.int t10), .val (.int (1 : Int32))]) (st' := [(.int (t2.toInt8.toInt32)), (.int tc), (.int (2 : Int32)), (.int (6 : Int32)), (.int (f1_2_a2_6 tc (nar .byte (t2.toInt8.toInt32))))]) rfl ?_
    refine st14 _ ?_
    show Steps p.tables e below (T14.setTop (mkF m 371 #[.val (.int t0), .val (.int t1), .val (.int t2), .val (.int t3), .val (.int tc), .val (.int tc), .val (.int (2 : Int32)), .val (.int (t2.toInt8.toInt32)), .val (.ref tb), .val (.int t9), .val (.int t10), .val (.int (1 : Int32))] [(.int (f3 (6 : Int32) (2 : Int32) tc (t2.toInt8.toInt32))), (.int (f1_2_a2_6 tc (nar .byte (t2.toInt8.toInt32))))])) _
    refine XS.icmpNo X14.here hx rfl (hb hby at_371) rfl (teq (own_e2_6 tc t2 hp hp2)).2 ?_
    show Steps p.tables e below (T14.setTop (mkF m 374 #[.val (.int t0), .val (.int t1), .val (.int t2), .val (.int t3), .val (.int tc), .val (.int tc), .val (.int (2 : Int32)), .val (.int (t2.toInt8.toInt32)), .val (.ref tb), .val (.int t9), .val (.int t10), .val (.int (1 : Int32))] [])) _
    refine own_blk X14 hx bl0_374_3 (own_hb hby bd0_374_3) (pc' := 381) (Ls' := #[.val (.int t0), .val (.int t1), .val (.int t2), .val (.int t3), .val (.int tc), .val (.int tc), .val (.int (2 : Int32)), .val (.int (t2.toInt8.toInt32)), .val (.ref tb), .val (.int t9), .val (.int t10), .val (.int (1 : Int32))]) (st' := []) rfl ?_
    refine own_blk X14 hx bl0_381_1 (own_hb hby bd0_381_1) (pc' := 383) (Ls' := #[.val (.int t0), .val (.int t1), .val (.int t2), .val (.int t3), .val (.int tc), .val (.int tc), .val (.int (2 : Int32)), .val (.int (t2.toInt8.toInt32)), .val (.ref tb), .val (.int t9), .val (.int t10), .val (.int (1 : Int32))]) (st' := [(.int (1 : Int32))]) rfl ?_
    refine XS.ifNo X14.here hx rfl (hb hby at_383) rfl ((if0 _ _).trans (feq (by decide : ¬ ((1 : Int32) = (0 : Int32)))).1) ?_
    show Steps p.tables e below (T14.setTop (mkF m 386 #[.val (.int t0), .val (.int t1), .val (.int t2), .val (.int t3), .val (.int tc), .val (.int tc), .val (.int (2 : Int32)), .val (.int (t2.toInt8.toInt32)), .val (.ref tb), .val (.int t9), .val (.int t10), .val (.int (1 : Int32))] [])) _
    refine own_blk X14 hx bl0_386_2 (own_hb hby bd0_386_2) (pc' := 390) (Ls' := #[.val (.int t0), .val (.int t1), .val (.int t2), .val (.int t3), .val (.int tc), .val (.int tc), .val (.int (2 : Int32)), .val (.int (t2.toInt8.toInt32)), .val (.ref tb), .val (.int t9), .val (.int t10), .val (.int (1 : Int32))]) (st' := [(.int (7 : Int32)), (.ref tb)]) rfl ?_
    refine X14.baloadBytes hx (j := (7 : Int32)) (v := (.int (f1_2_a2_7 tc (nar .byte (t2.toInt8.toInt32))))) (by rw [e14]; exact Ar15.1) (State.isArrayOf_alike hZ.alike Ar15.2.1) Ar15.2.2 hin15 hat15 (g := (mkF m 390 #[.val (.int t0), .val (.int t1), .val (.int t2), .val (.int t3), .val (.int tc), .val (.int tc), .val (.int (2 : Int32)), .val (.int (t2.toInt8.toInt32)), .val (.ref tb), .val (.int t9), .val (.int t10), .val (.int (1 : Int32))] [(.int (7 : Int32)), (.ref tb)])) rfl rfl (hb hby at_390) _ ?_
    show Steps p.tables e below (T14.setTop (mkF m 391 #[.val (.int t0), .val (.int t1), .val (.int t2), .val (.int t3), .val (.int tc), .val (.int tc), .val (.int (2 : Int32)), .val (.int (t2.toInt8.toInt32)), .val (.ref tb), .val (.int t9), .val (.int t10), .val (.int (1 : Int32))] [(.int (f1_2_a2_7 tc (nar .byte (t2.toInt8.toInt32))))])) _
    refine own_blk X14 hx bl0_391_4 (own_hb hby bd0_391_4) (pc' := 399) (Ls' := #[.val (.int t0), .val (.int t1), .val (.int t2), .val (.int t3), .val (.int tc), .val (.int tc), .val (.int (2 : Int32)), .val (.int (t2.toInt8.toInt32)), .val (.ref tb), .val (.int t9), .val (.int t10), .val (.int (1 : Int32))]) (st' := [(.int (t2.toInt8.toInt32)), (.int tc), (.int (2 : Int32)), (.int (7 : Int32)), (.int (f1_2_a2_7 tc (nar .byte (t2.toInt8.toInt32))))]) rfl ?_
    refine st16 _ ?_
    show Steps p.tables e below (T16.setTop (mkF m 402 #[.val (.int t0), .val (.int t1), .val (.int t2), .val (.int t3), .val (.int tc), .val (.int tc), .val (.int (2 : Int32)), .val (.int (t2.toInt8.toInt32)), .val (.ref tb), .val (.int t9), .val (.int t10), .val (.int (1 : Int32))] [(.int (f3 (7 : Int32) (2 : Int32) tc (t2.toInt8.toInt32))), (.int (f1_2_a2_7 tc (nar .byte (t2.toInt8.toInt32))))])) _
    refine XS.icmpNo X16.here hx rfl (hb hby at_402) rfl (teq (own_e2_7 tc t2 hp hp2)).2 ?_
    show Steps p.tables e below (T16.setTop (mkF m 405 #[.val (.int t0), .val (.int t1), .val (.int t2), .val (.int t3), .val (.int tc), .val (.int tc), .val (.int (2 : Int32)), .val (.int (t2.toInt8.toInt32)), .val (.ref tb), .val (.int t9), .val (.int t10), .val (.int (1 : Int32))] [])) _
    refine own_blk X16 hx bl0_405_3 (own_hb hby bd0_405_3) (pc' := 412) (Ls' := #[.val (.int t0), .val (.int t1), .val (.int t2), .val (.int t3), .val (.int tc), .val (.int tc), .val (.int (2 : Int32)), .val (.int (t2.toInt8.toInt32)), .val (.ref tb), .val (.int t9), .val (.int t10), .val (.int (1 : Int32))]) (st' := []) rfl ?_
    refine own_blk X16 hx bl0_412_1 (own_hb hby bd0_412_1) (pc' := 414) (Ls' := #[.val (.int t0), .val (.int t1), .val (.int t2), .val (.int t3), .val (.int tc), .val (.int tc), .val (.int (2 : Int32)), .val (.int (t2.toInt8.toInt32)), .val (.ref tb), .val (.int t9), .val (.int t10), .val (.int (1 : Int32))]) (st' := [(.int (1 : Int32))]) rfl ?_
    refine XS.ifNo X16.here hx rfl (hb hby at_414) rfl ((if0 _ _).trans (feq (by decide : ¬ ((1 : Int32) = (0 : Int32)))).1) ?_
    show Steps p.tables e below (T16.setTop (mkF m 417 #[.val (.int t0), .val (.int t1), .val (.int t2), .val (.int t3), .val (.int tc), .val (.int tc), .val (.int (2 : Int32)), .val (.int (t2.toInt8.toInt32)), .val (.ref tb), .val (.int t9), .val (.int t10), .val (.int (1 : Int32))] [])) _
    refine own_blk X16 hx bl0_417_2 (own_hb hby bd0_417_2) (pc' := 421) (Ls' := #[.val (.int t0), .val (.int t1), .val (.int t2), .val (.int t3), .val (.int tc), .val (.int tc), .val (.int (2 : Int32)), .val (.int (t2.toInt8.toInt32)), .val (.ref tb), .val (.int t9), .val (.int t10), .val (.int (1 : Int32))]) (st' := [(.int (8 : Int32)), (.ref tb)]) rfl ?_
    refine X16.baloadBytes hx (j := (8 : Int32)) (v := (.int (f1_2_a2_8 tc (nar .byte (t2.toInt8.toInt32))))) (by rw [e16]; exact Ar17.1) (State.isArrayOf_alike hZ.alike Ar17.2.1) Ar17.2.2 hin17 hat17 (g := (mkF m 421 #[.val (.int t0), .val (.int t1), .val (.int t2), .val (.int t3), .val (.int tc), .val (.int tc), .val (.int (2 : Int32)), .val (.int (t2.toInt8.toInt32)), .val (.ref tb), .val (.int t9), .val (.int t10), .val (.int (1 : Int32))] [(.int (8 : Int32)), (.ref tb)])) rfl rfl (hb hby at_421) _ ?_
    show Steps p.tables e below (T16.setTop (mkF m 422 #[.val (.int t0), .val (.int t1), .val (.int t2), .val (.int t3), .val (.int tc), .val (.int tc), .val (.int (2 : Int32)), .val (.int (t2.toInt8.toInt32)), .val (.ref tb), .val (.int t9), .val (.int t10), .val (.int (1 : Int32))] [(.int (f1_2_a2_8 tc (nar .byte (t2.toInt8.toInt32))))])) _
    refine own_blk X16 hx bl0_422_4 (own_hb hby bd0_422_4) (pc' := 430) (Ls' := #[.val (.int t0), .val (.int t1), .val (.int t2), .val (.int t3), .val (.int tc), .val (.int tc), .val (.int (2 : Int32)), .val (.int (t2.toInt8.toInt32)), .val (.ref tb), .val (.int t9), .val (.int t10), .val (.int (1 : Int32))]) (st' := [(.int (t2.toInt8.toInt32)), (.int tc), (.int (2 : Int32)), (.int (8 : Int32)), (.int (f1_2_a2_8 tc (nar .byte (t2.toInt8.toInt32))))]) rfl ?_
    refine st18 _ ?_
    show Steps p.tables e below (T18.setTop (mkF m 433 #[.val (.int t0), .val (.int t1), .val (.int t2), .val (.int t3), .val (.int tc), .val (.int tc), .val (.int (2 : Int32)), .val (.int (t2.toInt8.toInt32)), .val (.ref tb), .val (.int t9), .val (.int t10), .val (.int (1 : Int32))] [(.int (f3 (8 : Int32) (2 : Int32) tc (t2.toInt8.toInt32))), (.int (f1_2_a2_8 tc (nar .byte (t2.toInt8.toInt32))))])) _
    refine XS.icmpNo X18.here hx rfl (hb hby at_433) rfl (teq (own_e2_8 tc t2 hp hp2)).2 ?_
    show Steps p.tables e below (T18.setTop (mkF m 436 #[.val (.int t0), .val (.int t1), .val (.int t2), .val (.int t3), .val (.int tc), .val (.int tc), .val (.int (2 : Int32)), .val (.int (t2.toInt8.toInt32)), .val (.ref tb), .val (.int t9), .val (.int t10), .val (.int (1 : Int32))] [])) _
    refine own_blk X18 hx bl0_436_3 (own_hb hby bd0_436_3) (pc' := 443) (Ls' := #[.val (.int t0), .val (.int t1), .val (.int t2), .val (.int t3), .val (.int tc), .val (.int tc), .val (.int (2 : Int32)), .val (.int (t2.toInt8.toInt32)), .val (.ref tb), .val (.int t9), .val (.int t10), .val (.int (1 : Int32))]) (st' := []) rfl ?_
    refine own_blk X18 hx bl0_443_1 (own_hb hby bd0_443_1) (pc' := 445) (Ls' := #[.val (.int t0), .val (.int t1), .val (.int t2), .val (.int t3), .val (.int tc), .val (.int tc), .val (.int (2 : Int32)), .val (.int (t2.toInt8.toInt32)), .val (.ref tb), .val (.int t9), .val (.int t10), .val (.int (1 : Int32))]) (st' := [(.int (1 : Int32))]) rfl ?_
    refine XS.ifNo X18.here hx rfl (hb hby at_445) rfl ((if0 _ _).trans (feq (by decide : ¬ ((1 : Int32) = (0 : Int32)))).1) ?_
    show Steps p.tables e below (T18.setTop (mkF m 448 #[.val (.int t0), .val (.int t1), .val (.int t2), .val (.int t3), .val (.int tc), .val (.int tc), .val (.int (2 : Int32)), .val (.int (t2.toInt8.toInt32)), .val (.ref tb), .val (.int t9), .val (.int t10), .val (.int (1 : Int32))] [])) _
    refine own_blk X18 hx bl0_448_2 (own_hb hby bd0_448_2) (pc' := 452) (Ls' := #[.val (.int t0), .val (.int t1), .val (.int t2), .val (.int t3), .val (.int tc), .val (.int tc), .val (.int (2 : Int32)), .val (.int (t2.toInt8.toInt32)), .val (.ref tb), .val (.int t9), .val (.int t10), .val (.int (1 : Int32))]) (st' := [(.int (9 : Int32)), (.ref tb)]) rfl ?_
    refine X18.baloadBytes hx (j := (9 : Int32)) (v := (.int (f1_2_a2_9 tc (nar .byte (t2.toInt8.toInt32))))) (by rw [e18]; exact Ar19.1) (State.isArrayOf_alike hZ.alike Ar19.2.1) Ar19.2.2 hin19 hat19 (g := (mkF m 452 #[.val (.int t0), .val (.int t1), .val (.int t2), .val (.int t3), .val (.int tc), .val (.int tc), .val (.int (2 : Int32)), .val (.int (t2.toInt8.toInt32)), .val (.ref tb), .val (.int t9), .val (.int t10), .val (.int (1 : Int32))] [(.int (9 : Int32)), (.ref tb)])) rfl rfl (hb hby at_452) _ ?_
    show Steps p.tables e below (T18.setTop (mkF m 453 #[.val (.int t0), .val (.int t1), .val (.int t2), .val (.int t3), .val (.int tc), .val (.int tc), .val (.int (2 : Int32)), .val (.int (t2.toInt8.toInt32)), .val (.ref tb), .val (.int t9), .val (.int t10), .val (.int (1 : Int32))] [(.int (f1_2_a2_9 tc (nar .byte (t2.toInt8.toInt32))))])) _
    refine own_blk X18 hx bl0_453_4 (own_hb hby bd0_453_4) (pc' := 461) (Ls' := #[.val (.int t0), .val (.int t1), .val (.int t2), .val (.int t3), .val (.int tc), .val (.int tc), .val (.int (2 : Int32)), .val (.int (t2.toInt8.toInt32)), .val (.ref tb), .val (.int t9), .val (.int t10), .val (.int (1 : Int32))]) (st' := [(.int (t2.toInt8.toInt32)), (.int tc), (.int (2 : Int32)), (.int (9 : Int32)), (.int (f1_2_a2_9 tc (nar .byte (t2.toInt8.toInt32))))]) rfl ?_
    refine st20 _ ?_
    show Steps p.tables e below (T20.setTop (mkF m 464 #[.val (.int t0), .val (.int t1), .val (.int t2), .val (.int t3), .val (.int tc), .val (.int tc), .val (.int (2 : Int32)), .val (.int (t2.toInt8.toInt32)), .val (.ref tb), .val (.int t9), .val (.int t10), .val (.int (1 : Int32))] [(.int (f3 (9 : Int32) (2 : Int32) tc (t2.toInt8.toInt32))), (.int (f1_2_a2_9 tc (nar .byte (t2.toInt8.toInt32))))])) _
    refine XS.icmpNo X20.here hx rfl (hb hby at_464) rfl (teq (own_e2_9 tc t2 hp hp2)).2 ?_
    show Steps p.tables e below (T20.setTop (mkF m 467 #[.val (.int t0), .val (.int t1), .val (.int t2), .val (.int t3), .val (.int tc), .val (.int tc), .val (.int (2 : Int32)), .val (.int (t2.toInt8.toInt32)), .val (.ref tb), .val (.int t9), .val (.int t10), .val (.int (1 : Int32))] [])) _
    refine own_blk X20 hx bl0_467_3 (own_hb hby bd0_467_3) (pc' := 474) (Ls' := #[.val (.int t0), .val (.int t1), .val (.int t2), .val (.int t3), .val (.int tc), .val (.int tc), .val (.int (2 : Int32)), .val (.int (t2.toInt8.toInt32)), .val (.ref tb), .val (.int t9), .val (.int t10), .val (.int (1 : Int32))]) (st' := []) rfl ?_
    refine own_blk X20 hx bl0_474_1 (own_hb hby bd0_474_1) (pc' := 476) (Ls' := #[.val (.int t0), .val (.int t1), .val (.int t2), .val (.int t3), .val (.int tc), .val (.int tc), .val (.int (2 : Int32)), .val (.int (t2.toInt8.toInt32)), .val (.ref tb), .val (.int t9), .val (.int t10), .val (.int (1 : Int32))]) (st' := [(.int (1 : Int32))]) rfl ?_
    exact retN X20 hx (t := .boolean) hret (by simp) (hb hby at_476) hr
  · exact ⟨by rw [fB2], N20⟩
def fA2 (t0 : Int32) (t1 : Int32) (t2 : Int32) (t3 : Int32) (tc : Int32) : Int32 := (if (f2 tc) = (0 : Int32) then (fB2 t0 t1 t2 t3 tc (f1_2 tc (nar .byte (t2.toInt8.toInt32))) (6 : Int32)) else (fB2 t0 t1 t2 t3 tc (f1_2 tc (nar .byte (t2.toInt8.toInt32))) (2 : Int32)))
set_option maxRecDepth 65536 in
set_option maxHeartbeats 40000000 in
theorem tlA2 {p : Program} {l : Launch} {e : Env} {s : State} {m : MethodId} {args : Array Value} {below : List Frame} {meth : Method} {c : Code} {s₁ T0 : State} {locs : List Loc} {Z : State} {a0 : Array Value} {h0 : Heap} {n0 : Nat} {E : JFrame} (t0 : Int32) (t1 : Int32) (t2 : Int32) (t3 : Int32) (tc : Int32) (w1 : Addr) (cl1 : Cell)
    (X0 : Stand p l e room_1 s m args below meth c T0 locs 0 0) (hx : p.tables.exec = Jvm.exec) (hZ : Z.Warmed39 s.vm) (hw : ∀ d ∈ tables_1, d.before a0 Z = true) (hby : c.code = code) (hml : c.maxLocals = 12) (hown : s.vm.findClass "com/example/endcon/endcon/rules/LineTextEscapePinLaw" = some m.cls) (hret : meth.sig.returnType = some .boolean) (hlk : meth.locks = false) (e0 : T0.heap = h0) (N0 : Fr n0 locs) (Z0 : n0 ≤ h0.size)
    (pre0 : ∀ t, Steps p.tables e below (T0.setTop (mkF m 58 #[.val (.int t0), .val (.int t1), .val (.int t2), .val (.int t3), .val (.int tc), .val (.int tc), .val (.int (2 : Int32)), .unset, .unset, .unset, .unset, .unset] [])) t → Steps p.tables e below (s₁.setTop E) t) (S_H : Sta Z h0 "com/example/endcon/endcon/rules/LineText" "HEX_DIGITS" "[B" (.ref w1)) (Ar_w1 : Arr Z h0 w1 cl1 .byte) (sz1 : cl1.slots.size = (16 : Int32).toNatClampNeg) (hv : ∀ j : Int32, ¬ j < 0 → j < 16 → cl1.slots[j.toNatClampNeg]? = some (.int (own_tab j))) (hp : ¬ (tc < 0)) (hp2 : tc < 65536) :
    ∃ s₂ o, Steps p.tables e below (s₁.setTop E) s₂ ∧ s₂.status = .running ∧ Ended s₂ below o ∧ ∃ v L, o = .returned v ∧ (v = some (.int (fA2 t0 t1 t2 t3 tc)) ∧ Fr n0 L) ∧ FrameEnd s o s₂ L room_1.cells room_1.slots := by
  obtain ⟨T1, h1, k1, X1, e1, E1, A1, st1⟩ := newP X0 hx hZ (hw _ (List.mem_of_getElem? (i := 1) rfl)) e0 (g := (mkF m 64 #[.val (.int t0), .val (.int t1), .val (.int t2), .val (.int t3), .val (.int tc), .val (.int tc), .val (.int (2 : Int32)), .val (.int (t2.toInt8.toInt32)), .unset, .unset, .unset, .unset] [(.int (10 : Int32))])) rfl (hb hby at_64) rfl (by decide) (cap := 10) (by decide) (by decide) (by decide) (by decide)
  obtain ⟨b1, g1⟩ : ∃ z, z = h0.size := ⟨_, rfl⟩
  rw [← g1] at A1 st1
  have ne_w1_b1 : w1 ≠ b1 := Nat.ne_of_lt (Nat.lt_of_lt_of_le Ar_w1.lt (Nat.le_of_eq g1.symm))
  have g_b1 : n0 ≤ b1 := Nat.le_trans Z0 (Nat.le_of_eq g1.symm)
  have zs2 : n0 ≤ h1.size := Nat.le_trans Z0 E1.1
  have V_b1 : Arv Z h1 b1 k1 .byte (10 : Int32) [(.int (0 : Int32)), (.int (0 : Int32)), (.int (0 : Int32)), (.int (0 : Int32)), (.int (0 : Int32)), (.int (0 : Int32)), (.int (0 : Int32)), (.int (0 : Int32)), (.int (0 : Int32)), (.int (0 : Int32))] (.int (0 : Int32)) := (Arv.new A1 (by decide)).pad (pad_rep [] (.int (0 : Int32)) 10)
  obtain ⟨cx3, Ar3, qq3, S3, N3_, H3, G3⟩ := id V_b1
  have hin3 : ¬ ((0 : Int32) < 0 ∨ cx3.slots.size ≤ ((0 : Int32)).toNatClampNeg) := inb_of S3 ⟨by decide, by decide⟩
  obtain ⟨T3, h3, X3, e3, W3, st3⟩ := stB X1 hx hZ e1 Ar3 (j := (0 : Int32)) hin3 (g := (mkF m 73 #[.val (.int t0), .val (.int t1), .val (.int t2), .val (.int t3), .val (.int tc), .val (.int tc), .val (.int (2 : Int32)), .val (.int (t2.toInt8.toInt32)), .val (.ref b1), .unset, .unset, .unset] [(.int (t2.toInt8.toInt32)), (.int (0 : Int32)), (.ref b1)])) rfl rfl (hb hby at_73)
  have V3 : Arv Z h3 b1 k1 .byte (10 : Int32) [(.int (nar .byte (t2.toInt8.toInt32))), (.int (0 : Int32)), (.int (0 : Int32)), (.int (0 : Int32)), (.int (0 : Int32)), (.int (0 : Int32)), (.int (0 : Int32)), (.int (0 : Int32)), (.int (0 : Int32)), (.int (0 : Int32))] (.int (0 : Int32)) := Arv.set Ar3 qq3 S3 N3_ H3 G3 (fits_nar_byte _) W3 0 rfl (Nat.le_of_ble_eq_true rfl)
  have zs4 : n0 ≤ h3.size := Nat.le_trans zs2 (Keep.of_wr W3).1
  have N3 := Fr.snoc X3 N0 g_b1
  obtain ⟨cx5, Ar5, qq5, S5, N5_, H5, G5⟩ := id V3
  have hin5 : ¬ ((1 : Int32) < 0 ∨ cx5.slots.size ≤ ((1 : Int32)).toNatClampNeg) := inb_of S5 ⟨by decide, by decide⟩
  obtain ⟨T5, h5, X5, e5, W5, st5⟩ := stB X3 hx hZ e3 Ar5 (j := (1 : Int32)) hin5 (g := (mkF m 79 #[.val (.int t0), .val (.int t1), .val (.int t2), .val (.int t3), .val (.int tc), .val (.int tc), .val (.int (2 : Int32)), .val (.int (t2.toInt8.toInt32)), .val (.ref b1), .unset, .unset, .unset] [(.int (t2.toInt8.toInt32)), (.int (1 : Int32)), (.ref b1)])) rfl rfl (hb hby at_79)
  have V5 : Arv Z h5 b1 k1 .byte (10 : Int32) [(.int (nar .byte (t2.toInt8.toInt32))), (.int (nar .byte (t2.toInt8.toInt32))), (.int (0 : Int32)), (.int (0 : Int32)), (.int (0 : Int32)), (.int (0 : Int32)), (.int (0 : Int32)), (.int (0 : Int32)), (.int (0 : Int32)), (.int (0 : Int32))] (.int (0 : Int32)) := Arv.set Ar5 qq5 S5 N5_ H5 G5 (fits_nar_byte _) W5 1 rfl (Nat.le_of_ble_eq_true rfl)
  have zs6 : n0 ≤ h5.size := Nat.le_trans zs4 (Keep.of_wr W5).1
  have N5 := Fr.snoc X5 N3 g_b1
  obtain ⟨cx7, Ar7, qq7, S7, N7_, H7, G7⟩ := id V5
  have hin7 : ¬ ((2 : Int32) < 0 ∨ cx7.slots.size ≤ ((2 : Int32)).toNatClampNeg) := inb_of S7 ⟨by decide, by decide⟩
  obtain ⟨T7, h7, X7, e7, W7, st7⟩ := stB X5 hx hZ e5 Ar7 (j := (2 : Int32)) hin7 (g := (mkF m 85 #[.val (.int t0), .val (.int t1), .val (.int t2), .val (.int t3), .val (.int tc), .val (.int tc), .val (.int (2 : Int32)), .val (.int (t2.toInt8.toInt32)), .val (.ref b1), .unset, .unset, .unset] [(.int (t2.toInt8.toInt32)), (.int (2 : Int32)), (.ref b1)])) rfl rfl (hb hby at_85)
  have V7 : Arv Z h7 b1 k1 .byte (10 : Int32) [(.int (nar .byte (t2.toInt8.toInt32))), (.int (nar .byte (t2.toInt8.toInt32))), (.int (nar .byte (t2.toInt8.toInt32))), (.int (0 : Int32)), (.int (0 : Int32)), (.int (0 : Int32)), (.int (0 : Int32)), (.int (0 : Int32)), (.int (0 : Int32)), (.int (0 : Int32))] (.int (0 : Int32)) := Arv.set Ar7 qq7 S7 N7_ H7 G7 (fits_nar_byte _) W7 2 rfl (Nat.le_of_ble_eq_true rfl)
  have zs8 : n0 ≤ h7.size := Nat.le_trans zs6 (Keep.of_wr W7).1
  have N7 := Fr.snoc X7 N5 g_b1
  obtain ⟨cx9, Ar9, qq9, S9, N9_, H9, G9⟩ := id V7
  have hin9 : ¬ ((3 : Int32) < 0 ∨ cx9.slots.size ≤ ((3 : Int32)).toNatClampNeg) := inb_of S9 ⟨by decide, by decide⟩
  obtain ⟨T9, h9, X9, e9, W9, st9⟩ := stB X7 hx hZ e7 Ar9 (j := (3 : Int32)) hin9 (g := (mkF m 91 #[.val (.int t0), .val (.int t1), .val (.int t2), .val (.int t3), .val (.int tc), .val (.int tc), .val (.int (2 : Int32)), .val (.int (t2.toInt8.toInt32)), .val (.ref b1), .unset, .unset, .unset] [(.int (t2.toInt8.toInt32)), (.int (3 : Int32)), (.ref b1)])) rfl rfl (hb hby at_91)
  have V9 : Arv Z h9 b1 k1 .byte (10 : Int32) [(.int (nar .byte (t2.toInt8.toInt32))), (.int (nar .byte (t2.toInt8.toInt32))), (.int (nar .byte (t2.toInt8.toInt32))), (.int (nar .byte (t2.toInt8.toInt32))), (.int (0 : Int32)), (.int (0 : Int32)), (.int (0 : Int32)), (.int (0 : Int32)), (.int (0 : Int32)), (.int (0 : Int32))] (.int (0 : Int32)) := Arv.set Ar9 qq9 S9 N9_ H9 G9 (fits_nar_byte _) W9 3 rfl (Nat.le_of_ble_eq_true rfl)
  have zs10 : n0 ≤ h9.size := Nat.le_trans zs8 (Keep.of_wr W9).1
  have N9 := Fr.snoc X9 N7 g_b1
  obtain ⟨cx11, Ar11, qq11, S11, N11_, H11, G11⟩ := id V9
  have hin11 : ¬ ((4 : Int32) < 0 ∨ cx11.slots.size ≤ ((4 : Int32)).toNatClampNeg) := inb_of S11 ⟨by decide, by decide⟩
  obtain ⟨T11, h11, X11, e11, W11, st11⟩ := stB X9 hx hZ e9 Ar11 (j := (4 : Int32)) hin11 (g := (mkF m 97 #[.val (.int t0), .val (.int t1), .val (.int t2), .val (.int t3), .val (.int tc), .val (.int tc), .val (.int (2 : Int32)), .val (.int (t2.toInt8.toInt32)), .val (.ref b1), .unset, .unset, .unset] [(.int (t2.toInt8.toInt32)), (.int (4 : Int32)), (.ref b1)])) rfl rfl (hb hby at_97)
  have V11 : Arv Z h11 b1 k1 .byte (10 : Int32) [(.int (nar .byte (t2.toInt8.toInt32))), (.int (nar .byte (t2.toInt8.toInt32))), (.int (nar .byte (t2.toInt8.toInt32))), (.int (nar .byte (t2.toInt8.toInt32))), (.int (nar .byte (t2.toInt8.toInt32))), (.int (0 : Int32)), (.int (0 : Int32)), (.int (0 : Int32)), (.int (0 : Int32)), (.int (0 : Int32))] (.int (0 : Int32)) := Arv.set Ar11 qq11 S11 N11_ H11 G11 (fits_nar_byte _) W11 4 rfl (Nat.le_of_ble_eq_true rfl)
  have zs12 : n0 ≤ h11.size := Nat.le_trans zs10 (Keep.of_wr W11).1
  have N11 := Fr.snoc X11 N9 g_b1
  obtain ⟨cx13, Ar13, qq13, S13, N13_, H13, G13⟩ := id V11
  have hin13 : ¬ ((5 : Int32) < 0 ∨ cx13.slots.size ≤ ((5 : Int32)).toNatClampNeg) := inb_of S13 ⟨by decide, by decide⟩
  obtain ⟨T13, h13, X13, e13, W13, st13⟩ := stB X11 hx hZ e11 Ar13 (j := (5 : Int32)) hin13 (g := (mkF m 103 #[.val (.int t0), .val (.int t1), .val (.int t2), .val (.int t3), .val (.int tc), .val (.int tc), .val (.int (2 : Int32)), .val (.int (t2.toInt8.toInt32)), .val (.ref b1), .unset, .unset, .unset] [(.int (t2.toInt8.toInt32)), (.int (5 : Int32)), (.ref b1)])) rfl rfl (hb hby at_103)
  have V13 : Arv Z h13 b1 k1 .byte (10 : Int32) [(.int (nar .byte (t2.toInt8.toInt32))), (.int (nar .byte (t2.toInt8.toInt32))), (.int (nar .byte (t2.toInt8.toInt32))), (.int (nar .byte (t2.toInt8.toInt32))), (.int (nar .byte (t2.toInt8.toInt32))), (.int (nar .byte (t2.toInt8.toInt32))), (.int (0 : Int32)), (.int (0 : Int32)), (.int (0 : Int32)), (.int (0 : Int32))] (.int (0 : Int32)) := Arv.set Ar13 qq13 S13 N13_ H13 G13 (fits_nar_byte _) W13 5 rfl (Nat.le_of_ble_eq_true rfl)
  have zs14 : n0 ≤ h13.size := Nat.le_trans zs12 (Keep.of_wr W13).1
  have N13 := Fr.snoc X13 N11 g_b1
  obtain ⟨cx15, Ar15, qq15, S15, N15_, H15, G15⟩ := id V13
  have hin15 : ¬ ((6 : Int32) < 0 ∨ cx15.slots.size ≤ ((6 : Int32)).toNatClampNeg) := inb_of S15 ⟨by decide, by decide⟩
  obtain ⟨T15, h15, X15, e15, W15, st15⟩ := stB X13 hx hZ e13 Ar15 (j := (6 : Int32)) hin15 (g := (mkF m 110 #[.val (.int t0), .val (.int t1), .val (.int t2), .val (.int t3), .val (.int tc), .val (.int tc), .val (.int (2 : Int32)), .val (.int (t2.toInt8.toInt32)), .val (.ref b1), .unset, .unset, .unset] [(.int (t2.toInt8.toInt32)), (.int (6 : Int32)), (.ref b1)])) rfl rfl (hb hby at_110)
  have V15 : Arv Z h15 b1 k1 .byte (10 : Int32) [(.int (nar .byte (t2.toInt8.toInt32))), (.int (nar .byte (t2.toInt8.toInt32))), (.int (nar .byte (t2.toInt8.toInt32))), (.int (nar .byte (t2.toInt8.toInt32))), (.int (nar .byte (t2.toInt8.toInt32))), (.int (nar .byte (t2.toInt8.toInt32))), (.int (nar .byte (t2.toInt8.toInt32))), (.int (0 : Int32)), (.int (0 : Int32)), (.int (0 : Int32))] (.int (0 : Int32)) := Arv.set Ar15 qq15 S15 N15_ H15 G15 (fits_nar_byte _) W15 6 rfl (Nat.le_of_ble_eq_true rfl)
  have zs16 : n0 ≤ h15.size := Nat.le_trans zs14 (Keep.of_wr W15).1
  have N15 := Fr.snoc X15 N13 g_b1
  obtain ⟨cx17, Ar17, qq17, S17, N17_, H17, G17⟩ := id V15
  have hin17 : ¬ ((7 : Int32) < 0 ∨ cx17.slots.size ≤ ((7 : Int32)).toNatClampNeg) := inb_of S17 ⟨by decide, by decide⟩
  obtain ⟨T17, h17, X17, e17, W17, st17⟩ := stB X15 hx hZ e15 Ar17 (j := (7 : Int32)) hin17 (g := (mkF m 117 #[.val (.int t0), .val (.int t1), .val (.int t2), .val (.int t3), .val (.int tc), .val (.int tc), .val (.int (2 : Int32)), .val (.int (t2.toInt8.toInt32)), .val (.ref b1), .unset, .unset, .unset] [(.int (t2.toInt8.toInt32)), (.int (7 : Int32)), (.ref b1)])) rfl rfl (hb hby at_117)
  have V17 : Arv Z h17 b1 k1 .byte (10 : Int32) [(.int (nar .byte (t2.toInt8.toInt32))), (.int (nar .byte (t2.toInt8.toInt32))), (.int (nar .byte (t2.toInt8.toInt32))), (.int (nar .byte (t2.toInt8.toInt32))), (.int (nar .byte (t2.toInt8.toInt32))), (.int (nar .byte (t2.toInt8.toInt32))), (.int (nar .byte (t2.toInt8.toInt32))), (.int (nar .byte (t2.toInt8.toInt32))), (.int (0 : Int32)), (.int (0 : Int32))] (.int (0 : Int32)) := Arv.set Ar17 qq17 S17 N17_ H17 G17 (fits_nar_byte _) W17 7 rfl (Nat.le_of_ble_eq_true rfl)
  have zs18 : n0 ≤ h17.size := Nat.le_trans zs16 (Keep.of_wr W17).1
  have N17 := Fr.snoc X17 N15 g_b1
  obtain ⟨cx19, Ar19, qq19, S19, N19_, H19, G19⟩ := id V17
  have hin19 : ¬ ((8 : Int32) < 0 ∨ cx19.slots.size ≤ ((8 : Int32)).toNatClampNeg) := inb_of S19 ⟨by decide, by decide⟩
  obtain ⟨T19, h19, X19, e19, W19, st19⟩ := stB X17 hx hZ e17 Ar19 (j := (8 : Int32)) hin19 (g := (mkF m 124 #[.val (.int t0), .val (.int t1), .val (.int t2), .val (.int t3), .val (.int tc), .val (.int tc), .val (.int (2 : Int32)), .val (.int (t2.toInt8.toInt32)), .val (.ref b1), .unset, .unset, .unset] [(.int (t2.toInt8.toInt32)), (.int (8 : Int32)), (.ref b1)])) rfl rfl (hb hby at_124)
  have V19 : Arv Z h19 b1 k1 .byte (10 : Int32) [(.int (nar .byte (t2.toInt8.toInt32))), (.int (nar .byte (t2.toInt8.toInt32))), (.int (nar .byte (t2.toInt8.toInt32))), (.int (nar .byte (t2.toInt8.toInt32))), (.int (nar .byte (t2.toInt8.toInt32))), (.int (nar .byte (t2.toInt8.toInt32))), (.int (nar .byte (t2.toInt8.toInt32))), (.int (nar .byte (t2.toInt8.toInt32))), (.int (nar .byte (t2.toInt8.toInt32))), (.int (0 : Int32))] (.int (0 : Int32)) := Arv.set Ar19 qq19 S19 N19_ H19 G19 (fits_nar_byte _) W19 8 rfl (Nat.le_of_ble_eq_true rfl)
  have zs20 : n0 ≤ h19.size := Nat.le_trans zs18 (Keep.of_wr W19).1
  have N19 := Fr.snoc X19 N17 g_b1
  obtain ⟨cx21, Ar21, qq21, S21, N21_, H21, G21⟩ := id V19
  have hin21 : ¬ ((9 : Int32) < 0 ∨ cx21.slots.size ≤ ((9 : Int32)).toNatClampNeg) := inb_of S21 ⟨by decide, by decide⟩
  obtain ⟨T21, h21, X21, e21, W21, st21⟩ := stB X19 hx hZ e19 Ar21 (j := (9 : Int32)) hin21 (g := (mkF m 131 #[.val (.int t0), .val (.int t1), .val (.int t2), .val (.int t3), .val (.int tc), .val (.int tc), .val (.int (2 : Int32)), .val (.int (t2.toInt8.toInt32)), .val (.ref b1), .unset, .unset, .unset] [(.int (t2.toInt8.toInt32)), (.int (9 : Int32)), (.ref b1)])) rfl rfl (hb hby at_131)
  have V21 : Arv Z h21 b1 k1 .byte (10 : Int32) [(.int (nar .byte (t2.toInt8.toInt32))), (.int (nar .byte (t2.toInt8.toInt32))), (.int (nar .byte (t2.toInt8.toInt32))), (.int (nar .byte (t2.toInt8.toInt32))), (.int (nar .byte (t2.toInt8.toInt32))), (.int (nar .byte (t2.toInt8.toInt32))), (.int (nar .byte (t2.toInt8.toInt32))), (.int (nar .byte (t2.toInt8.toInt32))), (.int (nar .byte (t2.toInt8.toInt32))), (.int (nar .byte (t2.toInt8.toInt32)))] (.int (0 : Int32)) := Arv.set Ar21 qq21 S21 N21_ H21 G21 (fits_nar_byte _) W21 9 rfl (Nat.le_of_ble_eq_true rfl)
  have zs22 : n0 ≤ h21.size := Nat.le_trans zs20 (Keep.of_wr W21).1
  have N21 := Fr.snoc X21 N19 g_b1
  have fa24 : Sta Z h21 "com/example/endcon/endcon/rules/LineText" "HEX_DIGITS" "[B" (.ref w1) := (((((((((((S_H.ext E1).wr W3).wr W5).wr W7).wr W9).wr W11).wr W13).wr W15).wr W17).wr W19).wr W21)
  have fa25 : Arr Z h21 w1 cl1 .byte := (((((((((((Ar_w1.ext E1).other W3 ne_w1_b1).other W5 ne_w1_b1).other W7 ne_w1_b1).other W9 ne_w1_b1).other W11 ne_w1_b1).other W13 ne_w1_b1).other W15 ne_w1_b1).other W17 ne_w1_b1).other W19 ne_w1_b1).other W21 ne_w1_b1)
  obtain ⟨_, T23, Lc23, X23, hQ23, st23⟩ := own_callS X21 hx hZ (y := (⟨"com/example/endcon/endcon/rules/LineText", "escape", "(C[BI)I"⟩ : MethodName)) hown (hw _ (List.mem_of_getElem? (i := 2) rfl)) (hw _ (List.mem_of_getElem? (i := 3) rfl)) (hw _ (List.mem_of_getElem? (i := 4) rfl)) (hw _ (List.mem_of_getElem? (i := 5) rfl)) (by decide) (W := 0) (argsL := [(.int tc), (.ref b1), (.int (2 : Int32))]) (rest := []) (rm1_2 l Z a0 hw [] tc b1 (nar .byte (t2.toInt8.toInt32)) w1 cl1 k1 h21 n0 zs22 V21 g_b1 fa24 ne_w1_b1 fa25 sz1 hv hp hp2) (by decide) (by decide) (c' := 1) (s' := 10) rfl rfl (by decide) (by decide) e21 (g := (mkF m 138 #[.val (.int t0), .val (.int t1), .val (.int t2), .val (.int t3), .val (.int tc), .val (.int tc), .val (.int (2 : Int32)), .val (.int (t2.toInt8.toInt32)), .val (.ref b1), .unset, .unset, .unset] [(.int (2 : Int32)), (.ref b1), (.int tc)])) rfl (by rw [hml]; rfl) (lenOf pd_0_0 rfl) rfl (by show 2 * 0 + _ ≤ _; exact Nat.le_of_eq rfl) (hb hby at_138)
  obtain ⟨rfl, N23q, K23, Vc23_a2⟩ := hQ23
  have N23 := Fr.app N21 N23q
  have zs26 : n0 ≤ T23.heap.size := Nat.le_trans zs22 K23.1
  obtain ⟨_, T27, Lc27, X27, hQ27, st27⟩ := own_callS X23 hx hZ (y := (⟨"com/example/endcon/endcon/rules/LineTextEscapePinLaw", "shortForm", "(I)I"⟩ : MethodName)) hown (hw _ (List.mem_of_getElem? (i := 8) rfl)) (hw _ (List.mem_of_getElem? (i := 9) rfl)) (hw _ (List.mem_of_getElem? (i := 10) rfl)) (hw _ (List.mem_of_getElem? (i := 11) rfl)) (by decide) (W := 0) (argsL := [(.int tc)]) (rest := []) (rm2 l Z a0 hw [] tc T23.heap n0 zs26 ) (by decide) (by decide) (c' := 1) (s' := 10) rfl rfl (by decide) (by decide) rfl (g := (mkF m 145 #[.val (.int t0), .val (.int t1), .val (.int t2), .val (.int t3), .val (.int tc), .val (.int tc), .val (.int (2 : Int32)), .val (.int (t2.toInt8.toInt32)), .val (.ref b1), .val (.int (f1_2 tc (nar .byte (t2.toInt8.toInt32)))), .unset, .unset] [(.int tc)])) rfl (by rw [hml]; rfl) (lenOf pd_0_1 rfl) rfl (by show 2 * 0 + _ ≤ _; exact Nat.le_of_eq rfl) (hb hby at_145)
  obtain ⟨rfl, N27q, e27⟩ := hQ27
  have N27 := Fr.app N23 N27q
  have pre28 : ∀ t, Steps p.tables e below (T27.setTop (mkF m 148 #[.val (.int t0), .val (.int t1), .val (.int t2), .val (.int t3), .val (.int tc), .val (.int tc), .val (.int (2 : Int32)), .val (.int (t2.toInt8.toInt32)), .val (.ref b1), .val (.int (f1_2 tc (nar .byte (t2.toInt8.toInt32)))), .unset, .unset] [(.int (f2 tc))])) t → Steps p.tables e below (s₁.setTop E) t := fun t kt => by
    refine pre0 _ ?_
    show Steps p.tables e below (T0.setTop (mkF m 58 #[.val (.int t0), .val (.int t1), .val (.int t2), .val (.int t3), .val (.int tc), .val (.int tc), .val (.int (2 : Int32)), .unset, .unset, .unset, .unset, .unset] [])) _
    refine own_blk X0 hx bl0_58_3 (own_hb hby bd0_58_3) (pc' := 62) (Ls' := #[.val (.int t0), .val (.int t1), .val (.int t2), .val (.int t3), .val (.int tc), .val (.int tc), .val (.int (2 : Int32)), .val (.int (t2.toInt8.toInt32)), .unset, .unset, .unset, .unset]) (st' := []) rfl ?_
    refine own_blk X0 hx bl0_62_1 (own_hb hby bd0_62_1) (pc' := 64) (Ls' := #[.val (.int t0), .val (.int t1), .val (.int t2), .val (.int t3), .val (.int tc), .val (.int tc), .val (.int (2 : Int32)), .val (.int (t2.toInt8.toInt32)), .unset, .unset, .unset, .unset]) (st' := [(.int (10 : Int32))]) rfl ?_
    refine st1 _ ?_
    show Steps p.tables e below (T1.setTop (mkF m 66 #[.val (.int t0), .val (.int t1), .val (.int t2), .val (.int t3), .val (.int tc), .val (.int tc), .val (.int (2 : Int32)), .val (.int (t2.toInt8.toInt32)), .unset, .unset, .unset, .unset] [(.ref b1)])) _
    refine own_blk X1 hx bl0_66_1 (own_hb hby bd0_66_1) (pc' := 68) (Ls' := #[.val (.int t0), .val (.int t1), .val (.int t2), .val (.int t3), .val (.int tc), .val (.int tc), .val (.int (2 : Int32)), .val (.int (t2.toInt8.toInt32)), .val (.ref b1), .unset, .unset, .unset]) (st' := []) rfl ?_
    refine own_blk X1 hx bl0_68_3 (own_hb hby bd0_68_3) (pc' := 73) (Ls' := #[.val (.int t0), .val (.int t1), .val (.int t2), .val (.int t3), .val (.int tc), .val (.int tc), .val (.int (2 : Int32)), .val (.int (t2.toInt8.toInt32)), .val (.ref b1), .unset, .unset, .unset]) (st' := [(.int (t2.toInt8.toInt32)), (.int (0 : Int32)), (.ref b1)]) rfl ?_
    refine st3 _ ?_
    show Steps p.tables e below (T3.setTop (mkF m 74 #[.val (.int t0), .val (.int t1), .val (.int t2), .val (.int t3), .val (.int tc), .val (.int tc), .val (.int (2 : Int32)), .val (.int (t2.toInt8.toInt32)), .val (.ref b1), .unset, .unset, .unset] [])) _
    refine own_blk X3 hx bl0_74_3 (own_hb hby bd0_74_3) (pc' := 79) (Ls' := #[.val (.int t0), .val (.int t1), .val (.int t2), .val (.int t3), .val (.int tc), .val (.int tc), .val (.int (2 : Int32)), .val (.int (t2.toInt8.toInt32)), .val (.ref b1), .unset, .unset, .unset]) (st' := [(.int (t2.toInt8.toInt32)), (.int (1 : Int32)), (.ref b1)]) rfl ?_
    refine st5 _ ?_
    show Steps p.tables e below (T5.setTop (mkF m 80 #[.val (.int t0), .val (.int t1), .val (.int t2), .val (.int t3), .val (.int tc), .val (.int tc), .val (.int (2 : Int32)), .val (.int (t2.toInt8.toInt32)), .val (.ref b1), .unset, .unset, .unset] [])) _
    refine own_blk X5 hx bl0_80_3 (own_hb hby bd0_80_3) (pc' := 85) (Ls' := #[.val (.int t0), .val (.int t1), .val (.int t2), .val (.int t3), .val (.int tc), .val (.int tc), .val (.int (2 : Int32)), .val (.int (t2.toInt8.toInt32)), .val (.ref b1), .unset, .unset, .unset]) (st' := [(.int (t2.toInt8.toInt32)), (.int (2 : Int32)), (.ref b1)]) rfl ?_
    refine st7 _ ?_
    show Steps p.tables e below (T7.setTop (mkF m 86 #[.val (.int t0), .val (.int t1), .val (.int t2), .val (.int t3), .val (.int tc), .val (.int tc), .val (.int (2 : Int32)), .val (.int (t2.toInt8.toInt32)), .val (.ref b1), .unset, .unset, .unset] [])) _
    refine own_blk X7 hx bl0_86_3 (own_hb hby bd0_86_3) (pc' := 91) (Ls' := #[.val (.int t0), .val (.int t1), .val (.int t2), .val (.int t3), .val (.int tc), .val (.int tc), .val (.int (2 : Int32)), .val (.int (t2.toInt8.toInt32)), .val (.ref b1), .unset, .unset, .unset]) (st' := [(.int (t2.toInt8.toInt32)), (.int (3 : Int32)), (.ref b1)]) rfl ?_
    refine st9 _ ?_
    show Steps p.tables e below (T9.setTop (mkF m 92 #[.val (.int t0), .val (.int t1), .val (.int t2), .val (.int t3), .val (.int tc), .val (.int tc), .val (.int (2 : Int32)), .val (.int (t2.toInt8.toInt32)), .val (.ref b1), .unset, .unset, .unset] [])) _
    refine own_blk X9 hx bl0_92_3 (own_hb hby bd0_92_3) (pc' := 97) (Ls' := #[.val (.int t0), .val (.int t1), .val (.int t2), .val (.int t3), .val (.int tc), .val (.int tc), .val (.int (2 : Int32)), .val (.int (t2.toInt8.toInt32)), .val (.ref b1), .unset, .unset, .unset]) (st' := [(.int (t2.toInt8.toInt32)), (.int (4 : Int32)), (.ref b1)]) rfl ?_
    refine st11 _ ?_
    show Steps p.tables e below (T11.setTop (mkF m 98 #[.val (.int t0), .val (.int t1), .val (.int t2), .val (.int t3), .val (.int tc), .val (.int tc), .val (.int (2 : Int32)), .val (.int (t2.toInt8.toInt32)), .val (.ref b1), .unset, .unset, .unset] [])) _
    refine own_blk X11 hx bl0_98_3 (own_hb hby bd0_98_3) (pc' := 103) (Ls' := #[.val (.int t0), .val (.int t1), .val (.int t2), .val (.int t3), .val (.int tc), .val (.int tc), .val (.int (2 : Int32)), .val (.int (t2.toInt8.toInt32)), .val (.ref b1), .unset, .unset, .unset]) (st' := [(.int (t2.toInt8.toInt32)), (.int (5 : Int32)), (.ref b1)]) rfl ?_
    refine st13 _ ?_
    show Steps p.tables e below (T13.setTop (mkF m 104 #[.val (.int t0), .val (.int t1), .val (.int t2), .val (.int t3), .val (.int tc), .val (.int tc), .val (.int (2 : Int32)), .val (.int (t2.toInt8.toInt32)), .val (.ref b1), .unset, .unset, .unset] [])) _
    refine own_blk X13 hx bl0_104_3 (own_hb hby bd0_104_3) (pc' := 110) (Ls' := #[.val (.int t0), .val (.int t1), .val (.int t2), .val (.int t3), .val (.int tc), .val (.int tc), .val (.int (2 : Int32)), .val (.int (t2.toInt8.toInt32)), .val (.ref b1), .unset, .unset, .unset]) (st' := [(.int (t2.toInt8.toInt32)), (.int (6 : Int32)), (.ref b1)]) rfl ?_
    refine st15 _ ?_
    show Steps p.tables e below (T15.setTop (mkF m 111 #[.val (.int t0), .val (.int t1), .val (.int t2), .val (.int t3), .val (.int tc), .val (.int tc), .val (.int (2 : Int32)), .val (.int (t2.toInt8.toInt32)), .val (.ref b1), .unset, .unset, .unset] [])) _
    refine own_blk X15 hx bl0_111_3 (own_hb hby bd0_111_3) (pc' := 117) (Ls' := #[.val (.int t0), .val (.int t1), .val (.int t2), .val (.int t3), .val (.int tc), .val (.int tc), .val (.int (2 : Int32)), .val (.int (t2.toInt8.toInt32)), .val (.ref b1), .unset, .unset, .unset]) (st' := [(.int (t2.toInt8.toInt32)), (.int (7 : Int32)), (.ref b1)]) rfl ?_
    refine st17 _ ?_
    show Steps p.tables e below (T17.setTop (mkF m 118 #[.val (.int t0), .val (.int t1), .val (.int t2), .val (.int t3), .val (.int tc), .val (.int tc), .val (.int (2 : Int32)), .val (.int (t2.toInt8.toInt32)), .val (.ref b1), .unset, .unset, .unset] [])) _
    refine own_blk X17 hx bl0_118_3 (own_hb hby bd0_118_3) (pc' := 124) (Ls' := #[.val (.int t0), .val (.int t1), .val (.int t2), .val (.int t3), .val (.int tc), .val (.int tc), .val (.int (2 : Int32)), .val (.int (t2.toInt8.toInt32)), .val (.ref b1), .unset, .unset, .unset]) (st' := [(.int (t2.toInt8.toInt32)), (.int (8 : Int32)), (.ref b1)]) rfl ?_
    refine st19 _ ?_
    show Steps p.tables e below (T19.setTop (mkF m 125 #[.val (.int t0), .val (.int t1), .val (.int t2), .val (.int t3), .val (.int tc), .val (.int tc), .val (.int (2 : Int32)), .val (.int (t2.toInt8.toInt32)), .val (.ref b1), .unset, .unset, .unset] [])) _
    refine own_blk X19 hx bl0_125_3 (own_hb hby bd0_125_3) (pc' := 131) (Ls' := #[.val (.int t0), .val (.int t1), .val (.int t2), .val (.int t3), .val (.int tc), .val (.int tc), .val (.int (2 : Int32)), .val (.int (t2.toInt8.toInt32)), .val (.ref b1), .unset, .unset, .unset]) (st' := [(.int (t2.toInt8.toInt32)), (.int (9 : Int32)), (.ref b1)]) rfl ?_
    refine st21 _ ?_
    show Steps p.tables e below (T21.setTop (mkF m 132 #[.val (.int t0), .val (.int t1), .val (.int t2), .val (.int t3), .val (.int tc), .val (.int tc), .val (.int (2 : Int32)), .val (.int (t2.toInt8.toInt32)), .val (.ref b1), .unset, .unset, .unset] [])) _
    refine own_blk X21 hx bl0_132_3 (own_hb hby bd0_132_3) (pc' := 138) (Ls' := #[.val (.int t0), .val (.int t1), .val (.int t2), .val (.int t3), .val (.int tc), .val (.int tc), .val (.int (2 : Int32)), .val (.int (t2.toInt8.toInt32)), .val (.ref b1), .unset, .unset, .unset]) (st' := [(.int (2 : Int32)), (.ref b1), (.int tc)]) rfl ?_
    refine st23 _ ?_
    show Steps p.tables e below (T23.setTop (mkF m 141 #[.val (.int t0), .val (.int t1), .val (.int t2), .val (.int t3), .val (.int tc), .val (.int tc), .val (.int (2 : Int32)), .val (.int (t2.toInt8.toInt32)), .val (.ref b1), .unset, .unset, .unset] [(.int (f1_2 tc (nar .byte (t2.toInt8.toInt32))))])) _
    refine own_blk X23 hx bl0_141_1 (own_hb hby bd0_141_1) (pc' := 143) (Ls' := #[.val (.int t0), .val (.int t1), .val (.int t2), .val (.int t3), .val (.int tc), .val (.int tc), .val (.int (2 : Int32)), .val (.int (t2.toInt8.toInt32)), .val (.ref b1), .val (.int (f1_2 tc (nar .byte (t2.toInt8.toInt32)))), .unset, .unset]) (st' := []) rfl ?_
    refine own_blk X23 hx bl0_143_1 (own_hb hby bd0_143_1) (pc' := 145) (Ls' := #[.val (.int t0), .val (.int t1), .val (.int t2), .val (.int t3), .val (.int tc), .val (.int tc), .val (.int (2 : Int32)), .val (.int (t2.toInt8.toInt32)), .val (.ref b1), .val (.int (f1_2 tc (nar .byte (t2.toInt8.toInt32)))), .unset, .unset]) (st' := [(.int tc)]) rfl ?_
    refine st27 _ ?_
    exact kt
  by_cases hc29 : (f2 tc) = (0 : Int32)
  · have pre30 : ∀ t, Steps p.tables e below (T27.setTop (mkF m 176 #[.val (.int t0), .val (.int t1), .val (.int t2), .val (.int t3), .val (.int tc), .val (.int tc), .val (.int (2 : Int32)), .val (.int (t2.toInt8.toInt32)), .val (.ref b1), .val (.int (f1_2 tc (nar .byte (t2.toInt8.toInt32)))), .val (.int (6 : Int32)), .val (.int (1 : Int32))] [])) t → Steps p.tables e below (s₁.setTop E) t := fun t kt => by
      refine pre28 _ ?_
      show Steps p.tables e below (T27.setTop (mkF m 148 #[.val (.int t0), .val (.int t1), .val (.int t2), .val (.int t3), .val (.int tc), .val (.int tc), .val (.int (2 : Int32)), .val (.int (t2.toInt8.toInt32)), .val (.ref b1), .val (.int (f1_2 tc (nar .byte (t2.toInt8.toInt32)))), .unset, .unset] [(.int (f2 tc))])) _
      refine XS.ifYes X27.here hx rfl (pc0 := 148) (pc' := 155) rfl (hb hby at_148) rfl ((if0 _ _).trans (teq hc29).1) (by decide) (by decide) ?_
      show Steps p.tables e below (T27.setTop (mkF m 155 #[.val (.int t0), .val (.int t1), .val (.int t2), .val (.int t3), .val (.int tc), .val (.int tc), .val (.int (2 : Int32)), .val (.int (t2.toInt8.toInt32)), .val (.ref b1), .val (.int (f1_2 tc (nar .byte (t2.toInt8.toInt32)))), .unset, .unset] [])) _
      refine own_blk X27 hx bl0_155_2 (own_hb hby bd0_155_2) (pc' := 159) (Ls' := #[.val (.int t0), .val (.int t1), .val (.int t2), .val (.int t3), .val (.int tc), .val (.int tc), .val (.int (2 : Int32)), .val (.int (t2.toInt8.toInt32)), .val (.ref b1), .val (.int (f1_2 tc (nar .byte (t2.toInt8.toInt32)))), .val (.int (6 : Int32)), .unset]) (st' := []) rfl ?_
      refine own_blk X27 hx bl0_159_4 (own_hb hby bd0_159_4) (pc' := 166) (Ls' := #[.val (.int t0), .val (.int t1), .val (.int t2), .val (.int t3), .val (.int tc), .val (.int tc), .val (.int (2 : Int32)), .val (.int (t2.toInt8.toInt32)), .val (.ref b1), .val (.int (f1_2 tc (nar .byte (t2.toInt8.toInt32)))), .val (.int (6 : Int32)), .unset]) (st' := [(.int (8 : Int32)), (.int (f1_2 tc (nar .byte (t2.toInt8.toInt32))))]) rfl ?_
      refine XS.icmpNo X27.here hx rfl (hb hby at_166) rfl (teq (own_end2z tc (nar .byte (t2.toInt8.toInt32)) hc29)).2 ?_
      show Steps p.tables e below (T27.setTop (mkF m 169 #[.val (.int t0), .val (.int t1), .val (.int t2), .val (.int t3), .val (.int tc), .val (.int tc), .val (.int (2 : Int32)), .val (.int (t2.toInt8.toInt32)), .val (.ref b1), .val (.int (f1_2 tc (nar .byte (t2.toInt8.toInt32)))), .val (.int (6 : Int32)), .unset] [])) _
      refine own_blk X27 hx bl0_169_3 (own_hb hby bd0_169_3) (pc' := 176) (Ls' := #[.val (.int t0), .val (.int t1), .val (.int t2), .val (.int t3), .val (.int tc), .val (.int tc), .val (.int (2 : Int32)), .val (.int (t2.toInt8.toInt32)), .val (.ref b1), .val (.int (f1_2 tc (nar .byte (t2.toInt8.toInt32)))), .val (.int (6 : Int32)), .val (.int (1 : Int32))]) (st' := []) rfl ?_
      exact kt
    obtain ⟨s231, o31, u31a, u31b, u31c, v31, L31, rfl, ⟨rfl, u31d⟩, u31e⟩ := tlB2 t0 t1 t2 t3 tc (f1_2 tc (nar .byte (t2.toInt8.toInt32))) (6 : Int32) b1 k1 X27 hx hZ hw hby hml hown hret hlk e27 N27 zs26 pre30 Vc23_a2 hp hp2
    exact ⟨s231, _, u31a, u31b, u31c, _, _, rfl, ⟨by rw [fA2, if_pos hc29], u31d⟩, u31e⟩
  · have pre32 : ∀ t, Steps p.tables e below (T27.setTop (mkF m 176 #[.val (.int t0), .val (.int t1), .val (.int t2), .val (.int t3), .val (.int tc), .val (.int tc), .val (.int (2 : Int32)), .val (.int (t2.toInt8.toInt32)), .val (.ref b1), .val (.int (f1_2 tc (nar .byte (t2.toInt8.toInt32)))), .val (.int (2 : Int32)), .val (.int (1 : Int32))] [])) t → Steps p.tables e below (s₁.setTop E) t := fun t kt => by
      refine pre28 _ ?_
      show Steps p.tables e below (T27.setTop (mkF m 148 #[.val (.int t0), .val (.int t1), .val (.int t2), .val (.int t3), .val (.int tc), .val (.int tc), .val (.int (2 : Int32)), .val (.int (t2.toInt8.toInt32)), .val (.ref b1), .val (.int (f1_2 tc (nar .byte (t2.toInt8.toInt32)))), .unset, .unset] [(.int (f2 tc))])) _
      refine XS.ifNo X27.here hx rfl (hb hby at_148) rfl ((if0 _ _).trans (feq hc29).1) ?_
      show Steps p.tables e below (T27.setTop (mkF m 151 #[.val (.int t0), .val (.int t1), .val (.int t2), .val (.int t3), .val (.int tc), .val (.int tc), .val (.int (2 : Int32)), .val (.int (t2.toInt8.toInt32)), .val (.ref b1), .val (.int (f1_2 tc (nar .byte (t2.toInt8.toInt32)))), .unset, .unset] [])) _
      refine own_blk X27 hx bl0_151_3 (own_hb hby bd0_151_3) (pc' := 159) (Ls' := #[.val (.int t0), .val (.int t1), .val (.int t2), .val (.int t3), .val (.int tc), .val (.int tc), .val (.int (2 : Int32)), .val (.int (t2.toInt8.toInt32)), .val (.ref b1), .val (.int (f1_2 tc (nar .byte (t2.toInt8.toInt32)))), .val (.int (2 : Int32)), .unset]) (st' := []) rfl ?_
      refine own_blk X27 hx bl0_159_4 (own_hb hby bd0_159_4) (pc' := 166) (Ls' := #[.val (.int t0), .val (.int t1), .val (.int t2), .val (.int t3), .val (.int tc), .val (.int tc), .val (.int (2 : Int32)), .val (.int (t2.toInt8.toInt32)), .val (.ref b1), .val (.int (f1_2 tc (nar .byte (t2.toInt8.toInt32)))), .val (.int (2 : Int32)), .unset]) (st' := [(.int (4 : Int32)), (.int (f1_2 tc (nar .byte (t2.toInt8.toInt32))))]) rfl ?_
      refine XS.icmpNo X27.here hx rfl (hb hby at_166) rfl (teq (own_end2n tc (nar .byte (t2.toInt8.toInt32)) hc29)).2 ?_
      show Steps p.tables e below (T27.setTop (mkF m 169 #[.val (.int t0), .val (.int t1), .val (.int t2), .val (.int t3), .val (.int tc), .val (.int tc), .val (.int (2 : Int32)), .val (.int (t2.toInt8.toInt32)), .val (.ref b1), .val (.int (f1_2 tc (nar .byte (t2.toInt8.toInt32)))), .val (.int (2 : Int32)), .unset] [])) _
      refine own_blk X27 hx bl0_169_3 (own_hb hby bd0_169_3) (pc' := 176) (Ls' := #[.val (.int t0), .val (.int t1), .val (.int t2), .val (.int t3), .val (.int tc), .val (.int tc), .val (.int (2 : Int32)), .val (.int (t2.toInt8.toInt32)), .val (.ref b1), .val (.int (f1_2 tc (nar .byte (t2.toInt8.toInt32)))), .val (.int (2 : Int32)), .val (.int (1 : Int32))]) (st' := []) rfl ?_
      exact kt
    obtain ⟨s233, o33, u33a, u33b, u33c, v33, L33, rfl, ⟨rfl, u33d⟩, u33e⟩ := tlB2 t0 t1 t2 t3 tc (f1_2 tc (nar .byte (t2.toInt8.toInt32))) (2 : Int32) b1 k1 X27 hx hZ hw hby hml hown hret hlk e27 N27 zs26 pre32 Vc23_a2 hp hp2
    exact ⟨s233, _, u33a, u33b, u33c, _, _, rfl, ⟨by rw [fA2, if_neg hc29], u33d⟩, u33e⟩

def f0_2 (p1 : Int32) (p2 : Int32) (p3 : Int32) : Int32 := (if ((p1 &&& (2147483647 : Int32)) % (67 : Int32)) < (32 : Int32) then (fA2 p1 p2 p3 ((p1 &&& (2147483647 : Int32)) % (67 : Int32)) ((p1 &&& (2147483647 : Int32)) % (67 : Int32))) else (if ((p1 &&& (2147483647 : Int32)) % (67 : Int32)) < (65 : Int32) then (fA2 p1 p2 p3 ((p1 &&& (2147483647 : Int32)) % (67 : Int32)) ((127 : Int32) + (((p1 &&& (2147483647 : Int32)) % (67 : Int32)) - (32 : Int32)))) else (fA2 p1 p2 p3 ((p1 &&& (2147483647 : Int32)) % (67 : Int32)) ((8232 : Int32) + (((p1 &&& (2147483647 : Int32)) % (67 : Int32)) - (65 : Int32))))))
def Q0_2 (Z : State) (p1 : Int32) (p2 : Int32) (p3 : Int32) (w1 : Addr) (cl1 : Cell) (h0 : Heap) (n0 : Nat) (v : Option Value) (h : Heap) (L : List Loc) : Prop := v = some (.int (f0_2 p1 p2 p3)) ∧ Fr n0 L
set_option maxRecDepth 65536 in
set_option maxHeartbeats 40000000 in
theorem rm0_2 (l : Launch) (Z : State) (a0 : Array Value) (hw : ∀ d ∈ tables_1, d.before a0 Z = true) (ws : List Jvm.Cond) (p1 : Int32) (p2 : Int32) (p3 : Int32) (w1 : Addr) (cl1 : Cell) (h0 : Heap) (n0 : Nat) (Z0 : n0 ≤ h0.size) (S_HEX_DIGITS : Sta Z h0 "com/example/endcon/endcon/rules/LineText" "HEX_DIGITS" "[B" (.ref w1)) (Ar_w1 : Arr Z h0 w1 cl1 .byte) (sz1 : cl1.slots.size = (16 : Int32).toNatClampNeg) (hv : ∀ j : Int32, ¬ j < 0 → j < 16 → cl1.slots[j.toNatClampNeg]? = some (.int (own_tab j))) (hn : (p2 &&& (3 : Int32)) = (2 : Int32)) :
    MetFree l x (head1 (Jvm.Cond.code x code maxLocals ret :: ws) room_1) (fun a U => a = #[(.int p1), (.int p2), (.int p3)] ∧ Z.Warmed39 U.vm ∧ U.heap = h0) (fun _ _ _ _ _ => True) (fun _ U o U' => ∃ v L, o = .returned v ∧ Q0_2 Z p1 p2 p3 w1 cl1 h0 n0 v U'.heap L ∧ FrameEnd U o U' L room_1.cells room_1.slots) := by
  refine MetFree.of_bodySF (plainFor_of_name pn_0) hisR ?_
  intro p e s m args below meth c s₁ Bd hml0 hP hK
  obtain ⟨rfl, hZ, hh⟩ := hP
  have hx := Bd.exec
  have hby := Bd.bytes
  have hml : c.maxLocals = 12 := hml0
  have hown : s.vm.findClass "com/example/endcon/endcon/rules/LineTextEscapePinLaw" = some m.cls := findClass_of_methodNamed Bd.named
  have hnm := (name_of_methodNamed Bd.named Bd.method).1
  have X0 : Stand p l e room_1 s m #[(.int p1), (.int p2), (.int p3)] below meth c s₁ [] 0 0 := Stand.of_body Bd
  have e0 : s₁.heap = h0 := by rw [← hh, Bd.state]; rfl
  have N0 := Fr.nil n0
  have pre0 : ∀ t, Steps p.tables e below (s₁.setTop (mkF m 0 #[.val (.int p1), .val (.int p2), .val (.int p3), .unset, .unset, .unset, .unset, .unset, .unset, .unset, .unset, .unset] [])) t → Steps p.tables e below (s₁.setTop (entryFrame m #[(.int p1), (.int p2), (.int p3)] maxLocals)) t := fun t k => castTop (ef_0 m p1 p2 p3) k
  have pre1 : ∀ t, Steps p.tables e below (s₁.setTop (mkF m 11 #[.val (.int p1), .val (.int p2), .val (.int p3), .val (.int ((p1 &&& (2147483647 : Int32)) % (67 : Int32))), .unset, .unset, .unset, .unset, .unset, .unset, .unset, .unset] [(.int (32 : Int32)), (.int ((p1 &&& (2147483647 : Int32)) % (67 : Int32)))])) t → Steps p.tables e below (s₁.setTop (entryFrame m #[(.int p1), (.int p2), (.int p3)] maxLocals)) t := fun t kt => by
    refine pre0 _ ?_
    show Steps p.tables e below (s₁.setTop (mkF m 0 #[.val (.int p1), .val (.int p2), .val (.int p3), .unset, .unset, .unset, .unset, .unset, .unset, .unset, .unset, .unset] [])) _
    refine own_blk X0 hx bl0_0_1 (own_hb hby bd0_0_1) (pc' := 1) (Ls' := #[.val (.int p1), .val (.int p2), .val (.int p3), .unset, .unset, .unset, .unset, .unset, .unset, .unset, .unset, .unset]) (st' := [(.int p1)]) rfl ?_
    refine X0.ldcInt hx hown (mvT hZ (hw _ (List.mem_of_getElem? (i := 0) rfl))) (g := (mkF m 1 #[.val (.int p1), .val (.int p2), .val (.int p3), .unset, .unset, .unset, .unset, .unset, .unset, .unset, .unset, .unset] [(.int p1)])) rfl (hb hby at_1) _ ?_
    show Steps p.tables e below (s₁.setTop (mkF m 3 #[.val (.int p1), .val (.int p2), .val (.int p3), .unset, .unset, .unset, .unset, .unset, .unset, .unset, .unset, .unset] [(.int (2147483647 : Int32)), (.int p1)])) _
    refine own_blk X0 hx bl0_3_2 (own_hb hby bd0_3_2) (pc' := 6) (Ls' := #[.val (.int p1), .val (.int p2), .val (.int p3), .unset, .unset, .unset, .unset, .unset, .unset, .unset, .unset, .unset]) (st' := [(.int (67 : Int32)), (.int (p1 &&& (2147483647 : Int32)))]) rfl ?_
    refine iremM X0 hx rfl (hb hby at_6) rfl (by decide : ¬ ((67 : Int32) = (0 : Int32))) ?_
    show Steps p.tables e below (s₁.setTop (mkF m 7 #[.val (.int p1), .val (.int p2), .val (.int p3), .unset, .unset, .unset, .unset, .unset, .unset, .unset, .unset, .unset] [(.int ((p1 &&& (2147483647 : Int32)) % (67 : Int32)))])) _
    refine own_blk X0 hx bl0_7_1 (own_hb hby bd0_7_1) (pc' := 8) (Ls' := #[.val (.int p1), .val (.int p2), .val (.int p3), .val (.int ((p1 &&& (2147483647 : Int32)) % (67 : Int32))), .unset, .unset, .unset, .unset, .unset, .unset, .unset, .unset]) (st' := []) rfl ?_
    refine own_blk X0 hx bl0_8_2 (own_hb hby bd0_8_2) (pc' := 11) (Ls' := #[.val (.int p1), .val (.int p2), .val (.int p3), .val (.int ((p1 &&& (2147483647 : Int32)) % (67 : Int32))), .unset, .unset, .unset, .unset, .unset, .unset, .unset, .unset]) (st' := [(.int (32 : Int32)), (.int ((p1 &&& (2147483647 : Int32)) % (67 : Int32)))]) rfl ?_
    exact kt
  by_cases hc2 : ((p1 &&& (2147483647 : Int32)) % (67 : Int32)) < (32 : Int32)
  · have pre3 : ∀ t, Steps p.tables e below (s₁.setTop (mkF m 58 #[.val (.int p1), .val (.int p2), .val (.int p3), .val (.int ((p1 &&& (2147483647 : Int32)) % (67 : Int32))), .val (.int ((p1 &&& (2147483647 : Int32)) % (67 : Int32))), .val (.int ((p1 &&& (2147483647 : Int32)) % (67 : Int32))), .val (.int (2 : Int32)), .unset, .unset, .unset, .unset, .unset] [])) t → Steps p.tables e below (s₁.setTop (entryFrame m #[(.int p1), (.int p2), (.int p3)] maxLocals)) t := fun t kt => by
      refine pre1 _ ?_
      show Steps p.tables e below (s₁.setTop (mkF m 11 #[.val (.int p1), .val (.int p2), .val (.int p3), .val (.int ((p1 &&& (2147483647 : Int32)) % (67 : Int32))), .unset, .unset, .unset, .unset, .unset, .unset, .unset, .unset] [(.int (32 : Int32)), (.int ((p1 &&& (2147483647 : Int32)) % (67 : Int32)))])) _
      refine XS.icmpNo X0.here hx rfl (hb hby at_11) rfl (tlt hc2).2.1 ?_
      show Steps p.tables e below (s₁.setTop (mkF m 14 #[.val (.int p1), .val (.int p2), .val (.int p3), .val (.int ((p1 &&& (2147483647 : Int32)) % (67 : Int32))), .unset, .unset, .unset, .unset, .unset, .unset, .unset, .unset] [])) _
      refine own_blk X0 hx bl0_14_2 (own_hb hby bd0_14_2) (pc' := 17) (Ls' := #[.val (.int p1), .val (.int p2), .val (.int p3), .val (.int ((p1 &&& (2147483647 : Int32)) % (67 : Int32))), .val (.int ((p1 &&& (2147483647 : Int32)) % (67 : Int32))), .unset, .unset, .unset, .unset, .unset, .unset, .unset]) (st' := []) rfl ?_
      refine own_blk X0 hx bl0_17_3 (own_hb hby bd0_17_3) (pc' := 51) (Ls' := #[.val (.int p1), .val (.int p2), .val (.int p3), .val (.int ((p1 &&& (2147483647 : Int32)) % (67 : Int32))), .val (.int ((p1 &&& (2147483647 : Int32)) % (67 : Int32))), .unset, .unset, .unset, .unset, .unset, .unset, .unset]) (st' := [(.int (((p1 &&& (2147483647 : Int32)) % (67 : Int32)).toUInt32.toUInt16.toUInt32.toInt32))]) rfl ?_
      rw [own_ic (own_r1 p1 hc2)]
      show Steps p.tables e below (s₁.setTop (mkF m 51 #[.val (.int p1), .val (.int p2), .val (.int p3), .val (.int ((p1 &&& (2147483647 : Int32)) % (67 : Int32))), .val (.int ((p1 &&& (2147483647 : Int32)) % (67 : Int32))), .unset, .unset, .unset, .unset, .unset, .unset, .unset] [(.int ((p1 &&& (2147483647 : Int32)) % (67 : Int32)))])) _
      refine own_blk X0 hx bl0_51_1 (own_hb hby bd0_51_1) (pc' := 53) (Ls' := #[.val (.int p1), .val (.int p2), .val (.int p3), .val (.int ((p1 &&& (2147483647 : Int32)) % (67 : Int32))), .val (.int ((p1 &&& (2147483647 : Int32)) % (67 : Int32))), .val (.int ((p1 &&& (2147483647 : Int32)) % (67 : Int32))), .unset, .unset, .unset, .unset, .unset, .unset]) (st' := []) rfl ?_
      refine own_blk X0 hx bl0_53_3 (own_hb hby bd0_53_3) (pc' := 56) (Ls' := #[.val (.int p1), .val (.int p2), .val (.int p3), .val (.int ((p1 &&& (2147483647 : Int32)) % (67 : Int32))), .val (.int ((p1 &&& (2147483647 : Int32)) % (67 : Int32))), .val (.int ((p1 &&& (2147483647 : Int32)) % (67 : Int32))), .unset, .unset, .unset, .unset, .unset, .unset]) (st' := [(.int (p2 &&& (3 : Int32)))]) rfl ?_
      rw [hn]
      show Steps p.tables e below (s₁.setTop (mkF m 56 #[.val (.int p1), .val (.int p2), .val (.int p3), .val (.int ((p1 &&& (2147483647 : Int32)) % (67 : Int32))), .val (.int ((p1 &&& (2147483647 : Int32)) % (67 : Int32))), .val (.int ((p1 &&& (2147483647 : Int32)) % (67 : Int32))), .unset, .unset, .unset, .unset, .unset, .unset] [(.int (2 : Int32))])) _
      refine own_blk X0 hx bl0_56_1 (own_hb hby bd0_56_1) (pc' := 58) (Ls' := #[.val (.int p1), .val (.int p2), .val (.int p3), .val (.int ((p1 &&& (2147483647 : Int32)) % (67 : Int32))), .val (.int ((p1 &&& (2147483647 : Int32)) % (67 : Int32))), .val (.int ((p1 &&& (2147483647 : Int32)) % (67 : Int32))), .val (.int (2 : Int32)), .unset, .unset, .unset, .unset, .unset]) (st' := []) rfl ?_
      exact kt
    obtain ⟨s24, o4, u4a, u4b, u4c, v4, L4, rfl, ⟨rfl, u4d⟩, u4e⟩ := tlA2 p1 p2 p3 ((p1 &&& (2147483647 : Int32)) % (67 : Int32)) ((p1 &&& (2147483647 : Int32)) % (67 : Int32)) w1 cl1 X0 hx hZ hw hby hml hown Bd.returns Bd.notSynchronized e0 N0 Z0 pre3 S_HEX_DIGITS Ar_w1 sz1 hv (own_r1 p1 hc2).1 (own_r1 p1 hc2).2
    exact ⟨s24, _, u4a, u4b, u4c, _, _, rfl, ⟨by rw [f0_2, if_pos hc2], u4d⟩, u4e⟩
  · have pre5 : ∀ t, Steps p.tables e below (s₁.setTop (mkF m 23 #[.val (.int p1), .val (.int p2), .val (.int p3), .val (.int ((p1 &&& (2147483647 : Int32)) % (67 : Int32))), .unset, .unset, .unset, .unset, .unset, .unset, .unset, .unset] [(.int (65 : Int32)), (.int ((p1 &&& (2147483647 : Int32)) % (67 : Int32)))])) t → Steps p.tables e below (s₁.setTop (entryFrame m #[(.int p1), (.int p2), (.int p3)] maxLocals)) t := fun t kt => by
      refine pre1 _ ?_
      show Steps p.tables e below (s₁.setTop (mkF m 11 #[.val (.int p1), .val (.int p2), .val (.int p3), .val (.int ((p1 &&& (2147483647 : Int32)) % (67 : Int32))), .unset, .unset, .unset, .unset, .unset, .unset, .unset, .unset] [(.int (32 : Int32)), (.int ((p1 &&& (2147483647 : Int32)) % (67 : Int32)))])) _
      refine XS.icmpYes X0.here hx rfl (pc0 := 11) (pc' := 20) rfl (hb hby at_11) rfl (flt hc2).2.1 (by decide) (by decide) ?_
      show Steps p.tables e below (s₁.setTop (mkF m 20 #[.val (.int p1), .val (.int p2), .val (.int p3), .val (.int ((p1 &&& (2147483647 : Int32)) % (67 : Int32))), .unset, .unset, .unset, .unset, .unset, .unset, .unset, .unset] [])) _
      refine own_blk X0 hx bl0_20_2 (own_hb hby bd0_20_2) (pc' := 23) (Ls' := #[.val (.int p1), .val (.int p2), .val (.int p3), .val (.int ((p1 &&& (2147483647 : Int32)) % (67 : Int32))), .unset, .unset, .unset, .unset, .unset, .unset, .unset, .unset]) (st' := [(.int (65 : Int32)), (.int ((p1 &&& (2147483647 : Int32)) % (67 : Int32)))]) rfl ?_
      exact kt
    by_cases hc6 : ((p1 &&& (2147483647 : Int32)) % (67 : Int32)) < (65 : Int32)
    · have pre7 : ∀ t, Steps p.tables e below (s₁.setTop (mkF m 58 #[.val (.int p1), .val (.int p2), .val (.int p3), .val (.int ((p1 &&& (2147483647 : Int32)) % (67 : Int32))), .val (.int ((127 : Int32) + (((p1 &&& (2147483647 : Int32)) % (67 : Int32)) - (32 : Int32)))), .val (.int ((127 : Int32) + (((p1 &&& (2147483647 : Int32)) % (67 : Int32)) - (32 : Int32)))), .val (.int (2 : Int32)), .unset, .unset, .unset, .unset, .unset] [])) t → Steps p.tables e below (s₁.setTop (entryFrame m #[(.int p1), (.int p2), (.int p3)] maxLocals)) t := fun t kt => by
        refine pre5 _ ?_
        show Steps p.tables e below (s₁.setTop (mkF m 23 #[.val (.int p1), .val (.int p2), .val (.int p3), .val (.int ((p1 &&& (2147483647 : Int32)) % (67 : Int32))), .unset, .unset, .unset, .unset, .unset, .unset, .unset, .unset] [(.int (65 : Int32)), (.int ((p1 &&& (2147483647 : Int32)) % (67 : Int32)))])) _
        refine XS.icmpNo X0.here hx rfl (hb hby at_23) rfl (tlt hc6).2.1 ?_
        show Steps p.tables e below (s₁.setTop (mkF m 26 #[.val (.int p1), .val (.int p2), .val (.int p3), .val (.int ((p1 &&& (2147483647 : Int32)) % (67 : Int32))), .unset, .unset, .unset, .unset, .unset, .unset, .unset, .unset] [])) _
        refine own_blk X0 hx bl0_26_6 (own_hb hby bd0_26_6) (pc' := 35) (Ls' := #[.val (.int p1), .val (.int p2), .val (.int p3), .val (.int ((p1 &&& (2147483647 : Int32)) % (67 : Int32))), .val (.int ((127 : Int32) + (((p1 &&& (2147483647 : Int32)) % (67 : Int32)) - (32 : Int32)))), .unset, .unset, .unset, .unset, .unset, .unset, .unset]) (st' := []) rfl ?_
        refine own_blk X0 hx bl0_35_3 (own_hb hby bd0_35_3) (pc' := 51) (Ls' := #[.val (.int p1), .val (.int p2), .val (.int p3), .val (.int ((p1 &&& (2147483647 : Int32)) % (67 : Int32))), .val (.int ((127 : Int32) + (((p1 &&& (2147483647 : Int32)) % (67 : Int32)) - (32 : Int32)))), .unset, .unset, .unset, .unset, .unset, .unset, .unset]) (st' := [(.int (((127 : Int32) + (((p1 &&& (2147483647 : Int32)) % (67 : Int32)) - (32 : Int32))).toUInt32.toUInt16.toUInt32.toInt32))]) rfl ?_
        rw [own_ic (own_r2 p1 hc2 hc6)]
        show Steps p.tables e below (s₁.setTop (mkF m 51 #[.val (.int p1), .val (.int p2), .val (.int p3), .val (.int ((p1 &&& (2147483647 : Int32)) % (67 : Int32))), .val (.int ((127 : Int32) + (((p1 &&& (2147483647 : Int32)) % (67 : Int32)) - (32 : Int32)))), .unset, .unset, .unset, .unset, .unset, .unset, .unset] [(.int ((127 : Int32) + (((p1 &&& (2147483647 : Int32)) % (67 : Int32)) - (32 : Int32))))])) _
        refine own_blk X0 hx bl0_51_1 (own_hb hby bd0_51_1) (pc' := 53) (Ls' := #[.val (.int p1), .val (.int p2), .val (.int p3), .val (.int ((p1 &&& (2147483647 : Int32)) % (67 : Int32))), .val (.int ((127 : Int32) + (((p1 &&& (2147483647 : Int32)) % (67 : Int32)) - (32 : Int32)))), .val (.int ((127 : Int32) + (((p1 &&& (2147483647 : Int32)) % (67 : Int32)) - (32 : Int32)))), .unset, .unset, .unset, .unset, .unset, .unset]) (st' := []) rfl ?_
        refine own_blk X0 hx bl0_53_3 (own_hb hby bd0_53_3) (pc' := 56) (Ls' := #[.val (.int p1), .val (.int p2), .val (.int p3), .val (.int ((p1 &&& (2147483647 : Int32)) % (67 : Int32))), .val (.int ((127 : Int32) + (((p1 &&& (2147483647 : Int32)) % (67 : Int32)) - (32 : Int32)))), .val (.int ((127 : Int32) + (((p1 &&& (2147483647 : Int32)) % (67 : Int32)) - (32 : Int32)))), .unset, .unset, .unset, .unset, .unset, .unset]) (st' := [(.int (p2 &&& (3 : Int32)))]) rfl ?_
        rw [hn]
        show Steps p.tables e below (s₁.setTop (mkF m 56 #[.val (.int p1), .val (.int p2), .val (.int p3), .val (.int ((p1 &&& (2147483647 : Int32)) % (67 : Int32))), .val (.int ((127 : Int32) + (((p1 &&& (2147483647 : Int32)) % (67 : Int32)) - (32 : Int32)))), .val (.int ((127 : Int32) + (((p1 &&& (2147483647 : Int32)) % (67 : Int32)) - (32 : Int32)))), .unset, .unset, .unset, .unset, .unset, .unset] [(.int (2 : Int32))])) _
        refine own_blk X0 hx bl0_56_1 (own_hb hby bd0_56_1) (pc' := 58) (Ls' := #[.val (.int p1), .val (.int p2), .val (.int p3), .val (.int ((p1 &&& (2147483647 : Int32)) % (67 : Int32))), .val (.int ((127 : Int32) + (((p1 &&& (2147483647 : Int32)) % (67 : Int32)) - (32 : Int32)))), .val (.int ((127 : Int32) + (((p1 &&& (2147483647 : Int32)) % (67 : Int32)) - (32 : Int32)))), .val (.int (2 : Int32)), .unset, .unset, .unset, .unset, .unset]) (st' := []) rfl ?_
        exact kt
      obtain ⟨s28, o8, u8a, u8b, u8c, v8, L8, rfl, ⟨rfl, u8d⟩, u8e⟩ := tlA2 p1 p2 p3 ((p1 &&& (2147483647 : Int32)) % (67 : Int32)) ((127 : Int32) + (((p1 &&& (2147483647 : Int32)) % (67 : Int32)) - (32 : Int32))) w1 cl1 X0 hx hZ hw hby hml hown Bd.returns Bd.notSynchronized e0 N0 Z0 pre7 S_HEX_DIGITS Ar_w1 sz1 hv (own_r2 p1 hc2 hc6).1 (own_r2 p1 hc2 hc6).2
      exact ⟨s28, _, u8a, u8b, u8c, _, _, rfl, ⟨by rw [f0_2, if_neg hc2, if_pos hc6], u8d⟩, u8e⟩
    · have pre9 : ∀ t, Steps p.tables e below (s₁.setTop (mkF m 58 #[.val (.int p1), .val (.int p2), .val (.int p3), .val (.int ((p1 &&& (2147483647 : Int32)) % (67 : Int32))), .val (.int ((8232 : Int32) + (((p1 &&& (2147483647 : Int32)) % (67 : Int32)) - (65 : Int32)))), .val (.int ((8232 : Int32) + (((p1 &&& (2147483647 : Int32)) % (67 : Int32)) - (65 : Int32)))), .val (.int (2 : Int32)), .unset, .unset, .unset, .unset, .unset] [])) t → Steps p.tables e below (s₁.setTop (entryFrame m #[(.int p1), (.int p2), (.int p3)] maxLocals)) t := fun t kt => by
        refine pre5 _ ?_
        show Steps p.tables e below (s₁.setTop (mkF m 23 #[.val (.int p1), .val (.int p2), .val (.int p3), .val (.int ((p1 &&& (2147483647 : Int32)) % (67 : Int32))), .unset, .unset, .unset, .unset, .unset, .unset, .unset, .unset] [(.int (65 : Int32)), (.int ((p1 &&& (2147483647 : Int32)) % (67 : Int32)))])) _
        refine XS.icmpYes X0.here hx rfl (pc0 := 23) (pc' := 38) rfl (hb hby at_23) rfl (flt hc6).2.1 (by decide) (by decide) ?_
        show Steps p.tables e below (s₁.setTop (mkF m 38 #[.val (.int p1), .val (.int p2), .val (.int p3), .val (.int ((p1 &&& (2147483647 : Int32)) % (67 : Int32))), .unset, .unset, .unset, .unset, .unset, .unset, .unset, .unset] [])) _
        refine own_blk X0 hx bl0_38_6 (own_hb hby bd0_38_6) (pc' := 48) (Ls' := #[.val (.int p1), .val (.int p2), .val (.int p3), .val (.int ((p1 &&& (2147483647 : Int32)) % (67 : Int32))), .val (.int ((8232 : Int32) + (((p1 &&& (2147483647 : Int32)) % (67 : Int32)) - (65 : Int32)))), .unset, .unset, .unset, .unset, .unset, .unset, .unset]) (st' := []) rfl ?_
        refine own_blk X0 hx bl0_48_2 (own_hb hby bd0_48_2) (pc' := 51) (Ls' := #[.val (.int p1), .val (.int p2), .val (.int p3), .val (.int ((p1 &&& (2147483647 : Int32)) % (67 : Int32))), .val (.int ((8232 : Int32) + (((p1 &&& (2147483647 : Int32)) % (67 : Int32)) - (65 : Int32)))), .unset, .unset, .unset, .unset, .unset, .unset, .unset]) (st' := [(.int (((8232 : Int32) + (((p1 &&& (2147483647 : Int32)) % (67 : Int32)) - (65 : Int32))).toUInt32.toUInt16.toUInt32.toInt32))]) rfl ?_
        rw [own_ic (own_r3 p1 hc6)]
        show Steps p.tables e below (s₁.setTop (mkF m 51 #[.val (.int p1), .val (.int p2), .val (.int p3), .val (.int ((p1 &&& (2147483647 : Int32)) % (67 : Int32))), .val (.int ((8232 : Int32) + (((p1 &&& (2147483647 : Int32)) % (67 : Int32)) - (65 : Int32)))), .unset, .unset, .unset, .unset, .unset, .unset, .unset] [(.int ((8232 : Int32) + (((p1 &&& (2147483647 : Int32)) % (67 : Int32)) - (65 : Int32))))])) _
        refine own_blk X0 hx bl0_51_1 (own_hb hby bd0_51_1) (pc' := 53) (Ls' := #[.val (.int p1), .val (.int p2), .val (.int p3), .val (.int ((p1 &&& (2147483647 : Int32)) % (67 : Int32))), .val (.int ((8232 : Int32) + (((p1 &&& (2147483647 : Int32)) % (67 : Int32)) - (65 : Int32)))), .val (.int ((8232 : Int32) + (((p1 &&& (2147483647 : Int32)) % (67 : Int32)) - (65 : Int32)))), .unset, .unset, .unset, .unset, .unset, .unset]) (st' := []) rfl ?_
        refine own_blk X0 hx bl0_53_3 (own_hb hby bd0_53_3) (pc' := 56) (Ls' := #[.val (.int p1), .val (.int p2), .val (.int p3), .val (.int ((p1 &&& (2147483647 : Int32)) % (67 : Int32))), .val (.int ((8232 : Int32) + (((p1 &&& (2147483647 : Int32)) % (67 : Int32)) - (65 : Int32)))), .val (.int ((8232 : Int32) + (((p1 &&& (2147483647 : Int32)) % (67 : Int32)) - (65 : Int32)))), .unset, .unset, .unset, .unset, .unset, .unset]) (st' := [(.int (p2 &&& (3 : Int32)))]) rfl ?_
        rw [hn]
        show Steps p.tables e below (s₁.setTop (mkF m 56 #[.val (.int p1), .val (.int p2), .val (.int p3), .val (.int ((p1 &&& (2147483647 : Int32)) % (67 : Int32))), .val (.int ((8232 : Int32) + (((p1 &&& (2147483647 : Int32)) % (67 : Int32)) - (65 : Int32)))), .val (.int ((8232 : Int32) + (((p1 &&& (2147483647 : Int32)) % (67 : Int32)) - (65 : Int32)))), .unset, .unset, .unset, .unset, .unset, .unset] [(.int (2 : Int32))])) _
        refine own_blk X0 hx bl0_56_1 (own_hb hby bd0_56_1) (pc' := 58) (Ls' := #[.val (.int p1), .val (.int p2), .val (.int p3), .val (.int ((p1 &&& (2147483647 : Int32)) % (67 : Int32))), .val (.int ((8232 : Int32) + (((p1 &&& (2147483647 : Int32)) % (67 : Int32)) - (65 : Int32)))), .val (.int ((8232 : Int32) + (((p1 &&& (2147483647 : Int32)) % (67 : Int32)) - (65 : Int32)))), .val (.int (2 : Int32)), .unset, .unset, .unset, .unset, .unset]) (st' := []) rfl ?_
        exact kt
      obtain ⟨s210, o10, u10a, u10b, u10c, v10, L10, rfl, ⟨rfl, u10d⟩, u10e⟩ := tlA2 p1 p2 p3 ((p1 &&& (2147483647 : Int32)) % (67 : Int32)) ((8232 : Int32) + (((p1 &&& (2147483647 : Int32)) % (67 : Int32)) - (65 : Int32))) w1 cl1 X0 hx hZ hw hby hml hown Bd.returns Bd.notSynchronized e0 N0 Z0 pre9 S_HEX_DIGITS Ar_w1 sz1 hv (own_r3 p1 hc6).1 (own_r3 p1 hc6).2
      exact ⟨s210, _, u10a, u10b, u10c, _, _, rfl, ⟨by rw [f0_2, if_neg hc2, if_neg hc6], u10d⟩, u10e⟩
theorem own_law2 (a b c : Int32) : f0_2 a b c = 1 := by
  unfold f0_2 fA2 fB2
  simp only [ite_self]

def f1_3 (p1 : Int32) (u : Int32) : Int32 := (if p1 = (8 : Int32) then (5 : Int32) else (if p1 = (9 : Int32) then (5 : Int32) else (if p1 = (10 : Int32) then (5 : Int32) else (if p1 = (11 : Int32) then (9 : Int32) else (if p1 = (12 : Int32) then (5 : Int32) else (if p1 = (13 : Int32) then (5 : Int32) else (9 : Int32)))))))
def f1_3_a2_0 (p1 : Int32) (u : Int32) : Int32 := u
def f1_3_a2_1 (p1 : Int32) (u : Int32) : Int32 := u
def f1_3_a2_2 (p1 : Int32) (u : Int32) : Int32 := u
def f1_3_a2_3 (p1 : Int32) (u : Int32) : Int32 := (nar .byte (92 : Int32))
def f1_3_a2_4 (p1 : Int32) (u : Int32) : Int32 := (if p1 = (8 : Int32) then (nar .byte (98 : Int32)) else (if p1 = (9 : Int32) then (nar .byte (116 : Int32)) else (if p1 = (10 : Int32) then (nar .byte (110 : Int32)) else (if p1 = (11 : Int32) then (nar .byte (117 : Int32)) else (if p1 = (12 : Int32) then (nar .byte (102 : Int32)) else (if p1 = (13 : Int32) then (nar .byte (114 : Int32)) else (nar .byte (117 : Int32))))))))
def f1_3_a2_5 (p1 : Int32) (u : Int32) : Int32 := (if p1 = (8 : Int32) then u else (if p1 = (9 : Int32) then u else (if p1 = (10 : Int32) then u else (if p1 = (11 : Int32) then (nar .byte (own_tab (p1 >>> ((12 : Int32) &&& 31)))) else (if p1 = (12 : Int32) then u else (if p1 = (13 : Int32) then u else (nar .byte (own_tab (p1 >>> ((12 : Int32) &&& 31))))))))))
def f1_3_a2_6 (p1 : Int32) (u : Int32) : Int32 := (if p1 = (8 : Int32) then u else (if p1 = (9 : Int32) then u else (if p1 = (10 : Int32) then u else (if p1 = (11 : Int32) then (nar .byte (own_tab ((p1 >>> ((8 : Int32) &&& 31)) &&& (15 : Int32)))) else (if p1 = (12 : Int32) then u else (if p1 = (13 : Int32) then u else (nar .byte (own_tab ((p1 >>> ((8 : Int32) &&& 31)) &&& (15 : Int32))))))))))
def f1_3_a2_7 (p1 : Int32) (u : Int32) : Int32 := (if p1 = (8 : Int32) then u else (if p1 = (9 : Int32) then u else (if p1 = (10 : Int32) then u else (if p1 = (11 : Int32) then (nar .byte (own_tab ((p1 >>> ((4 : Int32) &&& 31)) &&& (15 : Int32)))) else (if p1 = (12 : Int32) then u else (if p1 = (13 : Int32) then u else (nar .byte (own_tab ((p1 >>> ((4 : Int32) &&& 31)) &&& (15 : Int32))))))))))
def f1_3_a2_8 (p1 : Int32) (u : Int32) : Int32 := (if p1 = (8 : Int32) then u else (if p1 = (9 : Int32) then u else (if p1 = (10 : Int32) then u else (if p1 = (11 : Int32) then (nar .byte (own_tab (p1 &&& (15 : Int32)))) else (if p1 = (12 : Int32) then u else (if p1 = (13 : Int32) then u else (nar .byte (own_tab (p1 &&& (15 : Int32))))))))))
def f1_3_a2_9 (p1 : Int32) (u : Int32) : Int32 := u
def Q1_3 (Z : State) (p1 : Int32) (a2 : Addr) (u : Int32) (w1 : Addr) (cl1 : Cell) (k_a2 : ClassId) (h0 : Heap) (n0 : Nat) (v : Option Value) (h : Heap) (L : List Loc) : Prop := v = some (.int (f1_3 p1 u)) ∧ Fr n0 L ∧ Keep h0 h [a2] ∧ Arv Z h a2 k_a2 .byte (10 : Int32) [(.int (f1_3_a2_0 p1 u)), (.int (f1_3_a2_1 p1 u)), (.int (f1_3_a2_2 p1 u)), (.int (f1_3_a2_3 p1 u)), (.int (f1_3_a2_4 p1 u)), (.int (f1_3_a2_5 p1 u)), (.int (f1_3_a2_6 p1 u)), (.int (f1_3_a2_7 p1 u)), (.int (f1_3_a2_8 p1 u)), (.int (f1_3_a2_9 p1 u))] (.int (0 : Int32))
set_option maxRecDepth 65536 in
set_option maxHeartbeats 40000000 in
theorem rm1_3 (l : Launch) (Z : State) (a0 : Array Value) (hw : ∀ d ∈ tables_1, d.before a0 Z = true) (ws : List Jvm.Cond) (p1 : Int32) (a2 : Addr) (u : Int32) (w1 : Addr) (cl1 : Cell) (k_a2 : ClassId) (h0 : Heap) (n0 : Nat) (Z0 : n0 ≤ h0.size) (V_a2 : Arv Z h0 a2 k_a2 .byte (10 : Int32) [(.int u), (.int u), (.int u), (.int u), (.int u), (.int u), (.int u), (.int u), (.int u), (.int u)] (.int (0 : Int32))) (g_a2 : n0 ≤ a2) (S_HEX_DIGITS : Sta Z h0 "com/example/endcon/endcon/rules/LineText" "HEX_DIGITS" "[B" (.ref w1)) (ne_w1_a2 : w1 ≠ a2) (Ar_w1 : Arr Z h0 w1 cl1 .byte) (sz1 : cl1.slots.size = (16 : Int32).toNatClampNeg) (hv : ∀ j : Int32, ¬ j < 0 → j < 16 → cl1.slots[j.toNatClampNeg]? = some (.int (own_tab j))) (hp : ¬ (p1 < 0)) (hp2 : p1 < 65536) :
    MetFree l (⟨"com/example/endcon/endcon/rules/LineText", "escape", "(C[BI)I"⟩ : MethodName) (head1 (Jvm.Cond.code (⟨"com/example/endcon/endcon/rules/LineText", "escape", "(C[BI)I"⟩ : MethodName) prog_84_method_3_code 5 (some .int) :: ws) ({ frames := 0, cells := 0, slots := 0, locals := 0 } : Room)) (fun a U => a = #[(.int p1), (.ref a2), (.int (3 : Int32))] ∧ Z.Warmed39 U.vm ∧ U.heap = h0) (fun _ _ _ _ _ => True) (fun _ U o U' => ∃ v L, o = .returned v ∧ Q1_3 Z p1 a2 u w1 cl1 k_a2 h0 n0 v U'.heap L ∧ FrameEnd U o U' L ({ frames := 0, cells := 0, slots := 0, locals := 0 } : Room).cells ({ frames := 0, cells := 0, slots := 0, locals := 0 } : Room).slots) := by
  refine MetFree.of_bodySF (plainFor_of_name pn_1) hisR ?_
  intro p e s m args below meth c s₁ Bd hml0 hP hK
  obtain ⟨rfl, hZ, hh⟩ := hP
  have hx := Bd.exec
  have hby := Bd.bytes
  have hml : c.maxLocals = 5 := hml0
  have hown : s.vm.findClass "com/example/endcon/endcon/rules/LineText" = some m.cls := findClass_of_methodNamed Bd.named
  have hnm := (name_of_methodNamed Bd.named Bd.method).1
  have X0 : Stand p l e ({ frames := 0, cells := 0, slots := 0, locals := 0 } : Room) s m #[(.int p1), (.ref a2), (.int (3 : Int32))] below meth c s₁ [] 0 0 := Stand.of_body Bd
  have e0 : s₁.heap = h0 := by rw [← hh, Bd.state]; rfl
  have N0 := Fr.nil n0
  have pre0 : ∀ t, Steps p.tables e below (s₁.setTop (mkF m 0 #[.val (.int p1), .val (.ref a2), .val (.int (3 : Int32)), .unset, .unset] [])) t → Steps p.tables e below (s₁.setTop (entryFrame m #[(.int p1), (.ref a2), (.int (3 : Int32))] 5)) t := fun t k => castTop (ef_1 m p1 a2 (3 : Int32)) k
  obtain ⟨cx1, Ar1, qq1, S1, N1_, H1, G1⟩ := id V_a2
  have hin1 : ¬ ((3 : Int32) < 0 ∨ cx1.slots.size ≤ ((3 : Int32)).toNatClampNeg) := inb_of S1 ⟨by decide, by decide⟩
  obtain ⟨T1, h1, X1, e1, W1, st1⟩ := stB X0 hx hZ e0 Ar1 (j := (3 : Int32)) hin1 (g := (mkF m 4 #[.val (.int p1), .val (.ref a2), .val (.int (3 : Int32)), .unset, .unset] [(.int (92 : Int32)), (.int (3 : Int32)), (.ref a2)])) rfl rfl (hb hby d1_4)
  have V1 : Arv Z h1 a2 k_a2 .byte (10 : Int32) [(.int u), (.int u), (.int u), (.int (nar .byte (92 : Int32))), (.int u), (.int u), (.int u), (.int u), (.int u), (.int u)] (.int (0 : Int32)) := Arv.set Ar1 qq1 S1 N1_ H1 G1 (fits_nar_byte _) W1 3 rfl (Nat.le_of_ble_eq_true rfl)
  have zs2 : n0 ≤ h1.size := Nat.le_trans Z0 (Keep.of_wr W1).1
  have kp3 : Keep h0 h1 [a2] := (Keep.refl h0 [a2]).wr W1 (Or.inl (List.mem_of_getElem? (i := 0) rfl))
  have N1 := Fr.snoc X1 N0 g_a2
  have pre4 : ∀ t, Steps p.tables e below (T1.setTop (mkF m 6 #[.val (.int p1), .val (.ref a2), .val (.int (3 : Int32)), .unset, .unset] [(.int p1)])) t → Steps p.tables e below (s₁.setTop (entryFrame m #[(.int p1), (.ref a2), (.int (3 : Int32))] 5)) t := fun t kt => by
    refine pre0 _ ?_
    show Steps p.tables e below (s₁.setTop (mkF m 0 #[.val (.int p1), .val (.ref a2), .val (.int (3 : Int32)), .unset, .unset] [])) _
    refine own_blk X0 hx bl1_0_3 (own_hb hby bd1_0_3) (pc' := 4) (Ls' := #[.val (.int p1), .val (.ref a2), .val (.int (3 : Int32)), .unset, .unset]) (st' := [(.int (92 : Int32)), (.int (3 : Int32)), (.ref a2)]) rfl ?_
    refine st1 _ ?_
    show Steps p.tables e below (T1.setTop (mkF m 5 #[.val (.int p1), .val (.ref a2), .val (.int (3 : Int32)), .unset, .unset] [])) _
    refine own_blk X1 hx bl1_5_1 (own_hb hby bd1_5_1) (pc' := 6) (Ls' := #[.val (.int p1), .val (.ref a2), .val (.int (3 : Int32)), .unset, .unset]) (st' := [(.int p1)]) rfl ?_
    exact kt
  by_cases hc5 : p1 = (8 : Int32)
  · obtain ⟨cx6, Ar6, qq6, S6, N6_, H6, G6⟩ := id V1
    have hin6 : ¬ ((4 : Int32) < 0 ∨ cx6.slots.size ≤ ((4 : Int32)).toNatClampNeg) := inb_of S6 ⟨by decide, by decide⟩
    obtain ⟨T6, h6, X6, e6, W6, st6⟩ := stB X1 hx hZ e1 Ar6 (j := (4 : Int32)) hin6 (g := (mkF m 80 #[.val (.int p1), .val (.ref a2), .val (.int (3 : Int32)), .val (.int (98 : Int32)), .unset] [(.int (98 : Int32)), (.int (4 : Int32)), (.ref a2)])) rfl rfl (hb hby d1_80)
    have V6 : Arv Z h6 a2 k_a2 .byte (10 : Int32) [(.int u), (.int u), (.int u), (.int (nar .byte (92 : Int32))), (.int (nar .byte (98 : Int32))), (.int u), (.int u), (.int u), (.int u), (.int u)] (.int (0 : Int32)) := Arv.set Ar6 qq6 S6 N6_ H6 G6 (fits_nar_byte _) W6 4 rfl (Nat.le_of_ble_eq_true rfl)
    have zs7 : n0 ≤ h6.size := Nat.le_trans zs2 (Keep.of_wr W6).1
    have kp8 : Keep h0 h6 [a2] := kp3.wr W6 (Or.inl (List.mem_of_getElem? (i := 0) rfl))
    have N6 := Fr.snoc X6 N1 g_a2
    obtain ⟨fs, hr, hrun, hended, hW, hsame⟩ := X6.leave (v := some (.int (5 : Int32))) (fun h => by rw [Bd.returns] at h; cases h)
    refine ⟨_, _, pre4 _ ?_, hrun, hended, _, _, rfl, ?_, ⟨_, rfl⟩, hW, hsame.mono (by decide) (by decide)⟩
    · show Steps p.tables e below (T1.setTop (mkF m 6 #[.val (.int p1), .val (.ref a2), .val (.int (3 : Int32)), .unset, .unset] [(.int p1)])) _
      refine XS.tswIn X1.here hx rfl (pc0 := 6) (pc' := 44) (o := 38) rfl (hb hby d1_6) rfl (by rw [hc5]; decide) (by rw [hc5]; rfl) (by decide) (by decide) ?_
      show Steps p.tables e below (T1.setTop (mkF m 44 #[.val (.int p1), .val (.ref a2), .val (.int (3 : Int32)), .unset, .unset] [])) _
      refine own_blk X1 hx bl1_44_3 (own_hb hby bd1_44_3) (pc' := 71) (Ls' := #[.val (.int p1), .val (.ref a2), .val (.int (3 : Int32)), .val (.int (98 : Int32)), .unset]) (st' := []) rfl ?_
      refine own_blk X1 hx bl1_71_1 (own_hb hby bd1_71_1) (pc' := 72) (Ls' := #[.val (.int p1), .val (.ref a2), .val (.int (3 : Int32)), .val (.int (98 : Int32)), .unset]) (st' := [(.int (98 : Int32))]) rfl ?_
      refine XS.ifNo X1.here hx rfl (hb hby d1_72) rfl ((if0 _ _).trans (feq (by decide : ¬ ((98 : Int32) = (0 : Int32)))).1) ?_
      show Steps p.tables e below (T1.setTop (mkF m 75 #[.val (.int p1), .val (.ref a2), .val (.int (3 : Int32)), .val (.int (98 : Int32)), .unset] [])) _
      refine own_blk X1 hx bl1_75_5 (own_hb hby bd1_75_5) (pc' := 80) (Ls' := #[.val (.int p1), .val (.ref a2), .val (.int (3 : Int32)), .val (.int (98 : Int32)), .unset]) (st' := [(.int (98 : Int32)), (.int (4 : Int32)), (.ref a2)]) rfl ?_
      refine st6 _ ?_
      show Steps p.tables e below (T6.setTop (mkF m 81 #[.val (.int p1), .val (.ref a2), .val (.int (3 : Int32)), .val (.int (98 : Int32)), .unset] [])) _
      refine own_blk X6 hx bl1_81_4 (own_hb hby bd1_81_4) (pc' := 86) (Ls' := #[.val (.int p1), .val (.ref a2), .val (.int (3 : Int32)), .val (.int (98 : Int32)), .val (.int (5 : Int32))]) (st' := []) rfl ?_
      refine own_blk X6 hx bl1_86_2 (own_hb hby bd1_86_2) (pc' := 161) (Ls' := #[.val (.int p1), .val (.ref a2), .val (.int (3 : Int32)), .val (.int (98 : Int32)), .val (.int (5 : Int32))]) (st' := [(.int (5 : Int32))]) rfl ?_
      exact retI X6 hx Bd.returns (hb hby d1_161) hr
    · show Q1_3 Z p1 a2 u w1 cl1 k_a2 h0 n0 _ T6.heap _
      rw [e6]
      have lf9 : Arv Z h6 a2 k_a2 .byte (10 : Int32) [(.int (f1_3_a2_0 p1 u)), (.int (f1_3_a2_1 p1 u)), (.int (f1_3_a2_2 p1 u)), (.int (f1_3_a2_3 p1 u)), (.int (f1_3_a2_4 p1 u)), (.int (f1_3_a2_5 p1 u)), (.int (f1_3_a2_6 p1 u)), (.int (f1_3_a2_7 p1 u)), (.int (f1_3_a2_8 p1 u)), (.int (f1_3_a2_9 p1 u))] (.int (0 : Int32)) := by simp only [f1_3_a2_0, f1_3_a2_1, f1_3_a2_2, f1_3_a2_3, f1_3_a2_4, f1_3_a2_5, f1_3_a2_6, f1_3_a2_7, f1_3_a2_8, f1_3_a2_9, if_pos hc5]; exact V6
      exact ⟨by rw [f1_3, if_pos hc5], N6, kp8, lf9⟩
  · by_cases hc10 : p1 = (9 : Int32)
    · obtain ⟨cx11, Ar11, qq11, S11, N11_, H11, G11⟩ := id V1
      have hin11 : ¬ ((4 : Int32) < 0 ∨ cx11.slots.size ≤ ((4 : Int32)).toNatClampNeg) := inb_of S11 ⟨by decide, by decide⟩
      obtain ⟨T11, h11, X11, e11, W11, st11⟩ := stB X1 hx hZ e1 Ar11 (j := (4 : Int32)) hin11 (g := (mkF m 80 #[.val (.int p1), .val (.ref a2), .val (.int (3 : Int32)), .val (.int (116 : Int32)), .unset] [(.int (116 : Int32)), (.int (4 : Int32)), (.ref a2)])) rfl rfl (hb hby d1_80)
      have V11 : Arv Z h11 a2 k_a2 .byte (10 : Int32) [(.int u), (.int u), (.int u), (.int (nar .byte (92 : Int32))), (.int (nar .byte (116 : Int32))), (.int u), (.int u), (.int u), (.int u), (.int u)] (.int (0 : Int32)) := Arv.set Ar11 qq11 S11 N11_ H11 G11 (fits_nar_byte _) W11 4 rfl (Nat.le_of_ble_eq_true rfl)
      have zs12 : n0 ≤ h11.size := Nat.le_trans zs2 (Keep.of_wr W11).1
      have kp13 : Keep h0 h11 [a2] := kp3.wr W11 (Or.inl (List.mem_of_getElem? (i := 0) rfl))
      have N11 := Fr.snoc X11 N1 g_a2
      obtain ⟨fs, hr, hrun, hended, hW, hsame⟩ := X11.leave (v := some (.int (5 : Int32))) (fun h => by rw [Bd.returns] at h; cases h)
      refine ⟨_, _, pre4 _ ?_, hrun, hended, _, _, rfl, ?_, ⟨_, rfl⟩, hW, hsame.mono (by decide) (by decide)⟩
      · show Steps p.tables e below (T1.setTop (mkF m 6 #[.val (.int p1), .val (.ref a2), .val (.int (3 : Int32)), .unset, .unset] [(.int p1)])) _
        refine XS.tswIn X1.here hx rfl (pc0 := 6) (pc' := 49) (o := 43) rfl (hb hby d1_6) rfl (by rw [hc10]; decide) (by rw [hc10]; rfl) (by decide) (by decide) ?_
        show Steps p.tables e below (T1.setTop (mkF m 49 #[.val (.int p1), .val (.ref a2), .val (.int (3 : Int32)), .unset, .unset] [])) _
        refine own_blk X1 hx bl1_49_3 (own_hb hby bd1_49_3) (pc' := 71) (Ls' := #[.val (.int p1), .val (.ref a2), .val (.int (3 : Int32)), .val (.int (116 : Int32)), .unset]) (st' := []) rfl ?_
        refine own_blk X1 hx bl1_71_1 (own_hb hby bd1_71_1) (pc' := 72) (Ls' := #[.val (.int p1), .val (.ref a2), .val (.int (3 : Int32)), .val (.int (116 : Int32)), .unset]) (st' := [(.int (116 : Int32))]) rfl ?_
        refine XS.ifNo X1.here hx rfl (hb hby d1_72) rfl ((if0 _ _).trans (feq (by decide : ¬ ((116 : Int32) = (0 : Int32)))).1) ?_
        show Steps p.tables e below (T1.setTop (mkF m 75 #[.val (.int p1), .val (.ref a2), .val (.int (3 : Int32)), .val (.int (116 : Int32)), .unset] [])) _
        refine own_blk X1 hx bl1_75_5 (own_hb hby bd1_75_5) (pc' := 80) (Ls' := #[.val (.int p1), .val (.ref a2), .val (.int (3 : Int32)), .val (.int (116 : Int32)), .unset]) (st' := [(.int (116 : Int32)), (.int (4 : Int32)), (.ref a2)]) rfl ?_
        refine st11 _ ?_
        show Steps p.tables e below (T11.setTop (mkF m 81 #[.val (.int p1), .val (.ref a2), .val (.int (3 : Int32)), .val (.int (116 : Int32)), .unset] [])) _
        refine own_blk X11 hx bl1_81_4 (own_hb hby bd1_81_4) (pc' := 86) (Ls' := #[.val (.int p1), .val (.ref a2), .val (.int (3 : Int32)), .val (.int (116 : Int32)), .val (.int (5 : Int32))]) (st' := []) rfl ?_
        refine own_blk X11 hx bl1_86_2 (own_hb hby bd1_86_2) (pc' := 161) (Ls' := #[.val (.int p1), .val (.ref a2), .val (.int (3 : Int32)), .val (.int (116 : Int32)), .val (.int (5 : Int32))]) (st' := [(.int (5 : Int32))]) rfl ?_
        exact retI X11 hx Bd.returns (hb hby d1_161) hr
      · show Q1_3 Z p1 a2 u w1 cl1 k_a2 h0 n0 _ T11.heap _
        rw [e11]
        have lf14 : Arv Z h11 a2 k_a2 .byte (10 : Int32) [(.int (f1_3_a2_0 p1 u)), (.int (f1_3_a2_1 p1 u)), (.int (f1_3_a2_2 p1 u)), (.int (f1_3_a2_3 p1 u)), (.int (f1_3_a2_4 p1 u)), (.int (f1_3_a2_5 p1 u)), (.int (f1_3_a2_6 p1 u)), (.int (f1_3_a2_7 p1 u)), (.int (f1_3_a2_8 p1 u)), (.int (f1_3_a2_9 p1 u))] (.int (0 : Int32)) := by simp only [f1_3_a2_0, f1_3_a2_1, f1_3_a2_2, f1_3_a2_3, f1_3_a2_4, f1_3_a2_5, f1_3_a2_6, f1_3_a2_7, f1_3_a2_8, f1_3_a2_9, if_neg hc5, if_pos hc10]; exact V11
        exact ⟨by rw [f1_3, if_neg hc5, if_pos hc10], N11, kp13, lf14⟩
    · by_cases hc15 : p1 = (10 : Int32)
      · obtain ⟨cx16, Ar16, qq16, S16, N16_, H16, G16⟩ := id V1
        have hin16 : ¬ ((4 : Int32) < 0 ∨ cx16.slots.size ≤ ((4 : Int32)).toNatClampNeg) := inb_of S16 ⟨by decide, by decide⟩
        obtain ⟨T16, h16, X16, e16, W16, st16⟩ := stB X1 hx hZ e1 Ar16 (j := (4 : Int32)) hin16 (g := (mkF m 80 #[.val (.int p1), .val (.ref a2), .val (.int (3 : Int32)), .val (.int (110 : Int32)), .unset] [(.int (110 : Int32)), (.int (4 : Int32)), (.ref a2)])) rfl rfl (hb hby d1_80)
        have V16 : Arv Z h16 a2 k_a2 .byte (10 : Int32) [(.int u), (.int u), (.int u), (.int (nar .byte (92 : Int32))), (.int (nar .byte (110 : Int32))), (.int u), (.int u), (.int u), (.int u), (.int u)] (.int (0 : Int32)) := Arv.set Ar16 qq16 S16 N16_ H16 G16 (fits_nar_byte _) W16 4 rfl (Nat.le_of_ble_eq_true rfl)
        have zs17 : n0 ≤ h16.size := Nat.le_trans zs2 (Keep.of_wr W16).1
        have kp18 : Keep h0 h16 [a2] := kp3.wr W16 (Or.inl (List.mem_of_getElem? (i := 0) rfl))
        have N16 := Fr.snoc X16 N1 g_a2
        obtain ⟨fs, hr, hrun, hended, hW, hsame⟩ := X16.leave (v := some (.int (5 : Int32))) (fun h => by rw [Bd.returns] at h; cases h)
        refine ⟨_, _, pre4 _ ?_, hrun, hended, _, _, rfl, ?_, ⟨_, rfl⟩, hW, hsame.mono (by decide) (by decide)⟩
        · show Steps p.tables e below (T1.setTop (mkF m 6 #[.val (.int p1), .val (.ref a2), .val (.int (3 : Int32)), .unset, .unset] [(.int p1)])) _
          refine XS.tswIn X1.here hx rfl (pc0 := 6) (pc' := 54) (o := 48) rfl (hb hby d1_6) rfl (by rw [hc15]; decide) (by rw [hc15]; rfl) (by decide) (by decide) ?_
          show Steps p.tables e below (T1.setTop (mkF m 54 #[.val (.int p1), .val (.ref a2), .val (.int (3 : Int32)), .unset, .unset] [])) _
          refine own_blk X1 hx bl1_54_3 (own_hb hby bd1_54_3) (pc' := 71) (Ls' := #[.val (.int p1), .val (.ref a2), .val (.int (3 : Int32)), .val (.int (110 : Int32)), .unset]) (st' := []) rfl ?_
          refine own_blk X1 hx bl1_71_1 (own_hb hby bd1_71_1) (pc' := 72) (Ls' := #[.val (.int p1), .val (.ref a2), .val (.int (3 : Int32)), .val (.int (110 : Int32)), .unset]) (st' := [(.int (110 : Int32))]) rfl ?_
          refine XS.ifNo X1.here hx rfl (hb hby d1_72) rfl ((if0 _ _).trans (feq (by decide : ¬ ((110 : Int32) = (0 : Int32)))).1) ?_
          show Steps p.tables e below (T1.setTop (mkF m 75 #[.val (.int p1), .val (.ref a2), .val (.int (3 : Int32)), .val (.int (110 : Int32)), .unset] [])) _
          refine own_blk X1 hx bl1_75_5 (own_hb hby bd1_75_5) (pc' := 80) (Ls' := #[.val (.int p1), .val (.ref a2), .val (.int (3 : Int32)), .val (.int (110 : Int32)), .unset]) (st' := [(.int (110 : Int32)), (.int (4 : Int32)), (.ref a2)]) rfl ?_
          refine st16 _ ?_
          show Steps p.tables e below (T16.setTop (mkF m 81 #[.val (.int p1), .val (.ref a2), .val (.int (3 : Int32)), .val (.int (110 : Int32)), .unset] [])) _
          refine own_blk X16 hx bl1_81_4 (own_hb hby bd1_81_4) (pc' := 86) (Ls' := #[.val (.int p1), .val (.ref a2), .val (.int (3 : Int32)), .val (.int (110 : Int32)), .val (.int (5 : Int32))]) (st' := []) rfl ?_
          refine own_blk X16 hx bl1_86_2 (own_hb hby bd1_86_2) (pc' := 161) (Ls' := #[.val (.int p1), .val (.ref a2), .val (.int (3 : Int32)), .val (.int (110 : Int32)), .val (.int (5 : Int32))]) (st' := [(.int (5 : Int32))]) rfl ?_
          exact retI X16 hx Bd.returns (hb hby d1_161) hr
        · show Q1_3 Z p1 a2 u w1 cl1 k_a2 h0 n0 _ T16.heap _
          rw [e16]
          have lf19 : Arv Z h16 a2 k_a2 .byte (10 : Int32) [(.int (f1_3_a2_0 p1 u)), (.int (f1_3_a2_1 p1 u)), (.int (f1_3_a2_2 p1 u)), (.int (f1_3_a2_3 p1 u)), (.int (f1_3_a2_4 p1 u)), (.int (f1_3_a2_5 p1 u)), (.int (f1_3_a2_6 p1 u)), (.int (f1_3_a2_7 p1 u)), (.int (f1_3_a2_8 p1 u)), (.int (f1_3_a2_9 p1 u))] (.int (0 : Int32)) := by simp only [f1_3_a2_0, f1_3_a2_1, f1_3_a2_2, f1_3_a2_3, f1_3_a2_4, f1_3_a2_5, f1_3_a2_6, f1_3_a2_7, f1_3_a2_8, f1_3_a2_9, if_neg hc5, if_neg hc10, if_pos hc15]; exact V16
          exact ⟨by rw [f1_3, if_neg hc5, if_neg hc10, if_pos hc15], N16, kp18, lf19⟩
      · by_cases hc20 : p1 = (11 : Int32)
        · obtain ⟨cx21, Ar21, qq21, S21, N21_, H21, G21⟩ := id V1
          have hin21 : ¬ ((4 : Int32) < 0 ∨ cx21.slots.size ≤ ((4 : Int32)).toNatClampNeg) := inb_of S21 ⟨by decide, by decide⟩
          obtain ⟨T21, h21, X21, e21, W21, st21⟩ := stB X1 hx hZ e1 Ar21 (j := (4 : Int32)) hin21 (g := (mkF m 95 #[.val (.int p1), .val (.ref a2), .val (.int (3 : Int32)), .val (.int (0 : Int32)), .unset] [(.int (117 : Int32)), (.int (4 : Int32)), (.ref a2)])) rfl rfl (hb hby d1_95)
          have V21 : Arv Z h21 a2 k_a2 .byte (10 : Int32) [(.int u), (.int u), (.int u), (.int (nar .byte (92 : Int32))), (.int (nar .byte (117 : Int32))), (.int u), (.int u), (.int u), (.int u), (.int u)] (.int (0 : Int32)) := Arv.set Ar21 qq21 S21 N21_ H21 G21 (fits_nar_byte _) W21 4 rfl (Nat.le_of_ble_eq_true rfl)
          have zs22 : n0 ≤ h21.size := Nat.le_trans zs2 (Keep.of_wr W21).1
          have kp23 : Keep h0 h21 [a2] := kp3.wr W21 (Or.inl (List.mem_of_getElem? (i := 0) rfl))
          have N21 := Fr.snoc X21 N1 g_a2
          have fa24 : Sta Z h21 "com/example/endcon/endcon/rules/LineText" "HEX_DIGITS" "[B" (.ref w1) := ((S_HEX_DIGITS.wr W1).wr W21)
          obtain ⟨T25, X25, e25, st25⟩ := getS2 X21 hx hZ hown (host := "") (Or.inl (hw _ (List.mem_of_getElem? (i := 6) rfl))) Via.refl e21 fa24 (g := (mkF m 100 #[.val (.int p1), .val (.ref a2), .val (.int (3 : Int32)), .val (.int (0 : Int32)), .unset] [(.int (5 : Int32)), (.ref a2)])) rfl (hb hby d1_100)
          have fa27 : Arr Z h21 w1 cl1 .byte := ((Ar_w1.other W1 ne_w1_a2).other W21 ne_w1_a2)
          have hin26 : ¬ ((p1 >>> ((12 : Int32) &&& 31)) < 0 ∨ cl1.slots.size ≤ ((p1 >>> ((12 : Int32) &&& 31))).toNatClampNeg) := inb_of sz1 (own_sh12 p1 hp hp2)
          have hat26 := hv _ (own_sh12 p1 hp hp2).1 (own_sh12 p1 hp hp2).2
          obtain ⟨cx28, Ar28, qq28, S28, N28_, H28, G28⟩ := id V21
          have hin28 : ¬ ((5 : Int32) < 0 ∨ cx28.slots.size ≤ ((5 : Int32)).toNatClampNeg) := inb_of S28 ⟨by decide, by decide⟩
          obtain ⟨T28, h28, X28, e28, W28, st28⟩ := stB X25 hx hZ e25 Ar28 (j := (5 : Int32)) hin28 (g := (mkF m 108 #[.val (.int p1), .val (.ref a2), .val (.int (3 : Int32)), .val (.int (0 : Int32)), .unset] [(.int (own_tab (p1 >>> ((12 : Int32) &&& 31)))), (.int (5 : Int32)), (.ref a2)])) rfl rfl (hb hby d1_108)
          have V28 : Arv Z h28 a2 k_a2 .byte (10 : Int32) [(.int u), (.int u), (.int u), (.int (nar .byte (92 : Int32))), (.int (nar .byte (117 : Int32))), (.int (nar .byte (own_tab (p1 >>> ((12 : Int32) &&& 31))))), (.int u), (.int u), (.int u), (.int u)] (.int (0 : Int32)) := Arv.set Ar28 qq28 S28 N28_ H28 G28 (fits_nar_byte _) W28 5 rfl (Nat.le_of_ble_eq_true rfl)
          have zs29 : n0 ≤ h28.size := Nat.le_trans zs22 (Keep.of_wr W28).1
          have kp30 : Keep h0 h28 [a2] := kp23.wr W28 (Or.inl (List.mem_of_getElem? (i := 0) rfl))
          have N28 := Fr.snoc X28 N21 g_a2
          have fa31 : Sta Z h28 "com/example/endcon/endcon/rules/LineText" "HEX_DIGITS" "[B" (.ref w1) := (fa24.wr W28)
          obtain ⟨T32, X32, e32, st32⟩ := getS2 X28 hx hZ hown (host := "") (Or.inl (hw _ (List.mem_of_getElem? (i := 6) rfl))) Via.refl e28 fa31 (g := (mkF m 113 #[.val (.int p1), .val (.ref a2), .val (.int (3 : Int32)), .val (.int (0 : Int32)), .unset] [(.int (6 : Int32)), (.ref a2)])) rfl (hb hby d1_113)
          have fa34 : Arr Z h28 w1 cl1 .byte := (fa27.other W28 ne_w1_a2)
          have hin33 : ¬ (((p1 >>> ((8 : Int32) &&& 31)) &&& (15 : Int32)) < 0 ∨ cl1.slots.size ≤ (((p1 >>> ((8 : Int32) &&& 31)) &&& (15 : Int32))).toNatClampNeg) := inb_of sz1 (own_m15 (p1 >>> ((8 : Int32) &&& 31)))
          have hat33 := hv _ (own_m15 (p1 >>> ((8 : Int32) &&& 31))).1 (own_m15 (p1 >>> ((8 : Int32) &&& 31))).2
          obtain ⟨cx35, Ar35, qq35, S35, N35_, H35, G35⟩ := id V28
          have hin35 : ¬ ((6 : Int32) < 0 ∨ cx35.slots.size ≤ ((6 : Int32)).toNatClampNeg) := inb_of S35 ⟨by decide, by decide⟩
          obtain ⟨T35, h35, X35, e35, W35, st35⟩ := stB X32 hx hZ e32 Ar35 (j := (6 : Int32)) hin35 (g := (mkF m 124 #[.val (.int p1), .val (.ref a2), .val (.int (3 : Int32)), .val (.int (0 : Int32)), .unset] [(.int (own_tab ((p1 >>> ((8 : Int32) &&& 31)) &&& (15 : Int32)))), (.int (6 : Int32)), (.ref a2)])) rfl rfl (hb hby d1_124)
          have V35 : Arv Z h35 a2 k_a2 .byte (10 : Int32) [(.int u), (.int u), (.int u), (.int (nar .byte (92 : Int32))), (.int (nar .byte (117 : Int32))), (.int (nar .byte (own_tab (p1 >>> ((12 : Int32) &&& 31))))), (.int (nar .byte (own_tab ((p1 >>> ((8 : Int32) &&& 31)) &&& (15 : Int32))))), (.int u), (.int u), (.int u)] (.int (0 : Int32)) := Arv.set Ar35 qq35 S35 N35_ H35 G35 (fits_nar_byte _) W35 6 rfl (Nat.le_of_ble_eq_true rfl)
          have zs36 : n0 ≤ h35.size := Nat.le_trans zs29 (Keep.of_wr W35).1
          have kp37 : Keep h0 h35 [a2] := kp30.wr W35 (Or.inl (List.mem_of_getElem? (i := 0) rfl))
          have N35 := Fr.snoc X35 N28 g_a2
          have fa38 : Sta Z h35 "com/example/endcon/endcon/rules/LineText" "HEX_DIGITS" "[B" (.ref w1) := (fa31.wr W35)
          obtain ⟨T39, X39, e39, st39⟩ := getS2 X35 hx hZ hown (host := "") (Or.inl (hw _ (List.mem_of_getElem? (i := 6) rfl))) Via.refl e35 fa38 (g := (mkF m 129 #[.val (.int p1), .val (.ref a2), .val (.int (3 : Int32)), .val (.int (0 : Int32)), .unset] [(.int (7 : Int32)), (.ref a2)])) rfl (hb hby d1_129)
          have fa41 : Arr Z h35 w1 cl1 .byte := (fa34.other W35 ne_w1_a2)
          have hin40 : ¬ (((p1 >>> ((4 : Int32) &&& 31)) &&& (15 : Int32)) < 0 ∨ cl1.slots.size ≤ (((p1 >>> ((4 : Int32) &&& 31)) &&& (15 : Int32))).toNatClampNeg) := inb_of sz1 (own_m15 (p1 >>> ((4 : Int32) &&& 31)))
          have hat40 := hv _ (own_m15 (p1 >>> ((4 : Int32) &&& 31))).1 (own_m15 (p1 >>> ((4 : Int32) &&& 31))).2
          obtain ⟨cx42, Ar42, qq42, S42, N42_, H42, G42⟩ := id V35
          have hin42 : ¬ ((7 : Int32) < 0 ∨ cx42.slots.size ≤ ((7 : Int32)).toNatClampNeg) := inb_of S42 ⟨by decide, by decide⟩
          obtain ⟨T42, h42, X42, e42, W42, st42⟩ := stB X39 hx hZ e39 Ar42 (j := (7 : Int32)) hin42 (g := (mkF m 139 #[.val (.int p1), .val (.ref a2), .val (.int (3 : Int32)), .val (.int (0 : Int32)), .unset] [(.int (own_tab ((p1 >>> ((4 : Int32) &&& 31)) &&& (15 : Int32)))), (.int (7 : Int32)), (.ref a2)])) rfl rfl (hb hby d1_139)
          have V42 : Arv Z h42 a2 k_a2 .byte (10 : Int32) [(.int u), (.int u), (.int u), (.int (nar .byte (92 : Int32))), (.int (nar .byte (117 : Int32))), (.int (nar .byte (own_tab (p1 >>> ((12 : Int32) &&& 31))))), (.int (nar .byte (own_tab ((p1 >>> ((8 : Int32) &&& 31)) &&& (15 : Int32))))), (.int (nar .byte (own_tab ((p1 >>> ((4 : Int32) &&& 31)) &&& (15 : Int32))))), (.int u), (.int u)] (.int (0 : Int32)) := Arv.set Ar42 qq42 S42 N42_ H42 G42 (fits_nar_byte _) W42 7 rfl (Nat.le_of_ble_eq_true rfl)
          have zs43 : n0 ≤ h42.size := Nat.le_trans zs36 (Keep.of_wr W42).1
          have kp44 : Keep h0 h42 [a2] := kp37.wr W42 (Or.inl (List.mem_of_getElem? (i := 0) rfl))
          have N42 := Fr.snoc X42 N35 g_a2
          have fa45 : Sta Z h42 "com/example/endcon/endcon/rules/LineText" "HEX_DIGITS" "[B" (.ref w1) := (fa38.wr W42)
          obtain ⟨T46, X46, e46, st46⟩ := getS2 X42 hx hZ hown (host := "") (Or.inl (hw _ (List.mem_of_getElem? (i := 6) rfl))) Via.refl e42 fa45 (g := (mkF m 144 #[.val (.int p1), .val (.ref a2), .val (.int (3 : Int32)), .val (.int (0 : Int32)), .unset] [(.int (8 : Int32)), (.ref a2)])) rfl (hb hby d1_144)
          have fa48 : Arr Z h42 w1 cl1 .byte := (fa41.other W42 ne_w1_a2)
          have hin47 : ¬ ((p1 &&& (15 : Int32)) < 0 ∨ cl1.slots.size ≤ ((p1 &&& (15 : Int32))).toNatClampNeg) := inb_of sz1 (own_m15 p1)
          have hat47 := hv _ (own_m15 p1).1 (own_m15 p1).2
          obtain ⟨cx49, Ar49, qq49, S49, N49_, H49, G49⟩ := id V42
          have hin49 : ¬ ((8 : Int32) < 0 ∨ cx49.slots.size ≤ ((8 : Int32)).toNatClampNeg) := inb_of S49 ⟨by decide, by decide⟩
          obtain ⟨T49, h49, X49, e49, W49, st49⟩ := stB X46 hx hZ e46 Ar49 (j := (8 : Int32)) hin49 (g := (mkF m 152 #[.val (.int p1), .val (.ref a2), .val (.int (3 : Int32)), .val (.int (0 : Int32)), .unset] [(.int (own_tab (p1 &&& (15 : Int32)))), (.int (8 : Int32)), (.ref a2)])) rfl rfl (hb hby d1_152)
          have V49 : Arv Z h49 a2 k_a2 .byte (10 : Int32) [(.int u), (.int u), (.int u), (.int (nar .byte (92 : Int32))), (.int (nar .byte (117 : Int32))), (.int (nar .byte (own_tab (p1 >>> ((12 : Int32) &&& 31))))), (.int (nar .byte (own_tab ((p1 >>> ((8 : Int32) &&& 31)) &&& (15 : Int32))))), (.int (nar .byte (own_tab ((p1 >>> ((4 : Int32) &&& 31)) &&& (15 : Int32))))), (.int (nar .byte (own_tab (p1 &&& (15 : Int32))))), (.int u)] (.int (0 : Int32)) := Arv.set Ar49 qq49 S49 N49_ H49 G49 (fits_nar_byte _) W49 8 rfl (Nat.le_of_ble_eq_true rfl)
          have zs50 : n0 ≤ h49.size := Nat.le_trans zs43 (Keep.of_wr W49).1
          have kp51 : Keep h0 h49 [a2] := kp44.wr W49 (Or.inl (List.mem_of_getElem? (i := 0) rfl))
          have N49 := Fr.snoc X49 N42 g_a2
          obtain ⟨fs, hr, hrun, hended, hW, hsame⟩ := X49.leave (v := some (.int (9 : Int32))) (fun h => by rw [Bd.returns] at h; cases h)
          refine ⟨_, _, pre4 _ ?_, hrun, hended, _, _, rfl, ?_, ⟨_, rfl⟩, hW, hsame.mono (by decide) (by decide)⟩
          · show Steps p.tables e below (T1.setTop (mkF m 6 #[.val (.int p1), .val (.ref a2), .val (.int (3 : Int32)), .unset, .unset] [(.int p1)])) _
            refine XS.tswIn X1.here hx rfl (pc0 := 6) (pc' := 69) (o := 63) rfl (hb hby d1_6) rfl (by rw [hc20]; decide) (by rw [hc20]; rfl) (by decide) (by decide) ?_
            show Steps p.tables e below (T1.setTop (mkF m 69 #[.val (.int p1), .val (.ref a2), .val (.int (3 : Int32)), .unset, .unset] [])) _
            refine own_blk X1 hx bl1_69_2 (own_hb hby bd1_69_2) (pc' := 71) (Ls' := #[.val (.int p1), .val (.ref a2), .val (.int (3 : Int32)), .val (.int (0 : Int32)), .unset]) (st' := []) rfl ?_
            refine own_blk X1 hx bl1_71_1 (own_hb hby bd1_71_1) (pc' := 72) (Ls' := #[.val (.int p1), .val (.ref a2), .val (.int (3 : Int32)), .val (.int (0 : Int32)), .unset]) (st' := [(.int (0 : Int32))]) rfl ?_
            refine XS.ifYes X1.here hx rfl (pc0 := 72) (pc' := 89) rfl (hb hby d1_72) rfl ((if0 _ _).trans (teq (by decide : (0 : Int32) = (0 : Int32))).1) (by decide) (by decide) ?_
            show Steps p.tables e below (T1.setTop (mkF m 89 #[.val (.int p1), .val (.ref a2), .val (.int (3 : Int32)), .val (.int (0 : Int32)), .unset] [])) _
            refine own_blk X1 hx bl1_89_5 (own_hb hby bd1_89_5) (pc' := 95) (Ls' := #[.val (.int p1), .val (.ref a2), .val (.int (3 : Int32)), .val (.int (0 : Int32)), .unset]) (st' := [(.int (117 : Int32)), (.int (4 : Int32)), (.ref a2)]) rfl ?_
            refine st21 _ ?_
            show Steps p.tables e below (T21.setTop (mkF m 96 #[.val (.int p1), .val (.ref a2), .val (.int (3 : Int32)), .val (.int (0 : Int32)), .unset] [])) _
            refine own_blk X21 hx bl1_96_4 (own_hb hby bd1_96_4) (pc' := 100) (Ls' := #[.val (.int p1), .val (.ref a2), .val (.int (3 : Int32)), .val (.int (0 : Int32)), .unset]) (st' := [(.int (5 : Int32)), (.ref a2)]) rfl ?_
            refine st25 _ ?_
            show Steps p.tables e below (T25.setTop (mkF m 103 #[.val (.int p1), .val (.ref a2), .val (.int (3 : Int32)), .val (.int (0 : Int32)), .unset] [(.ref w1), (.int (5 : Int32)), (.ref a2)])) _
            refine own_blk X25 hx bl1_103_3 (own_hb hby bd1_103_3) (pc' := 107) (Ls' := #[.val (.int p1), .val (.ref a2), .val (.int (3 : Int32)), .val (.int (0 : Int32)), .unset]) (st' := [(.int (p1 >>> ((12 : Int32) &&& 31))), (.ref w1), (.int (5 : Int32)), (.ref a2)]) rfl ?_
            refine X25.baloadBytes hx (j := (p1 >>> ((12 : Int32) &&& 31))) (v := (.int (own_tab (p1 >>> ((12 : Int32) &&& 31))))) (by rw [e25]; exact fa27.1) (State.isArrayOf_alike hZ.alike fa27.2.1) fa27.2.2 hin26 hat26 (g := (mkF m 107 #[.val (.int p1), .val (.ref a2), .val (.int (3 : Int32)), .val (.int (0 : Int32)), .unset] [(.int (p1 >>> ((12 : Int32) &&& 31))), (.ref w1), (.int (5 : Int32)), (.ref a2)])) rfl rfl (hb hby d1_107) _ ?_
            show Steps p.tables e below (T25.setTop (mkF m 108 #[.val (.int p1), .val (.ref a2), .val (.int (3 : Int32)), .val (.int (0 : Int32)), .unset] [(.int (own_tab (p1 >>> ((12 : Int32) &&& 31)))), (.int (5 : Int32)), (.ref a2)])) _
            refine st28 _ ?_
            show Steps p.tables e below (T28.setTop (mkF m 109 #[.val (.int p1), .val (.ref a2), .val (.int (3 : Int32)), .val (.int (0 : Int32)), .unset] [])) _
            refine own_blk X28 hx bl1_109_4 (own_hb hby bd1_109_4) (pc' := 113) (Ls' := #[.val (.int p1), .val (.ref a2), .val (.int (3 : Int32)), .val (.int (0 : Int32)), .unset]) (st' := [(.int (6 : Int32)), (.ref a2)]) rfl ?_
            refine st32 _ ?_
            show Steps p.tables e below (T32.setTop (mkF m 116 #[.val (.int p1), .val (.ref a2), .val (.int (3 : Int32)), .val (.int (0 : Int32)), .unset] [(.ref w1), (.int (6 : Int32)), (.ref a2)])) _
            refine own_blk X32 hx bl1_116_5 (own_hb hby bd1_116_5) (pc' := 123) (Ls' := #[.val (.int p1), .val (.ref a2), .val (.int (3 : Int32)), .val (.int (0 : Int32)), .unset]) (st' := [(.int ((p1 >>> ((8 : Int32) &&& 31)) &&& (15 : Int32))), (.ref w1), (.int (6 : Int32)), (.ref a2)]) rfl ?_
            refine X32.baloadBytes hx (j := ((p1 >>> ((8 : Int32) &&& 31)) &&& (15 : Int32))) (v := (.int (own_tab ((p1 >>> ((8 : Int32) &&& 31)) &&& (15 : Int32))))) (by rw [e32]; exact fa34.1) (State.isArrayOf_alike hZ.alike fa34.2.1) fa34.2.2 hin33 hat33 (g := (mkF m 123 #[.val (.int p1), .val (.ref a2), .val (.int (3 : Int32)), .val (.int (0 : Int32)), .unset] [(.int ((p1 >>> ((8 : Int32) &&& 31)) &&& (15 : Int32))), (.ref w1), (.int (6 : Int32)), (.ref a2)])) rfl rfl (hb hby d1_123) _ ?_
            show Steps p.tables e below (T32.setTop (mkF m 124 #[.val (.int p1), .val (.ref a2), .val (.int (3 : Int32)), .val (.int (0 : Int32)), .unset] [(.int (own_tab ((p1 >>> ((8 : Int32) &&& 31)) &&& (15 : Int32)))), (.int (6 : Int32)), (.ref a2)])) _
            refine st35 _ ?_
            show Steps p.tables e below (T35.setTop (mkF m 125 #[.val (.int p1), .val (.ref a2), .val (.int (3 : Int32)), .val (.int (0 : Int32)), .unset] [])) _
            refine own_blk X35 hx bl1_125_4 (own_hb hby bd1_125_4) (pc' := 129) (Ls' := #[.val (.int p1), .val (.ref a2), .val (.int (3 : Int32)), .val (.int (0 : Int32)), .unset]) (st' := [(.int (7 : Int32)), (.ref a2)]) rfl ?_
            refine st39 _ ?_
            show Steps p.tables e below (T39.setTop (mkF m 132 #[.val (.int p1), .val (.ref a2), .val (.int (3 : Int32)), .val (.int (0 : Int32)), .unset] [(.ref w1), (.int (7 : Int32)), (.ref a2)])) _
            refine own_blk X39 hx bl1_132_5 (own_hb hby bd1_132_5) (pc' := 138) (Ls' := #[.val (.int p1), .val (.ref a2), .val (.int (3 : Int32)), .val (.int (0 : Int32)), .unset]) (st' := [(.int ((p1 >>> ((4 : Int32) &&& 31)) &&& (15 : Int32))), (.ref w1), (.int (7 : Int32)), (.ref a2)]) rfl ?_
            refine X39.baloadBytes hx (j := ((p1 >>> ((4 : Int32) &&& 31)) &&& (15 : Int32))) (v := (.int (own_tab ((p1 >>> ((4 : Int32) &&& 31)) &&& (15 : Int32))))) (by rw [e39]; exact fa41.1) (State.isArrayOf_alike hZ.alike fa41.2.1) fa41.2.2 hin40 hat40 (g := (mkF m 138 #[.val (.int p1), .val (.ref a2), .val (.int (3 : Int32)), .val (.int (0 : Int32)), .unset] [(.int ((p1 >>> ((4 : Int32) &&& 31)) &&& (15 : Int32))), (.ref w1), (.int (7 : Int32)), (.ref a2)])) rfl rfl (hb hby d1_138) _ ?_
            show Steps p.tables e below (T39.setTop (mkF m 139 #[.val (.int p1), .val (.ref a2), .val (.int (3 : Int32)), .val (.int (0 : Int32)), .unset] [(.int (own_tab ((p1 >>> ((4 : Int32) &&& 31)) &&& (15 : Int32)))), (.int (7 : Int32)), (.ref a2)])) _
            refine st42 _ ?_
            show Steps p.tables e below (T42.setTop (mkF m 140 #[.val (.int p1), .val (.ref a2), .val (.int (3 : Int32)), .val (.int (0 : Int32)), .unset] [])) _
            refine own_blk X42 hx bl1_140_4 (own_hb hby bd1_140_4) (pc' := 144) (Ls' := #[.val (.int p1), .val (.ref a2), .val (.int (3 : Int32)), .val (.int (0 : Int32)), .unset]) (st' := [(.int (8 : Int32)), (.ref a2)]) rfl ?_
            refine st46 _ ?_
            show Steps p.tables e below (T46.setTop (mkF m 147 #[.val (.int p1), .val (.ref a2), .val (.int (3 : Int32)), .val (.int (0 : Int32)), .unset] [(.ref w1), (.int (8 : Int32)), (.ref a2)])) _
            refine own_blk X46 hx bl1_147_3 (own_hb hby bd1_147_3) (pc' := 151) (Ls' := #[.val (.int p1), .val (.ref a2), .val (.int (3 : Int32)), .val (.int (0 : Int32)), .unset]) (st' := [(.int (p1 &&& (15 : Int32))), (.ref w1), (.int (8 : Int32)), (.ref a2)]) rfl ?_
            refine X46.baloadBytes hx (j := (p1 &&& (15 : Int32))) (v := (.int (own_tab (p1 &&& (15 : Int32))))) (by rw [e46]; exact fa48.1) (State.isArrayOf_alike hZ.alike fa48.2.1) fa48.2.2 hin47 hat47 (g := (mkF m 151 #[.val (.int p1), .val (.ref a2), .val (.int (3 : Int32)), .val (.int (0 : Int32)), .unset] [(.int (p1 &&& (15 : Int32))), (.ref w1), (.int (8 : Int32)), (.ref a2)])) rfl rfl (hb hby d1_151) _ ?_
            show Steps p.tables e below (T46.setTop (mkF m 152 #[.val (.int p1), .val (.ref a2), .val (.int (3 : Int32)), .val (.int (0 : Int32)), .unset] [(.int (own_tab (p1 &&& (15 : Int32)))), (.int (8 : Int32)), (.ref a2)])) _
            refine st49 _ ?_
            show Steps p.tables e below (T49.setTop (mkF m 153 #[.val (.int p1), .val (.ref a2), .val (.int (3 : Int32)), .val (.int (0 : Int32)), .unset] [])) _
            refine own_blk X49 hx bl1_153_4 (own_hb hby bd1_153_4) (pc' := 159) (Ls' := #[.val (.int p1), .val (.ref a2), .val (.int (3 : Int32)), .val (.int (0 : Int32)), .val (.int (9 : Int32))]) (st' := []) rfl ?_
            refine own_blk X49 hx bl1_159_1 (own_hb hby bd1_159_1) (pc' := 161) (Ls' := #[.val (.int p1), .val (.ref a2), .val (.int (3 : Int32)), .val (.int (0 : Int32)), .val (.int (9 : Int32))]) (st' := [(.int (9 : Int32))]) rfl ?_
            exact retI X49 hx Bd.returns (hb hby d1_161) hr
          · show Q1_3 Z p1 a2 u w1 cl1 k_a2 h0 n0 _ T49.heap _
            rw [e49]
            have lf52 : Arv Z h49 a2 k_a2 .byte (10 : Int32) [(.int (f1_3_a2_0 p1 u)), (.int (f1_3_a2_1 p1 u)), (.int (f1_3_a2_2 p1 u)), (.int (f1_3_a2_3 p1 u)), (.int (f1_3_a2_4 p1 u)), (.int (f1_3_a2_5 p1 u)), (.int (f1_3_a2_6 p1 u)), (.int (f1_3_a2_7 p1 u)), (.int (f1_3_a2_8 p1 u)), (.int (f1_3_a2_9 p1 u))] (.int (0 : Int32)) := by simp only [f1_3_a2_0, f1_3_a2_1, f1_3_a2_2, f1_3_a2_3, f1_3_a2_4, f1_3_a2_5, f1_3_a2_6, f1_3_a2_7, f1_3_a2_8, f1_3_a2_9, if_neg hc5, if_neg hc10, if_neg hc15, if_pos hc20]; exact V49
            exact ⟨by rw [f1_3, if_neg hc5, if_neg hc10, if_neg hc15, if_pos hc20], N49, kp51, lf52⟩
        · by_cases hc53 : p1 = (12 : Int32)
          · obtain ⟨cx54, Ar54, qq54, S54, N54_, H54, G54⟩ := id V1
            have hin54 : ¬ ((4 : Int32) < 0 ∨ cx54.slots.size ≤ ((4 : Int32)).toNatClampNeg) := inb_of S54 ⟨by decide, by decide⟩
            obtain ⟨T54, h54, X54, e54, W54, st54⟩ := stB X1 hx hZ e1 Ar54 (j := (4 : Int32)) hin54 (g := (mkF m 80 #[.val (.int p1), .val (.ref a2), .val (.int (3 : Int32)), .val (.int (102 : Int32)), .unset] [(.int (102 : Int32)), (.int (4 : Int32)), (.ref a2)])) rfl rfl (hb hby d1_80)
            have V54 : Arv Z h54 a2 k_a2 .byte (10 : Int32) [(.int u), (.int u), (.int u), (.int (nar .byte (92 : Int32))), (.int (nar .byte (102 : Int32))), (.int u), (.int u), (.int u), (.int u), (.int u)] (.int (0 : Int32)) := Arv.set Ar54 qq54 S54 N54_ H54 G54 (fits_nar_byte _) W54 4 rfl (Nat.le_of_ble_eq_true rfl)
            have zs55 : n0 ≤ h54.size := Nat.le_trans zs2 (Keep.of_wr W54).1
            have kp56 : Keep h0 h54 [a2] := kp3.wr W54 (Or.inl (List.mem_of_getElem? (i := 0) rfl))
            have N54 := Fr.snoc X54 N1 g_a2
            obtain ⟨fs, hr, hrun, hended, hW, hsame⟩ := X54.leave (v := some (.int (5 : Int32))) (fun h => by rw [Bd.returns] at h; cases h)
            refine ⟨_, _, pre4 _ ?_, hrun, hended, _, _, rfl, ?_, ⟨_, rfl⟩, hW, hsame.mono (by decide) (by decide)⟩
            · show Steps p.tables e below (T1.setTop (mkF m 6 #[.val (.int p1), .val (.ref a2), .val (.int (3 : Int32)), .unset, .unset] [(.int p1)])) _
              refine XS.tswIn X1.here hx rfl (pc0 := 6) (pc' := 59) (o := 53) rfl (hb hby d1_6) rfl (by rw [hc53]; decide) (by rw [hc53]; rfl) (by decide) (by decide) ?_
              show Steps p.tables e below (T1.setTop (mkF m 59 #[.val (.int p1), .val (.ref a2), .val (.int (3 : Int32)), .unset, .unset] [])) _
              refine own_blk X1 hx bl1_59_3 (own_hb hby bd1_59_3) (pc' := 71) (Ls' := #[.val (.int p1), .val (.ref a2), .val (.int (3 : Int32)), .val (.int (102 : Int32)), .unset]) (st' := []) rfl ?_
              refine own_blk X1 hx bl1_71_1 (own_hb hby bd1_71_1) (pc' := 72) (Ls' := #[.val (.int p1), .val (.ref a2), .val (.int (3 : Int32)), .val (.int (102 : Int32)), .unset]) (st' := [(.int (102 : Int32))]) rfl ?_
              refine XS.ifNo X1.here hx rfl (hb hby d1_72) rfl ((if0 _ _).trans (feq (by decide : ¬ ((102 : Int32) = (0 : Int32)))).1) ?_
              show Steps p.tables e below (T1.setTop (mkF m 75 #[.val (.int p1), .val (.ref a2), .val (.int (3 : Int32)), .val (.int (102 : Int32)), .unset] [])) _
              refine own_blk X1 hx bl1_75_5 (own_hb hby bd1_75_5) (pc' := 80) (Ls' := #[.val (.int p1), .val (.ref a2), .val (.int (3 : Int32)), .val (.int (102 : Int32)), .unset]) (st' := [(.int (102 : Int32)), (.int (4 : Int32)), (.ref a2)]) rfl ?_
              refine st54 _ ?_
              show Steps p.tables e below (T54.setTop (mkF m 81 #[.val (.int p1), .val (.ref a2), .val (.int (3 : Int32)), .val (.int (102 : Int32)), .unset] [])) _
              refine own_blk X54 hx bl1_81_4 (own_hb hby bd1_81_4) (pc' := 86) (Ls' := #[.val (.int p1), .val (.ref a2), .val (.int (3 : Int32)), .val (.int (102 : Int32)), .val (.int (5 : Int32))]) (st' := []) rfl ?_
              refine own_blk X54 hx bl1_86_2 (own_hb hby bd1_86_2) (pc' := 161) (Ls' := #[.val (.int p1), .val (.ref a2), .val (.int (3 : Int32)), .val (.int (102 : Int32)), .val (.int (5 : Int32))]) (st' := [(.int (5 : Int32))]) rfl ?_
              exact retI X54 hx Bd.returns (hb hby d1_161) hr
            · show Q1_3 Z p1 a2 u w1 cl1 k_a2 h0 n0 _ T54.heap _
              rw [e54]
              have lf57 : Arv Z h54 a2 k_a2 .byte (10 : Int32) [(.int (f1_3_a2_0 p1 u)), (.int (f1_3_a2_1 p1 u)), (.int (f1_3_a2_2 p1 u)), (.int (f1_3_a2_3 p1 u)), (.int (f1_3_a2_4 p1 u)), (.int (f1_3_a2_5 p1 u)), (.int (f1_3_a2_6 p1 u)), (.int (f1_3_a2_7 p1 u)), (.int (f1_3_a2_8 p1 u)), (.int (f1_3_a2_9 p1 u))] (.int (0 : Int32)) := by simp only [f1_3_a2_0, f1_3_a2_1, f1_3_a2_2, f1_3_a2_3, f1_3_a2_4, f1_3_a2_5, f1_3_a2_6, f1_3_a2_7, f1_3_a2_8, f1_3_a2_9, if_neg hc5, if_neg hc10, if_neg hc15, if_neg hc20, if_pos hc53]; exact V54
              exact ⟨by rw [f1_3, if_neg hc5, if_neg hc10, if_neg hc15, if_neg hc20, if_pos hc53], N54, kp56, lf57⟩
          · by_cases hc58 : p1 = (13 : Int32)
            · obtain ⟨cx59, Ar59, qq59, S59, N59_, H59, G59⟩ := id V1
              have hin59 : ¬ ((4 : Int32) < 0 ∨ cx59.slots.size ≤ ((4 : Int32)).toNatClampNeg) := inb_of S59 ⟨by decide, by decide⟩
              obtain ⟨T59, h59, X59, e59, W59, st59⟩ := stB X1 hx hZ e1 Ar59 (j := (4 : Int32)) hin59 (g := (mkF m 80 #[.val (.int p1), .val (.ref a2), .val (.int (3 : Int32)), .val (.int (114 : Int32)), .unset] [(.int (114 : Int32)), (.int (4 : Int32)), (.ref a2)])) rfl rfl (hb hby d1_80)
              have V59 : Arv Z h59 a2 k_a2 .byte (10 : Int32) [(.int u), (.int u), (.int u), (.int (nar .byte (92 : Int32))), (.int (nar .byte (114 : Int32))), (.int u), (.int u), (.int u), (.int u), (.int u)] (.int (0 : Int32)) := Arv.set Ar59 qq59 S59 N59_ H59 G59 (fits_nar_byte _) W59 4 rfl (Nat.le_of_ble_eq_true rfl)
              have zs60 : n0 ≤ h59.size := Nat.le_trans zs2 (Keep.of_wr W59).1
              have kp61 : Keep h0 h59 [a2] := kp3.wr W59 (Or.inl (List.mem_of_getElem? (i := 0) rfl))
              have N59 := Fr.snoc X59 N1 g_a2
              obtain ⟨fs, hr, hrun, hended, hW, hsame⟩ := X59.leave (v := some (.int (5 : Int32))) (fun h => by rw [Bd.returns] at h; cases h)
              refine ⟨_, _, pre4 _ ?_, hrun, hended, _, _, rfl, ?_, ⟨_, rfl⟩, hW, hsame.mono (by decide) (by decide)⟩
              · show Steps p.tables e below (T1.setTop (mkF m 6 #[.val (.int p1), .val (.ref a2), .val (.int (3 : Int32)), .unset, .unset] [(.int p1)])) _
                refine XS.tswIn X1.here hx rfl (pc0 := 6) (pc' := 64) (o := 58) rfl (hb hby d1_6) rfl (by rw [hc58]; decide) (by rw [hc58]; rfl) (by decide) (by decide) ?_
                show Steps p.tables e below (T1.setTop (mkF m 64 #[.val (.int p1), .val (.ref a2), .val (.int (3 : Int32)), .unset, .unset] [])) _
                refine own_blk X1 hx bl1_64_3 (own_hb hby bd1_64_3) (pc' := 71) (Ls' := #[.val (.int p1), .val (.ref a2), .val (.int (3 : Int32)), .val (.int (114 : Int32)), .unset]) (st' := []) rfl ?_
                refine own_blk X1 hx bl1_71_1 (own_hb hby bd1_71_1) (pc' := 72) (Ls' := #[.val (.int p1), .val (.ref a2), .val (.int (3 : Int32)), .val (.int (114 : Int32)), .unset]) (st' := [(.int (114 : Int32))]) rfl ?_
                refine XS.ifNo X1.here hx rfl (hb hby d1_72) rfl ((if0 _ _).trans (feq (by decide : ¬ ((114 : Int32) = (0 : Int32)))).1) ?_
                show Steps p.tables e below (T1.setTop (mkF m 75 #[.val (.int p1), .val (.ref a2), .val (.int (3 : Int32)), .val (.int (114 : Int32)), .unset] [])) _
                refine own_blk X1 hx bl1_75_5 (own_hb hby bd1_75_5) (pc' := 80) (Ls' := #[.val (.int p1), .val (.ref a2), .val (.int (3 : Int32)), .val (.int (114 : Int32)), .unset]) (st' := [(.int (114 : Int32)), (.int (4 : Int32)), (.ref a2)]) rfl ?_
                refine st59 _ ?_
                show Steps p.tables e below (T59.setTop (mkF m 81 #[.val (.int p1), .val (.ref a2), .val (.int (3 : Int32)), .val (.int (114 : Int32)), .unset] [])) _
                refine own_blk X59 hx bl1_81_4 (own_hb hby bd1_81_4) (pc' := 86) (Ls' := #[.val (.int p1), .val (.ref a2), .val (.int (3 : Int32)), .val (.int (114 : Int32)), .val (.int (5 : Int32))]) (st' := []) rfl ?_
                refine own_blk X59 hx bl1_86_2 (own_hb hby bd1_86_2) (pc' := 161) (Ls' := #[.val (.int p1), .val (.ref a2), .val (.int (3 : Int32)), .val (.int (114 : Int32)), .val (.int (5 : Int32))]) (st' := [(.int (5 : Int32))]) rfl ?_
                exact retI X59 hx Bd.returns (hb hby d1_161) hr
              · show Q1_3 Z p1 a2 u w1 cl1 k_a2 h0 n0 _ T59.heap _
                rw [e59]
                have lf62 : Arv Z h59 a2 k_a2 .byte (10 : Int32) [(.int (f1_3_a2_0 p1 u)), (.int (f1_3_a2_1 p1 u)), (.int (f1_3_a2_2 p1 u)), (.int (f1_3_a2_3 p1 u)), (.int (f1_3_a2_4 p1 u)), (.int (f1_3_a2_5 p1 u)), (.int (f1_3_a2_6 p1 u)), (.int (f1_3_a2_7 p1 u)), (.int (f1_3_a2_8 p1 u)), (.int (f1_3_a2_9 p1 u))] (.int (0 : Int32)) := by simp only [f1_3_a2_0, f1_3_a2_1, f1_3_a2_2, f1_3_a2_3, f1_3_a2_4, f1_3_a2_5, f1_3_a2_6, f1_3_a2_7, f1_3_a2_8, f1_3_a2_9, if_neg hc5, if_neg hc10, if_neg hc15, if_neg hc20, if_neg hc53, if_pos hc58]; exact V59
                exact ⟨by rw [f1_3, if_neg hc5, if_neg hc10, if_neg hc15, if_neg hc20, if_neg hc53, if_pos hc58], N59, kp61, lf62⟩
            · obtain ⟨cx63, Ar63, qq63, S63, N63_, H63, G63⟩ := id V1
              have hin63 : ¬ ((4 : Int32) < 0 ∨ cx63.slots.size ≤ ((4 : Int32)).toNatClampNeg) := inb_of S63 ⟨by decide, by decide⟩
              obtain ⟨T63, h63, X63, e63, W63, st63⟩ := stB X1 hx hZ e1 Ar63 (j := (4 : Int32)) hin63 (g := (mkF m 95 #[.val (.int p1), .val (.ref a2), .val (.int (3 : Int32)), .val (.int (0 : Int32)), .unset] [(.int (117 : Int32)), (.int (4 : Int32)), (.ref a2)])) rfl rfl (hb hby d1_95)
              have V63 : Arv Z h63 a2 k_a2 .byte (10 : Int32) [(.int u), (.int u), (.int u), (.int (nar .byte (92 : Int32))), (.int (nar .byte (117 : Int32))), (.int u), (.int u), (.int u), (.int u), (.int u)] (.int (0 : Int32)) := Arv.set Ar63 qq63 S63 N63_ H63 G63 (fits_nar_byte _) W63 4 rfl (Nat.le_of_ble_eq_true rfl)
              have zs64 : n0 ≤ h63.size := Nat.le_trans zs2 (Keep.of_wr W63).1
              have kp65 : Keep h0 h63 [a2] := kp3.wr W63 (Or.inl (List.mem_of_getElem? (i := 0) rfl))
              have N63 := Fr.snoc X63 N1 g_a2
              have fa66 : Sta Z h63 "com/example/endcon/endcon/rules/LineText" "HEX_DIGITS" "[B" (.ref w1) := ((S_HEX_DIGITS.wr W1).wr W63)
              obtain ⟨T67, X67, e67, st67⟩ := getS2 X63 hx hZ hown (host := "") (Or.inl (hw _ (List.mem_of_getElem? (i := 6) rfl))) Via.refl e63 fa66 (g := (mkF m 100 #[.val (.int p1), .val (.ref a2), .val (.int (3 : Int32)), .val (.int (0 : Int32)), .unset] [(.int (5 : Int32)), (.ref a2)])) rfl (hb hby d1_100)
              have fa69 : Arr Z h63 w1 cl1 .byte := ((Ar_w1.other W1 ne_w1_a2).other W63 ne_w1_a2)
              have hin68 : ¬ ((p1 >>> ((12 : Int32) &&& 31)) < 0 ∨ cl1.slots.size ≤ ((p1 >>> ((12 : Int32) &&& 31))).toNatClampNeg) := inb_of sz1 (own_sh12 p1 hp hp2)
              have hat68 := hv _ (own_sh12 p1 hp hp2).1 (own_sh12 p1 hp hp2).2
              obtain ⟨cx70, Ar70, qq70, S70, N70_, H70, G70⟩ := id V63
              have hin70 : ¬ ((5 : Int32) < 0 ∨ cx70.slots.size ≤ ((5 : Int32)).toNatClampNeg) := inb_of S70 ⟨by decide, by decide⟩
              obtain ⟨T70, h70, X70, e70, W70, st70⟩ := stB X67 hx hZ e67 Ar70 (j := (5 : Int32)) hin70 (g := (mkF m 108 #[.val (.int p1), .val (.ref a2), .val (.int (3 : Int32)), .val (.int (0 : Int32)), .unset] [(.int (own_tab (p1 >>> ((12 : Int32) &&& 31)))), (.int (5 : Int32)), (.ref a2)])) rfl rfl (hb hby d1_108)
              have V70 : Arv Z h70 a2 k_a2 .byte (10 : Int32) [(.int u), (.int u), (.int u), (.int (nar .byte (92 : Int32))), (.int (nar .byte (117 : Int32))), (.int (nar .byte (own_tab (p1 >>> ((12 : Int32) &&& 31))))), (.int u), (.int u), (.int u), (.int u)] (.int (0 : Int32)) := Arv.set Ar70 qq70 S70 N70_ H70 G70 (fits_nar_byte _) W70 5 rfl (Nat.le_of_ble_eq_true rfl)
              have zs71 : n0 ≤ h70.size := Nat.le_trans zs64 (Keep.of_wr W70).1
              have kp72 : Keep h0 h70 [a2] := kp65.wr W70 (Or.inl (List.mem_of_getElem? (i := 0) rfl))
              have N70 := Fr.snoc X70 N63 g_a2
              have fa73 : Sta Z h70 "com/example/endcon/endcon/rules/LineText" "HEX_DIGITS" "[B" (.ref w1) := (fa66.wr W70)
              obtain ⟨T74, X74, e74, st74⟩ := getS2 X70 hx hZ hown (host := "") (Or.inl (hw _ (List.mem_of_getElem? (i := 6) rfl))) Via.refl e70 fa73 (g := (mkF m 113 #[.val (.int p1), .val (.ref a2), .val (.int (3 : Int32)), .val (.int (0 : Int32)), .unset] [(.int (6 : Int32)), (.ref a2)])) rfl (hb hby d1_113)
              have fa76 : Arr Z h70 w1 cl1 .byte := (fa69.other W70 ne_w1_a2)
              have hin75 : ¬ (((p1 >>> ((8 : Int32) &&& 31)) &&& (15 : Int32)) < 0 ∨ cl1.slots.size ≤ (((p1 >>> ((8 : Int32) &&& 31)) &&& (15 : Int32))).toNatClampNeg) := inb_of sz1 (own_m15 (p1 >>> ((8 : Int32) &&& 31)))
              have hat75 := hv _ (own_m15 (p1 >>> ((8 : Int32) &&& 31))).1 (own_m15 (p1 >>> ((8 : Int32) &&& 31))).2
              obtain ⟨cx77, Ar77, qq77, S77, N77_, H77, G77⟩ := id V70
              have hin77 : ¬ ((6 : Int32) < 0 ∨ cx77.slots.size ≤ ((6 : Int32)).toNatClampNeg) := inb_of S77 ⟨by decide, by decide⟩
              obtain ⟨T77, h77, X77, e77, W77, st77⟩ := stB X74 hx hZ e74 Ar77 (j := (6 : Int32)) hin77 (g := (mkF m 124 #[.val (.int p1), .val (.ref a2), .val (.int (3 : Int32)), .val (.int (0 : Int32)), .unset] [(.int (own_tab ((p1 >>> ((8 : Int32) &&& 31)) &&& (15 : Int32)))), (.int (6 : Int32)), (.ref a2)])) rfl rfl (hb hby d1_124)
              have V77 : Arv Z h77 a2 k_a2 .byte (10 : Int32) [(.int u), (.int u), (.int u), (.int (nar .byte (92 : Int32))), (.int (nar .byte (117 : Int32))), (.int (nar .byte (own_tab (p1 >>> ((12 : Int32) &&& 31))))), (.int (nar .byte (own_tab ((p1 >>> ((8 : Int32) &&& 31)) &&& (15 : Int32))))), (.int u), (.int u), (.int u)] (.int (0 : Int32)) := Arv.set Ar77 qq77 S77 N77_ H77 G77 (fits_nar_byte _) W77 6 rfl (Nat.le_of_ble_eq_true rfl)
              have zs78 : n0 ≤ h77.size := Nat.le_trans zs71 (Keep.of_wr W77).1
              have kp79 : Keep h0 h77 [a2] := kp72.wr W77 (Or.inl (List.mem_of_getElem? (i := 0) rfl))
              have N77 := Fr.snoc X77 N70 g_a2
              have fa80 : Sta Z h77 "com/example/endcon/endcon/rules/LineText" "HEX_DIGITS" "[B" (.ref w1) := (fa73.wr W77)
              obtain ⟨T81, X81, e81, st81⟩ := getS2 X77 hx hZ hown (host := "") (Or.inl (hw _ (List.mem_of_getElem? (i := 6) rfl))) Via.refl e77 fa80 (g := (mkF m 129 #[.val (.int p1), .val (.ref a2), .val (.int (3 : Int32)), .val (.int (0 : Int32)), .unset] [(.int (7 : Int32)), (.ref a2)])) rfl (hb hby d1_129)
              have fa83 : Arr Z h77 w1 cl1 .byte := (fa76.other W77 ne_w1_a2)
              have hin82 : ¬ (((p1 >>> ((4 : Int32) &&& 31)) &&& (15 : Int32)) < 0 ∨ cl1.slots.size ≤ (((p1 >>> ((4 : Int32) &&& 31)) &&& (15 : Int32))).toNatClampNeg) := inb_of sz1 (own_m15 (p1 >>> ((4 : Int32) &&& 31)))
              have hat82 := hv _ (own_m15 (p1 >>> ((4 : Int32) &&& 31))).1 (own_m15 (p1 >>> ((4 : Int32) &&& 31))).2
              obtain ⟨cx84, Ar84, qq84, S84, N84_, H84, G84⟩ := id V77
              have hin84 : ¬ ((7 : Int32) < 0 ∨ cx84.slots.size ≤ ((7 : Int32)).toNatClampNeg) := inb_of S84 ⟨by decide, by decide⟩
              obtain ⟨T84, h84, X84, e84, W84, st84⟩ := stB X81 hx hZ e81 Ar84 (j := (7 : Int32)) hin84 (g := (mkF m 139 #[.val (.int p1), .val (.ref a2), .val (.int (3 : Int32)), .val (.int (0 : Int32)), .unset] [(.int (own_tab ((p1 >>> ((4 : Int32) &&& 31)) &&& (15 : Int32)))), (.int (7 : Int32)), (.ref a2)])) rfl rfl (hb hby d1_139)
              have V84 : Arv Z h84 a2 k_a2 .byte (10 : Int32) [(.int u), (.int u), (.int u), (.int (nar .byte (92 : Int32))), (.int (nar .byte (117 : Int32))), (.int (nar .byte (own_tab (p1 >>> ((12 : Int32) &&& 31))))), (.int (nar .byte (own_tab ((p1 >>> ((8 : Int32) &&& 31)) &&& (15 : Int32))))), (.int (nar .byte (own_tab ((p1 >>> ((4 : Int32) &&& 31)) &&& (15 : Int32))))), (.int u), (.int u)] (.int (0 : Int32)) := Arv.set Ar84 qq84 S84 N84_ H84 G84 (fits_nar_byte _) W84 7 rfl (Nat.le_of_ble_eq_true rfl)
              have zs85 : n0 ≤ h84.size := Nat.le_trans zs78 (Keep.of_wr W84).1
              have kp86 : Keep h0 h84 [a2] := kp79.wr W84 (Or.inl (List.mem_of_getElem? (i := 0) rfl))
              have N84 := Fr.snoc X84 N77 g_a2
              have fa87 : Sta Z h84 "com/example/endcon/endcon/rules/LineText" "HEX_DIGITS" "[B" (.ref w1) := (fa80.wr W84)
              obtain ⟨T88, X88, e88, st88⟩ := getS2 X84 hx hZ hown (host := "") (Or.inl (hw _ (List.mem_of_getElem? (i := 6) rfl))) Via.refl e84 fa87 (g := (mkF m 144 #[.val (.int p1), .val (.ref a2), .val (.int (3 : Int32)), .val (.int (0 : Int32)), .unset] [(.int (8 : Int32)), (.ref a2)])) rfl (hb hby d1_144)
              have fa90 : Arr Z h84 w1 cl1 .byte := (fa83.other W84 ne_w1_a2)
              have hin89 : ¬ ((p1 &&& (15 : Int32)) < 0 ∨ cl1.slots.size ≤ ((p1 &&& (15 : Int32))).toNatClampNeg) := inb_of sz1 (own_m15 p1)
              have hat89 := hv _ (own_m15 p1).1 (own_m15 p1).2
              obtain ⟨cx91, Ar91, qq91, S91, N91_, H91, G91⟩ := id V84
              have hin91 : ¬ ((8 : Int32) < 0 ∨ cx91.slots.size ≤ ((8 : Int32)).toNatClampNeg) := inb_of S91 ⟨by decide, by decide⟩
              obtain ⟨T91, h91, X91, e91, W91, st91⟩ := stB X88 hx hZ e88 Ar91 (j := (8 : Int32)) hin91 (g := (mkF m 152 #[.val (.int p1), .val (.ref a2), .val (.int (3 : Int32)), .val (.int (0 : Int32)), .unset] [(.int (own_tab (p1 &&& (15 : Int32)))), (.int (8 : Int32)), (.ref a2)])) rfl rfl (hb hby d1_152)
              have V91 : Arv Z h91 a2 k_a2 .byte (10 : Int32) [(.int u), (.int u), (.int u), (.int (nar .byte (92 : Int32))), (.int (nar .byte (117 : Int32))), (.int (nar .byte (own_tab (p1 >>> ((12 : Int32) &&& 31))))), (.int (nar .byte (own_tab ((p1 >>> ((8 : Int32) &&& 31)) &&& (15 : Int32))))), (.int (nar .byte (own_tab ((p1 >>> ((4 : Int32) &&& 31)) &&& (15 : Int32))))), (.int (nar .byte (own_tab (p1 &&& (15 : Int32))))), (.int u)] (.int (0 : Int32)) := Arv.set Ar91 qq91 S91 N91_ H91 G91 (fits_nar_byte _) W91 8 rfl (Nat.le_of_ble_eq_true rfl)
              have zs92 : n0 ≤ h91.size := Nat.le_trans zs85 (Keep.of_wr W91).1
              have kp93 : Keep h0 h91 [a2] := kp86.wr W91 (Or.inl (List.mem_of_getElem? (i := 0) rfl))
              have N91 := Fr.snoc X91 N84 g_a2
              obtain ⟨fs, hr, hrun, hended, hW, hsame⟩ := X91.leave (v := some (.int (9 : Int32))) (fun h => by rw [Bd.returns] at h; cases h)
              refine ⟨_, _, pre4 _ ?_, hrun, hended, _, _, rfl, ?_, ⟨_, rfl⟩, hW, hsame.mono (by decide) (by decide)⟩
              · show Steps p.tables e below (T1.setTop (mkF m 6 #[.val (.int p1), .val (.ref a2), .val (.int (3 : Int32)), .unset, .unset] [(.int p1)])) _
                refine XS.tswOut X1.here hx rfl (pc0 := 6) (pc' := 69) rfl (hb hby d1_6) rfl (own_out8_13 hc5 hc10 hc15 hc20 hc53 hc58) (by decide) (by decide) ?_
                show Steps p.tables e below (T1.setTop (mkF m 69 #[.val (.int p1), .val (.ref a2), .val (.int (3 : Int32)), .unset, .unset] [])) _
                refine own_blk X1 hx bl1_69_2 (own_hb hby bd1_69_2) (pc' := 71) (Ls' := #[.val (.int p1), .val (.ref a2), .val (.int (3 : Int32)), .val (.int (0 : Int32)), .unset]) (st' := []) rfl ?_
                refine own_blk X1 hx bl1_71_1 (own_hb hby bd1_71_1) (pc' := 72) (Ls' := #[.val (.int p1), .val (.ref a2), .val (.int (3 : Int32)), .val (.int (0 : Int32)), .unset]) (st' := [(.int (0 : Int32))]) rfl ?_
                refine XS.ifYes X1.here hx rfl (pc0 := 72) (pc' := 89) rfl (hb hby d1_72) rfl ((if0 _ _).trans (teq (by decide : (0 : Int32) = (0 : Int32))).1) (by decide) (by decide) ?_
                show Steps p.tables e below (T1.setTop (mkF m 89 #[.val (.int p1), .val (.ref a2), .val (.int (3 : Int32)), .val (.int (0 : Int32)), .unset] [])) _
                refine own_blk X1 hx bl1_89_5 (own_hb hby bd1_89_5) (pc' := 95) (Ls' := #[.val (.int p1), .val (.ref a2), .val (.int (3 : Int32)), .val (.int (0 : Int32)), .unset]) (st' := [(.int (117 : Int32)), (.int (4 : Int32)), (.ref a2)]) rfl ?_
                refine st63 _ ?_
                show Steps p.tables e below (T63.setTop (mkF m 96 #[.val (.int p1), .val (.ref a2), .val (.int (3 : Int32)), .val (.int (0 : Int32)), .unset] [])) _
                refine own_blk X63 hx bl1_96_4 (own_hb hby bd1_96_4) (pc' := 100) (Ls' := #[.val (.int p1), .val (.ref a2), .val (.int (3 : Int32)), .val (.int (0 : Int32)), .unset]) (st' := [(.int (5 : Int32)), (.ref a2)]) rfl ?_
                refine st67 _ ?_
                show Steps p.tables e below (T67.setTop (mkF m 103 #[.val (.int p1), .val (.ref a2), .val (.int (3 : Int32)), .val (.int (0 : Int32)), .unset] [(.ref w1), (.int (5 : Int32)), (.ref a2)])) _
                refine own_blk X67 hx bl1_103_3 (own_hb hby bd1_103_3) (pc' := 107) (Ls' := #[.val (.int p1), .val (.ref a2), .val (.int (3 : Int32)), .val (.int (0 : Int32)), .unset]) (st' := [(.int (p1 >>> ((12 : Int32) &&& 31))), (.ref w1), (.int (5 : Int32)), (.ref a2)]) rfl ?_
                refine X67.baloadBytes hx (j := (p1 >>> ((12 : Int32) &&& 31))) (v := (.int (own_tab (p1 >>> ((12 : Int32) &&& 31))))) (by rw [e67]; exact fa69.1) (State.isArrayOf_alike hZ.alike fa69.2.1) fa69.2.2 hin68 hat68 (g := (mkF m 107 #[.val (.int p1), .val (.ref a2), .val (.int (3 : Int32)), .val (.int (0 : Int32)), .unset] [(.int (p1 >>> ((12 : Int32) &&& 31))), (.ref w1), (.int (5 : Int32)), (.ref a2)])) rfl rfl (hb hby d1_107) _ ?_
                show Steps p.tables e below (T67.setTop (mkF m 108 #[.val (.int p1), .val (.ref a2), .val (.int (3 : Int32)), .val (.int (0 : Int32)), .unset] [(.int (own_tab (p1 >>> ((12 : Int32) &&& 31)))), (.int (5 : Int32)), (.ref a2)])) _
                refine st70 _ ?_
                show Steps p.tables e below (T70.setTop (mkF m 109 #[.val (.int p1), .val (.ref a2), .val (.int (3 : Int32)), .val (.int (0 : Int32)), .unset] [])) _
                refine own_blk X70 hx bl1_109_4 (own_hb hby bd1_109_4) (pc' := 113) (Ls' := #[.val (.int p1), .val (.ref a2), .val (.int (3 : Int32)), .val (.int (0 : Int32)), .unset]) (st' := [(.int (6 : Int32)), (.ref a2)]) rfl ?_
                refine st74 _ ?_
                show Steps p.tables e below (T74.setTop (mkF m 116 #[.val (.int p1), .val (.ref a2), .val (.int (3 : Int32)), .val (.int (0 : Int32)), .unset] [(.ref w1), (.int (6 : Int32)), (.ref a2)])) _
                refine own_blk X74 hx bl1_116_5 (own_hb hby bd1_116_5) (pc' := 123) (Ls' := #[.val (.int p1), .val (.ref a2), .val (.int (3 : Int32)), .val (.int (0 : Int32)), .unset]) (st' := [(.int ((p1 >>> ((8 : Int32) &&& 31)) &&& (15 : Int32))), (.ref w1), (.int (6 : Int32)), (.ref a2)]) rfl ?_
                refine X74.baloadBytes hx (j := ((p1 >>> ((8 : Int32) &&& 31)) &&& (15 : Int32))) (v := (.int (own_tab ((p1 >>> ((8 : Int32) &&& 31)) &&& (15 : Int32))))) (by rw [e74]; exact fa76.1) (State.isArrayOf_alike hZ.alike fa76.2.1) fa76.2.2 hin75 hat75 (g := (mkF m 123 #[.val (.int p1), .val (.ref a2), .val (.int (3 : Int32)), .val (.int (0 : Int32)), .unset] [(.int ((p1 >>> ((8 : Int32) &&& 31)) &&& (15 : Int32))), (.ref w1), (.int (6 : Int32)), (.ref a2)])) rfl rfl (hb hby d1_123) _ ?_
                show Steps p.tables e below (T74.setTop (mkF m 124 #[.val (.int p1), .val (.ref a2), .val (.int (3 : Int32)), .val (.int (0 : Int32)), .unset] [(.int (own_tab ((p1 >>> ((8 : Int32) &&& 31)) &&& (15 : Int32)))), (.int (6 : Int32)), (.ref a2)])) _
                refine st77 _ ?_
                show Steps p.tables e below (T77.setTop (mkF m 125 #[.val (.int p1), .val (.ref a2), .val (.int (3 : Int32)), .val (.int (0 : Int32)), .unset] [])) _
                refine own_blk X77 hx bl1_125_4 (own_hb hby bd1_125_4) (pc' := 129) (Ls' := #[.val (.int p1), .val (.ref a2), .val (.int (3 : Int32)), .val (.int (0 : Int32)), .unset]) (st' := [(.int (7 : Int32)), (.ref a2)]) rfl ?_
                refine st81 _ ?_
                show Steps p.tables e below (T81.setTop (mkF m 132 #[.val (.int p1), .val (.ref a2), .val (.int (3 : Int32)), .val (.int (0 : Int32)), .unset] [(.ref w1), (.int (7 : Int32)), (.ref a2)])) _
                refine own_blk X81 hx bl1_132_5 (own_hb hby bd1_132_5) (pc' := 138) (Ls' := #[.val (.int p1), .val (.ref a2), .val (.int (3 : Int32)), .val (.int (0 : Int32)), .unset]) (st' := [(.int ((p1 >>> ((4 : Int32) &&& 31)) &&& (15 : Int32))), (.ref w1), (.int (7 : Int32)), (.ref a2)]) rfl ?_
                refine X81.baloadBytes hx (j := ((p1 >>> ((4 : Int32) &&& 31)) &&& (15 : Int32))) (v := (.int (own_tab ((p1 >>> ((4 : Int32) &&& 31)) &&& (15 : Int32))))) (by rw [e81]; exact fa83.1) (State.isArrayOf_alike hZ.alike fa83.2.1) fa83.2.2 hin82 hat82 (g := (mkF m 138 #[.val (.int p1), .val (.ref a2), .val (.int (3 : Int32)), .val (.int (0 : Int32)), .unset] [(.int ((p1 >>> ((4 : Int32) &&& 31)) &&& (15 : Int32))), (.ref w1), (.int (7 : Int32)), (.ref a2)])) rfl rfl (hb hby d1_138) _ ?_
                show Steps p.tables e below (T81.setTop (mkF m 139 #[.val (.int p1), .val (.ref a2), .val (.int (3 : Int32)), .val (.int (0 : Int32)), .unset] [(.int (own_tab ((p1 >>> ((4 : Int32) &&& 31)) &&& (15 : Int32)))), (.int (7 : Int32)), (.ref a2)])) _
                refine st84 _ ?_
                show Steps p.tables e below (T84.setTop (mkF m 140 #[.val (.int p1), .val (.ref a2), .val (.int (3 : Int32)), .val (.int (0 : Int32)), .unset] [])) _
                refine own_blk X84 hx bl1_140_4 (own_hb hby bd1_140_4) (pc' := 144) (Ls' := #[.val (.int p1), .val (.ref a2), .val (.int (3 : Int32)), .val (.int (0 : Int32)), .unset]) (st' := [(.int (8 : Int32)), (.ref a2)]) rfl ?_
                refine st88 _ ?_
                show Steps p.tables e below (T88.setTop (mkF m 147 #[.val (.int p1), .val (.ref a2), .val (.int (3 : Int32)), .val (.int (0 : Int32)), .unset] [(.ref w1), (.int (8 : Int32)), (.ref a2)])) _
                refine own_blk X88 hx bl1_147_3 (own_hb hby bd1_147_3) (pc' := 151) (Ls' := #[.val (.int p1), .val (.ref a2), .val (.int (3 : Int32)), .val (.int (0 : Int32)), .unset]) (st' := [(.int (p1 &&& (15 : Int32))), (.ref w1), (.int (8 : Int32)), (.ref a2)]) rfl ?_
                refine X88.baloadBytes hx (j := (p1 &&& (15 : Int32))) (v := (.int (own_tab (p1 &&& (15 : Int32))))) (by rw [e88]; exact fa90.1) (State.isArrayOf_alike hZ.alike fa90.2.1) fa90.2.2 hin89 hat89 (g := (mkF m 151 #[.val (.int p1), .val (.ref a2), .val (.int (3 : Int32)), .val (.int (0 : Int32)), .unset] [(.int (p1 &&& (15 : Int32))), (.ref w1), (.int (8 : Int32)), (.ref a2)])) rfl rfl (hb hby d1_151) _ ?_
                show Steps p.tables e below (T88.setTop (mkF m 152 #[.val (.int p1), .val (.ref a2), .val (.int (3 : Int32)), .val (.int (0 : Int32)), .unset] [(.int (own_tab (p1 &&& (15 : Int32)))), (.int (8 : Int32)), (.ref a2)])) _
                refine st91 _ ?_
                show Steps p.tables e below (T91.setTop (mkF m 153 #[.val (.int p1), .val (.ref a2), .val (.int (3 : Int32)), .val (.int (0 : Int32)), .unset] [])) _
                refine own_blk X91 hx bl1_153_4 (own_hb hby bd1_153_4) (pc' := 159) (Ls' := #[.val (.int p1), .val (.ref a2), .val (.int (3 : Int32)), .val (.int (0 : Int32)), .val (.int (9 : Int32))]) (st' := []) rfl ?_
                refine own_blk X91 hx bl1_159_1 (own_hb hby bd1_159_1) (pc' := 161) (Ls' := #[.val (.int p1), .val (.ref a2), .val (.int (3 : Int32)), .val (.int (0 : Int32)), .val (.int (9 : Int32))]) (st' := [(.int (9 : Int32))]) rfl ?_
                exact retI X91 hx Bd.returns (hb hby d1_161) hr
              · show Q1_3 Z p1 a2 u w1 cl1 k_a2 h0 n0 _ T91.heap _
                rw [e91]
                have lf94 : Arv Z h91 a2 k_a2 .byte (10 : Int32) [(.int (f1_3_a2_0 p1 u)), (.int (f1_3_a2_1 p1 u)), (.int (f1_3_a2_2 p1 u)), (.int (f1_3_a2_3 p1 u)), (.int (f1_3_a2_4 p1 u)), (.int (f1_3_a2_5 p1 u)), (.int (f1_3_a2_6 p1 u)), (.int (f1_3_a2_7 p1 u)), (.int (f1_3_a2_8 p1 u)), (.int (f1_3_a2_9 p1 u))] (.int (0 : Int32)) := by simp only [f1_3_a2_0, f1_3_a2_1, f1_3_a2_2, f1_3_a2_3, f1_3_a2_4, f1_3_a2_5, f1_3_a2_6, f1_3_a2_7, f1_3_a2_8, f1_3_a2_9, if_neg hc5, if_neg hc10, if_neg hc15, if_neg hc20, if_neg hc53, if_neg hc58]; exact V91
                exact ⟨by rw [f1_3, if_neg hc5, if_neg hc10, if_neg hc15, if_neg hc20, if_neg hc53, if_neg hc58], N91, kp93, lf94⟩
theorem own_end3n (tc u : Int32) (h : ¬ (f2 tc) = (0 : Int32)) : (f1_3 tc u) = (5 : Int32) := by
  by_cases h8 : tc = 8
  · subst h8; rfl
  by_cases h9 : tc = 9
  · subst h9; rfl
  by_cases h10 : tc = 10
  · subst h10; rfl
  by_cases h12 : tc = 12
  · subst h12; rfl
  by_cases h13 : tc = 13
  · subst h13; rfl
  have hsf : f2 tc = 0 := by rw [f2, if_neg h8, if_neg h9, if_neg h10, if_neg h12, if_neg h13]
  exact absurd hsf h
theorem own_end3z (tc u : Int32) (h : (f2 tc) = (0 : Int32)) : (f1_3 tc u) = (9 : Int32) := by
  by_cases h8 : tc = 8
  · subst h8; exact absurd h (by decide)
  by_cases h9 : tc = 9
  · subst h9; exact absurd h (by decide)
  by_cases h10 : tc = 10
  · subst h10; exact absurd h (by decide)
  by_cases h12 : tc = 12
  · subst h12; exact absurd h (by decide)
  by_cases h13 : tc = 13
  · subst h13; exact absurd h (by decide)
  unfold f1_3
  simp only [h8, h9, h10, h12, h13, if_false, ite_self]
theorem own_e3_0 (tc t2 : Int32) (hp : ¬ tc < 0) (hp2 : tc < 65536) : (f1_3_a2_0 tc (nar .byte (t2.toInt8.toInt32))) = (f3 (0 : Int32) (3 : Int32) tc (t2.toInt8.toInt32)) := by
  have n1 := own_nib tc hp hp2
  by_cases h8 : tc = 8
  · subst h8; rfl
  by_cases h9 : tc = 9
  · subst h9; rfl
  by_cases h10 : tc = 10
  · subst h10; rfl
  by_cases h12 : tc = 12
  · subst h12; rfl
  by_cases h13 : tc = 13
  · subst h13; rfl
  have hsf : f2 tc = 0 := by rw [f2, if_neg h8, if_neg h9, if_neg h10, if_neg h12, if_neg h13]
  unfold f1_3_a2_0 f3
  simp only [hsf, h8, h9, h10, h12, h13, if_false, ite_self]
  first | rfl | exact n1.1 | exact n1.2.1 | exact n1.2.2.1 | exact n1.2.2.2
theorem own_e3_1 (tc t2 : Int32) (hp : ¬ tc < 0) (hp2 : tc < 65536) : (f1_3_a2_1 tc (nar .byte (t2.toInt8.toInt32))) = (f3 (1 : Int32) (3 : Int32) tc (t2.toInt8.toInt32)) := by
  have n1 := own_nib tc hp hp2
  by_cases h8 : tc = 8
  · subst h8; rfl
  by_cases h9 : tc = 9
  · subst h9; rfl
  by_cases h10 : tc = 10
  · subst h10; rfl
  by_cases h12 : tc = 12
  · subst h12; rfl
  by_cases h13 : tc = 13
  · subst h13; rfl
  have hsf : f2 tc = 0 := by rw [f2, if_neg h8, if_neg h9, if_neg h10, if_neg h12, if_neg h13]
  unfold f1_3_a2_1 f3
  simp only [hsf, h8, h9, h10, h12, h13, if_false, ite_self]
  first | rfl | exact n1.1 | exact n1.2.1 | exact n1.2.2.1 | exact n1.2.2.2
theorem own_e3_2 (tc t2 : Int32) (hp : ¬ tc < 0) (hp2 : tc < 65536) : (f1_3_a2_2 tc (nar .byte (t2.toInt8.toInt32))) = (f3 (2 : Int32) (3 : Int32) tc (t2.toInt8.toInt32)) := by
  have n1 := own_nib tc hp hp2
  by_cases h8 : tc = 8
  · subst h8; rfl
  by_cases h9 : tc = 9
  · subst h9; rfl
  by_cases h10 : tc = 10
  · subst h10; rfl
  by_cases h12 : tc = 12
  · subst h12; rfl
  by_cases h13 : tc = 13
  · subst h13; rfl
  have hsf : f2 tc = 0 := by rw [f2, if_neg h8, if_neg h9, if_neg h10, if_neg h12, if_neg h13]
  unfold f1_3_a2_2 f3
  simp only [hsf, h8, h9, h10, h12, h13, if_false, ite_self]
  first | rfl | exact n1.1 | exact n1.2.1 | exact n1.2.2.1 | exact n1.2.2.2
theorem own_e3_3 (tc t2 : Int32) (hp : ¬ tc < 0) (hp2 : tc < 65536) : (f1_3_a2_3 tc (nar .byte (t2.toInt8.toInt32))) = (f3 (3 : Int32) (3 : Int32) tc (t2.toInt8.toInt32)) := by
  have n1 := own_nib tc hp hp2
  by_cases h8 : tc = 8
  · subst h8; rfl
  by_cases h9 : tc = 9
  · subst h9; rfl
  by_cases h10 : tc = 10
  · subst h10; rfl
  by_cases h12 : tc = 12
  · subst h12; rfl
  by_cases h13 : tc = 13
  · subst h13; rfl
  have hsf : f2 tc = 0 := by rw [f2, if_neg h8, if_neg h9, if_neg h10, if_neg h12, if_neg h13]
  unfold f1_3_a2_3 f3
  simp only [hsf, h8, h9, h10, h12, h13, if_false, ite_self]
  first | rfl | exact n1.1 | exact n1.2.1 | exact n1.2.2.1 | exact n1.2.2.2
theorem own_e3_4 (tc t2 : Int32) (hp : ¬ tc < 0) (hp2 : tc < 65536) : (f1_3_a2_4 tc (nar .byte (t2.toInt8.toInt32))) = (f3 (4 : Int32) (3 : Int32) tc (t2.toInt8.toInt32)) := by
  have n1 := own_nib tc hp hp2
  by_cases h8 : tc = 8
  · subst h8; rfl
  by_cases h9 : tc = 9
  · subst h9; rfl
  by_cases h10 : tc = 10
  · subst h10; rfl
  by_cases h12 : tc = 12
  · subst h12; rfl
  by_cases h13 : tc = 13
  · subst h13; rfl
  have hsf : f2 tc = 0 := by rw [f2, if_neg h8, if_neg h9, if_neg h10, if_neg h12, if_neg h13]
  unfold f1_3_a2_4 f3
  simp only [hsf, h8, h9, h10, h12, h13, if_false, ite_self]
  first | rfl | exact n1.1 | exact n1.2.1 | exact n1.2.2.1 | exact n1.2.2.2
theorem own_e3_5 (tc t2 : Int32) (hp : ¬ tc < 0) (hp2 : tc < 65536) : (f1_3_a2_5 tc (nar .byte (t2.toInt8.toInt32))) = (f3 (5 : Int32) (3 : Int32) tc (t2.toInt8.toInt32)) := by
  have n1 := own_nib tc hp hp2
  by_cases h8 : tc = 8
  · subst h8; rfl
  by_cases h9 : tc = 9
  · subst h9; rfl
  by_cases h10 : tc = 10
  · subst h10; rfl
  by_cases h12 : tc = 12
  · subst h12; rfl
  by_cases h13 : tc = 13
  · subst h13; rfl
  have hsf : f2 tc = 0 := by rw [f2, if_neg h8, if_neg h9, if_neg h10, if_neg h12, if_neg h13]
  unfold f1_3_a2_5 f3
  simp only [hsf, h8, h9, h10, h12, h13, if_false, ite_self]
  first | rfl | exact n1.1 | exact n1.2.1 | exact n1.2.2.1 | exact n1.2.2.2
theorem own_e3_6 (tc t2 : Int32) (hp : ¬ tc < 0) (hp2 : tc < 65536) : (f1_3_a2_6 tc (nar .byte (t2.toInt8.toInt32))) = (f3 (6 : Int32) (3 : Int32) tc (t2.toInt8.toInt32)) := by
  have n1 := own_nib tc hp hp2
  by_cases h8 : tc = 8
  · subst h8; rfl
  by_cases h9 : tc = 9
  · subst h9; rfl
  by_cases h10 : tc = 10
  · subst h10; rfl
  by_cases h12 : tc = 12
  · subst h12; rfl
  by_cases h13 : tc = 13
  · subst h13; rfl
  have hsf : f2 tc = 0 := by rw [f2, if_neg h8, if_neg h9, if_neg h10, if_neg h12, if_neg h13]
  unfold f1_3_a2_6 f3
  simp only [hsf, h8, h9, h10, h12, h13, if_false, ite_self]
  first | rfl | exact n1.1 | exact n1.2.1 | exact n1.2.2.1 | exact n1.2.2.2
theorem own_e3_7 (tc t2 : Int32) (hp : ¬ tc < 0) (hp2 : tc < 65536) : (f1_3_a2_7 tc (nar .byte (t2.toInt8.toInt32))) = (f3 (7 : Int32) (3 : Int32) tc (t2.toInt8.toInt32)) := by
  have n1 := own_nib tc hp hp2
  by_cases h8 : tc = 8
  · subst h8; rfl
  by_cases h9 : tc = 9
  · subst h9; rfl
  by_cases h10 : tc = 10
  · subst h10; rfl
  by_cases h12 : tc = 12
  · subst h12; rfl
  by_cases h13 : tc = 13
  · subst h13; rfl
  have hsf : f2 tc = 0 := by rw [f2, if_neg h8, if_neg h9, if_neg h10, if_neg h12, if_neg h13]
  unfold f1_3_a2_7 f3
  simp only [hsf, h8, h9, h10, h12, h13, if_false, ite_self]
  first | rfl | exact n1.1 | exact n1.2.1 | exact n1.2.2.1 | exact n1.2.2.2
theorem own_e3_8 (tc t2 : Int32) (hp : ¬ tc < 0) (hp2 : tc < 65536) : (f1_3_a2_8 tc (nar .byte (t2.toInt8.toInt32))) = (f3 (8 : Int32) (3 : Int32) tc (t2.toInt8.toInt32)) := by
  have n1 := own_nib tc hp hp2
  by_cases h8 : tc = 8
  · subst h8; rfl
  by_cases h9 : tc = 9
  · subst h9; rfl
  by_cases h10 : tc = 10
  · subst h10; rfl
  by_cases h12 : tc = 12
  · subst h12; rfl
  by_cases h13 : tc = 13
  · subst h13; rfl
  have hsf : f2 tc = 0 := by rw [f2, if_neg h8, if_neg h9, if_neg h10, if_neg h12, if_neg h13]
  unfold f1_3_a2_8 f3
  simp only [hsf, h8, h9, h10, h12, h13, if_false, ite_self]
  first | rfl | exact n1.1 | exact n1.2.1 | exact n1.2.2.1 | exact n1.2.2.2
theorem own_e3_9 (tc t2 : Int32) (hp : ¬ tc < 0) (hp2 : tc < 65536) : (f1_3_a2_9 tc (nar .byte (t2.toInt8.toInt32))) = (f3 (9 : Int32) (3 : Int32) tc (t2.toInt8.toInt32)) := by
  have n1 := own_nib tc hp hp2
  by_cases h8 : tc = 8
  · subst h8; rfl
  by_cases h9 : tc = 9
  · subst h9; rfl
  by_cases h10 : tc = 10
  · subst h10; rfl
  by_cases h12 : tc = 12
  · subst h12; rfl
  by_cases h13 : tc = 13
  · subst h13; rfl
  have hsf : f2 tc = 0 := by rw [f2, if_neg h8, if_neg h9, if_neg h10, if_neg h12, if_neg h13]
  unfold f1_3_a2_9 f3
  simp only [hsf, h8, h9, h10, h12, h13, if_false, ite_self]
  first | rfl | exact n1.1 | exact n1.2.1 | exact n1.2.2.1 | exact n1.2.2.2
def fB3 (t0 : Int32) (t1 : Int32) (t2 : Int32) (t3 : Int32) (tc : Int32) (t9 : Int32) (t10 : Int32) : Int32 := (1 : Int32)
set_option maxRecDepth 65536 in
set_option maxHeartbeats 40000000 in
theorem tlB3 {p : Program} {l : Launch} {e : Env} {s : State} {m : MethodId} {args : Array Value} {below : List Frame} {meth : Method} {c : Code} {s₁ T0 : State} {locs : List Loc} {Z : State} {a0 : Array Value} {h0 : Heap} {n0 : Nat} {E : JFrame} (t0 : Int32) (t1 : Int32) (t2 : Int32) (t3 : Int32) (tc : Int32) (t9 : Int32) (t10 : Int32) (tb : Addr) (tk : ClassId)
    (X0 : Stand p l e room_1 s m args below meth c T0 locs 1 10) (hx : p.tables.exec = Jvm.exec) (hZ : Z.Warmed39 s.vm) (hw : ∀ d ∈ tables_1, d.before a0 Z = true) (hby : c.code = code) (hml : c.maxLocals = 12) (hown : s.vm.findClass "com/example/endcon/endcon/rules/LineTextEscapePinLaw" = some m.cls) (hret : meth.sig.returnType = some .boolean) (hlk : meth.locks = false) (e0 : T0.heap = h0) (N0 : Fr n0 locs) (Z0 : n0 ≤ h0.size)
    (pre0 : ∀ t, Steps p.tables e below (T0.setTop (mkF m 176 #[.val (.int t0), .val (.int t1), .val (.int t2), .val (.int t3), .val (.int tc), .val (.int tc), .val (.int (3 : Int32)), .val (.int (t2.toInt8.toInt32)), .val (.ref tb), .val (.int t9), .val (.int t10), .val (.int (1 : Int32))] [])) t → Steps p.tables e below (s₁.setTop E) t) (V_tb : Arv Z h0 tb tk .byte (10 : Int32) [(.int (f1_3_a2_0 tc (nar .byte (t2.toInt8.toInt32)))), (.int (f1_3_a2_1 tc (nar .byte (t2.toInt8.toInt32)))), (.int (f1_3_a2_2 tc (nar .byte (t2.toInt8.toInt32)))), (.int (f1_3_a2_3 tc (nar .byte (t2.toInt8.toInt32)))), (.int (f1_3_a2_4 tc (nar .byte (t2.toInt8.toInt32)))), (.int (f1_3_a2_5 tc (nar .byte (t2.toInt8.toInt32)))), (.int (f1_3_a2_6 tc (nar .byte (t2.toInt8.toInt32)))), (.int (f1_3_a2_7 tc (nar .byte (t2.toInt8.toInt32)))), (.int (f1_3_a2_8 tc (nar .byte (t2.toInt8.toInt32)))), (.int (f1_3_a2_9 tc (nar .byte (t2.toInt8.toInt32))))] (.int (0 : Int32))) (hp : ¬ (tc < 0)) (hp2 : tc < 65536) :
    ∃ s₂ o, Steps p.tables e below (s₁.setTop E) s₂ ∧ s₂.status = .running ∧ Ended s₂ below o ∧ ∃ v L, o = .returned v ∧ (v = some (.int (fB3 t0 t1 t2 t3 tc t9 t10)) ∧ Fr n0 L) ∧ FrameEnd s o s₂ L room_1.cells room_1.slots := by
  obtain ⟨cx1, Ar1, qq1, S1, N1_, H1, G1⟩ := id V_tb
  have hin1 : ¬ ((0 : Int32) < 0 ∨ cx1.slots.size ≤ ((0 : Int32)).toNatClampNeg) := inb_of S1 ⟨by decide, by decide⟩
  have hat1 : cx1.slots[((0 : Int32)).toNatClampNeg]? = some (.int (f1_3_a2_0 tc (nar .byte (t2.toInt8.toInt32)))) := (H1 ((0 : Int32)).toNatClampNeg (Nat.lt_of_not_le fun w => hin1 (Or.inr w))).trans (congrArg some (rfl))
  obtain ⟨_, T2, Lc2, X2, hQ2, st2⟩ := own_callS X0 hx hZ (y := (⟨"com/example/endcon/endcon/rules/LineTextEscapePinLaw", "expectedAt", "(IIIB)B"⟩ : MethodName)) hown (hw _ (List.mem_of_getElem? (i := 12) rfl)) (hw _ (List.mem_of_getElem? (i := 13) rfl)) (hw _ (List.mem_of_getElem? (i := 10) rfl)) (hw _ (List.mem_of_getElem? (i := 14) rfl)) (by decide) (W := 1) (argsL := [(.int (0 : Int32)), (.int (3 : Int32)), (.int tc), (.int (t2.toInt8.toInt32))]) (rest := [(.int (f1_3_a2_0 tc (nar .byte (t2.toInt8.toInt32))))]) (rm3 l Z a0 hw [] (0 : Int32) (3 : Int32) tc (t2.toInt8.toInt32) h0 n0 Z0 ) (by decide) (by decide) (c' := 1) (s' := 10) rfl rfl (by decide) (by decide) e0 (g := (mkF m 192 #[.val (.int t0), .val (.int t1), .val (.int t2), .val (.int t3), .val (.int tc), .val (.int tc), .val (.int (3 : Int32)), .val (.int (t2.toInt8.toInt32)), .val (.ref tb), .val (.int t9), .val (.int t10), .val (.int (1 : Int32))] [(.int (t2.toInt8.toInt32)), (.int tc), (.int (3 : Int32)), (.int (0 : Int32)), (.int (f1_3_a2_0 tc (nar .byte (t2.toInt8.toInt32))))])) rfl (by rw [hml]; rfl) (lenOf pd_0_2 rfl) rfl (by show 2 * 0 + _ ≤ _; exact Nat.le_of_eq rfl) (hb hby at_192)
  obtain ⟨rfl, N2q, e2⟩ := hQ2
  have N2 := Fr.app N0 N2q
  obtain ⟨cx3, Ar3, qq3, S3, N3_, H3, G3⟩ := id V_tb
  have hin3 : ¬ ((1 : Int32) < 0 ∨ cx3.slots.size ≤ ((1 : Int32)).toNatClampNeg) := inb_of S3 ⟨by decide, by decide⟩
  have hat3 : cx3.slots[((1 : Int32)).toNatClampNeg]? = some (.int (f1_3_a2_1 tc (nar .byte (t2.toInt8.toInt32)))) := (H3 ((1 : Int32)).toNatClampNeg (Nat.lt_of_not_le fun w => hin3 (Or.inr w))).trans (congrArg some (rfl))
  obtain ⟨_, T4, Lc4, X4, hQ4, st4⟩ := own_callS X2 hx hZ (y := (⟨"com/example/endcon/endcon/rules/LineTextEscapePinLaw", "expectedAt", "(IIIB)B"⟩ : MethodName)) hown (hw _ (List.mem_of_getElem? (i := 12) rfl)) (hw _ (List.mem_of_getElem? (i := 13) rfl)) (hw _ (List.mem_of_getElem? (i := 10) rfl)) (hw _ (List.mem_of_getElem? (i := 14) rfl)) (by decide) (W := 1) (argsL := [(.int (1 : Int32)), (.int (3 : Int32)), (.int tc), (.int (t2.toInt8.toInt32))]) (rest := [(.int (f1_3_a2_1 tc (nar .byte (t2.toInt8.toInt32))))]) (rm3 l Z a0 hw [] (1 : Int32) (3 : Int32) tc (t2.toInt8.toInt32) h0 n0 Z0 ) (by decide) (by decide) (c' := 1) (s' := 10) rfl rfl (by decide) (by decide) e2 (g := (mkF m 221 #[.val (.int t0), .val (.int t1), .val (.int t2), .val (.int t3), .val (.int tc), .val (.int tc), .val (.int (3 : Int32)), .val (.int (t2.toInt8.toInt32)), .val (.ref tb), .val (.int t9), .val (.int t10), .val (.int (1 : Int32))] [(.int (t2.toInt8.toInt32)), (.int tc), (.int (3 : Int32)), (.int (1 : Int32)), (.int (f1_3_a2_1 tc (nar .byte (t2.toInt8.toInt32))))])) rfl (by rw [hml]; rfl) (lenOf pd_0_2 rfl) rfl (by show 2 * 0 + _ ≤ _; exact Nat.le_of_eq rfl) (hb hby at_221)
  obtain ⟨rfl, N4q, e4⟩ := hQ4
  have N4 := Fr.app N2 N4q
  obtain ⟨cx5, Ar5, qq5, S5, N5_, H5, G5⟩ := id V_tb
  have hin5 : ¬ ((2 : Int32) < 0 ∨ cx5.slots.size ≤ ((2 : Int32)).toNatClampNeg) := inb_of S5 ⟨by decide, by decide⟩
  have hat5 : cx5.slots[((2 : Int32)).toNatClampNeg]? = some (.int (f1_3_a2_2 tc (nar .byte (t2.toInt8.toInt32)))) := (H5 ((2 : Int32)).toNatClampNeg (Nat.lt_of_not_le fun w => hin5 (Or.inr w))).trans (congrArg some (rfl))
  obtain ⟨_, T6, Lc6, X6, hQ6, st6⟩ := own_callS X4 hx hZ (y := (⟨"com/example/endcon/endcon/rules/LineTextEscapePinLaw", "expectedAt", "(IIIB)B"⟩ : MethodName)) hown (hw _ (List.mem_of_getElem? (i := 12) rfl)) (hw _ (List.mem_of_getElem? (i := 13) rfl)) (hw _ (List.mem_of_getElem? (i := 10) rfl)) (hw _ (List.mem_of_getElem? (i := 14) rfl)) (by decide) (W := 1) (argsL := [(.int (2 : Int32)), (.int (3 : Int32)), (.int tc), (.int (t2.toInt8.toInt32))]) (rest := [(.int (f1_3_a2_2 tc (nar .byte (t2.toInt8.toInt32))))]) (rm3 l Z a0 hw [] (2 : Int32) (3 : Int32) tc (t2.toInt8.toInt32) h0 n0 Z0 ) (by decide) (by decide) (c' := 1) (s' := 10) rfl rfl (by decide) (by decide) e4 (g := (mkF m 250 #[.val (.int t0), .val (.int t1), .val (.int t2), .val (.int t3), .val (.int tc), .val (.int tc), .val (.int (3 : Int32)), .val (.int (t2.toInt8.toInt32)), .val (.ref tb), .val (.int t9), .val (.int t10), .val (.int (1 : Int32))] [(.int (t2.toInt8.toInt32)), (.int tc), (.int (3 : Int32)), (.int (2 : Int32)), (.int (f1_3_a2_2 tc (nar .byte (t2.toInt8.toInt32))))])) rfl (by rw [hml]; rfl) (lenOf pd_0_2 rfl) rfl (by show 2 * 0 + _ ≤ _; exact Nat.le_of_eq rfl) (hb hby at_250)
  obtain ⟨rfl, N6q, e6⟩ := hQ6
  have N6 := Fr.app N4 N6q
  obtain ⟨cx7, Ar7, qq7, S7, N7_, H7, G7⟩ := id V_tb
  have hin7 : ¬ ((3 : Int32) < 0 ∨ cx7.slots.size ≤ ((3 : Int32)).toNatClampNeg) := inb_of S7 ⟨by decide, by decide⟩
  have hat7 : cx7.slots[((3 : Int32)).toNatClampNeg]? = some (.int (f1_3_a2_3 tc (nar .byte (t2.toInt8.toInt32)))) := (H7 ((3 : Int32)).toNatClampNeg (Nat.lt_of_not_le fun w => hin7 (Or.inr w))).trans (congrArg some (rfl))
  obtain ⟨_, T8, Lc8, X8, hQ8, st8⟩ := own_callS X6 hx hZ (y := (⟨"com/example/endcon/endcon/rules/LineTextEscapePinLaw", "expectedAt", "(IIIB)B"⟩ : MethodName)) hown (hw _ (List.mem_of_getElem? (i := 12) rfl)) (hw _ (List.mem_of_getElem? (i := 13) rfl)) (hw _ (List.mem_of_getElem? (i := 10) rfl)) (hw _ (List.mem_of_getElem? (i := 14) rfl)) (by decide) (W := 1) (argsL := [(.int (3 : Int32)), (.int (3 : Int32)), (.int tc), (.int (t2.toInt8.toInt32))]) (rest := [(.int (f1_3_a2_3 tc (nar .byte (t2.toInt8.toInt32))))]) (rm3 l Z a0 hw [] (3 : Int32) (3 : Int32) tc (t2.toInt8.toInt32) h0 n0 Z0 ) (by decide) (by decide) (c' := 1) (s' := 10) rfl rfl (by decide) (by decide) e6 (g := (mkF m 279 #[.val (.int t0), .val (.int t1), .val (.int t2), .val (.int t3), .val (.int tc), .val (.int tc), .val (.int (3 : Int32)), .val (.int (t2.toInt8.toInt32)), .val (.ref tb), .val (.int t9), .val (.int t10), .val (.int (1 : Int32))] [(.int (t2.toInt8.toInt32)), (.int tc), (.int (3 : Int32)), (.int (3 : Int32)), (.int (f1_3_a2_3 tc (nar .byte (t2.toInt8.toInt32))))])) rfl (by rw [hml]; rfl) (lenOf pd_0_2 rfl) rfl (by show 2 * 0 + _ ≤ _; exact Nat.le_of_eq rfl) (hb hby at_279)
  obtain ⟨rfl, N8q, e8⟩ := hQ8
  have N8 := Fr.app N6 N8q
  obtain ⟨cx9, Ar9, qq9, S9, N9_, H9, G9⟩ := id V_tb
  have hin9 : ¬ ((4 : Int32) < 0 ∨ cx9.slots.size ≤ ((4 : Int32)).toNatClampNeg) := inb_of S9 ⟨by decide, by decide⟩
  have hat9 : cx9.slots[((4 : Int32)).toNatClampNeg]? = some (.int (f1_3_a2_4 tc (nar .byte (t2.toInt8.toInt32)))) := (H9 ((4 : Int32)).toNatClampNeg (Nat.lt_of_not_le fun w => hin9 (Or.inr w))).trans (congrArg some (rfl))
  obtain ⟨_, T10, Lc10, X10, hQ10, st10⟩ := own_callS X8 hx hZ (y := (⟨"com/example/endcon/endcon/rules/LineTextEscapePinLaw", "expectedAt", "(IIIB)B"⟩ : MethodName)) hown (hw _ (List.mem_of_getElem? (i := 12) rfl)) (hw _ (List.mem_of_getElem? (i := 13) rfl)) (hw _ (List.mem_of_getElem? (i := 10) rfl)) (hw _ (List.mem_of_getElem? (i := 14) rfl)) (by decide) (W := 1) (argsL := [(.int (4 : Int32)), (.int (3 : Int32)), (.int tc), (.int (t2.toInt8.toInt32))]) (rest := [(.int (f1_3_a2_4 tc (nar .byte (t2.toInt8.toInt32))))]) (rm3 l Z a0 hw [] (4 : Int32) (3 : Int32) tc (t2.toInt8.toInt32) h0 n0 Z0 ) (by decide) (by decide) (c' := 1) (s' := 10) rfl rfl (by decide) (by decide) e8 (g := (mkF m 308 #[.val (.int t0), .val (.int t1), .val (.int t2), .val (.int t3), .val (.int tc), .val (.int tc), .val (.int (3 : Int32)), .val (.int (t2.toInt8.toInt32)), .val (.ref tb), .val (.int t9), .val (.int t10), .val (.int (1 : Int32))] [(.int (t2.toInt8.toInt32)), (.int tc), (.int (3 : Int32)), (.int (4 : Int32)), (.int (f1_3_a2_4 tc (nar .byte (t2.toInt8.toInt32))))])) rfl (by rw [hml]; rfl) (lenOf pd_0_2 rfl) rfl (by show 2 * 0 + _ ≤ _; exact Nat.le_of_eq rfl) (hb hby at_308)
  obtain ⟨rfl, N10q, e10⟩ := hQ10
  have N10 := Fr.app N8 N10q
  obtain ⟨cx11, Ar11, qq11, S11, N11_, H11, G11⟩ := id V_tb
  have hin11 : ¬ ((5 : Int32) < 0 ∨ cx11.slots.size ≤ ((5 : Int32)).toNatClampNeg) := inb_of S11 ⟨by decide, by decide⟩
  have hat11 : cx11.slots[((5 : Int32)).toNatClampNeg]? = some (.int (f1_3_a2_5 tc (nar .byte (t2.toInt8.toInt32)))) := (H11 ((5 : Int32)).toNatClampNeg (Nat.lt_of_not_le fun w => hin11 (Or.inr w))).trans (congrArg some (rfl))
  obtain ⟨_, T12, Lc12, X12, hQ12, st12⟩ := own_callS X10 hx hZ (y := (⟨"com/example/endcon/endcon/rules/LineTextEscapePinLaw", "expectedAt", "(IIIB)B"⟩ : MethodName)) hown (hw _ (List.mem_of_getElem? (i := 12) rfl)) (hw _ (List.mem_of_getElem? (i := 13) rfl)) (hw _ (List.mem_of_getElem? (i := 10) rfl)) (hw _ (List.mem_of_getElem? (i := 14) rfl)) (by decide) (W := 1) (argsL := [(.int (5 : Int32)), (.int (3 : Int32)), (.int tc), (.int (t2.toInt8.toInt32))]) (rest := [(.int (f1_3_a2_5 tc (nar .byte (t2.toInt8.toInt32))))]) (rm3 l Z a0 hw [] (5 : Int32) (3 : Int32) tc (t2.toInt8.toInt32) h0 n0 Z0 ) (by decide) (by decide) (c' := 1) (s' := 10) rfl rfl (by decide) (by decide) e10 (g := (mkF m 337 #[.val (.int t0), .val (.int t1), .val (.int t2), .val (.int t3), .val (.int tc), .val (.int tc), .val (.int (3 : Int32)), .val (.int (t2.toInt8.toInt32)), .val (.ref tb), .val (.int t9), .val (.int t10), .val (.int (1 : Int32))] [(.int (t2.toInt8.toInt32)), (.int tc), (.int (3 : Int32)), (.int (5 : Int32)), (.int (f1_3_a2_5 tc (nar .byte (t2.toInt8.toInt32))))])) rfl (by rw [hml]; rfl) (lenOf pd_0_2 rfl) rfl (by show 2 * 0 + _ ≤ _; exact Nat.le_of_eq rfl) (hb hby at_337)
  obtain ⟨rfl, N12q, e12⟩ := hQ12
  have N12 := Fr.app N10 N12q
  obtain ⟨cx13, Ar13, qq13, S13, N13_, H13, G13⟩ := id V_tb
  have hin13 : ¬ ((6 : Int32) < 0 ∨ cx13.slots.size ≤ ((6 : Int32)).toNatClampNeg) := inb_of S13 ⟨by decide, by decide⟩
  have hat13 : cx13.slots[((6 : Int32)).toNatClampNeg]? = some (.int (f1_3_a2_6 tc (nar .byte (t2.toInt8.toInt32)))) := (H13 ((6 : Int32)).toNatClampNeg (Nat.lt_of_not_le fun w => hin13 (Or.inr w))).trans (congrArg some (rfl))
  obtain ⟨_, T14, Lc14, X14, hQ14, st14⟩ := own_callS X12 hx hZ (y := (⟨"com/example/endcon/endcon/rules/LineTextEscapePinLaw", "expectedAt", "(IIIB)B"⟩ : MethodName)) hown (hw _ (List.mem_of_getElem? (i := 12) rfl)) (hw _ (List.mem_of_getElem? (i := 13) rfl)) (hw _ (List.mem_of_getElem? (i := 10) rfl)) (hw _ (List.mem_of_getElem? (i := 14) rfl)) (by decide) (W := 1) (argsL := [(.int (6 : Int32)), (.int (3 : Int32)), (.int tc), (.int (t2.toInt8.toInt32))]) (rest := [(.int (f1_3_a2_6 tc (nar .byte (t2.toInt8.toInt32))))]) (rm3 l Z a0 hw [] (6 : Int32) (3 : Int32) tc (t2.toInt8.toInt32) h0 n0 Z0 ) (by decide) (by decide) (c' := 1) (s' := 10) rfl rfl (by decide) (by decide) e12 (g := (mkF m 368 #[.val (.int t0), .val (.int t1), .val (.int t2), .val (.int t3), .val (.int tc), .val (.int tc), .val (.int (3 : Int32)), .val (.int (t2.toInt8.toInt32)), .val (.ref tb), .val (.int t9), .val (.int t10), .val (.int (1 : Int32))] [(.int (t2.toInt8.toInt32)), (.int tc), (.int (3 : Int32)), (.int (6 : Int32)), (.int (f1_3_a2_6 tc (nar .byte (t2.toInt8.toInt32))))])) rfl (by rw [hml]; rfl) (lenOf pd_0_2 rfl) rfl (by show 2 * 0 + _ ≤ _; exact Nat.le_of_eq rfl) (hb hby at_368)
  obtain ⟨rfl, N14q, e14⟩ := hQ14
  have N14 := Fr.app N12 N14q
  obtain ⟨cx15, Ar15, qq15, S15, N15_, H15, G15⟩ := id V_tb
  have hin15 : ¬ ((7 : Int32) < 0 ∨ cx15.slots.size ≤ ((7 : Int32)).toNatClampNeg) := inb_of S15 ⟨by decide, by decide⟩
  have hat15 : cx15.slots[((7 : Int32)).toNatClampNeg]? = some (.int (f1_3_a2_7 tc (nar .byte (t2.toInt8.toInt32)))) := (H15 ((7 : Int32)).toNatClampNeg (Nat.lt_of_not_le fun w => hin15 (Or.inr w))).trans (congrArg some (rfl))
  obtain ⟨_, T16, Lc16, X16, hQ16, st16⟩ := own_callS X14 hx hZ (y := (⟨"com/example/endcon/endcon/rules/LineTextEscapePinLaw", "expectedAt", "(IIIB)B"⟩ : MethodName)) hown (hw _ (List.mem_of_getElem? (i := 12) rfl)) (hw _ (List.mem_of_getElem? (i := 13) rfl)) (hw _ (List.mem_of_getElem? (i := 10) rfl)) (hw _ (List.mem_of_getElem? (i := 14) rfl)) (by decide) (W := 1) (argsL := [(.int (7 : Int32)), (.int (3 : Int32)), (.int tc), (.int (t2.toInt8.toInt32))]) (rest := [(.int (f1_3_a2_7 tc (nar .byte (t2.toInt8.toInt32))))]) (rm3 l Z a0 hw [] (7 : Int32) (3 : Int32) tc (t2.toInt8.toInt32) h0 n0 Z0 ) (by decide) (by decide) (c' := 1) (s' := 10) rfl rfl (by decide) (by decide) e14 (g := (mkF m 399 #[.val (.int t0), .val (.int t1), .val (.int t2), .val (.int t3), .val (.int tc), .val (.int tc), .val (.int (3 : Int32)), .val (.int (t2.toInt8.toInt32)), .val (.ref tb), .val (.int t9), .val (.int t10), .val (.int (1 : Int32))] [(.int (t2.toInt8.toInt32)), (.int tc), (.int (3 : Int32)), (.int (7 : Int32)), (.int (f1_3_a2_7 tc (nar .byte (t2.toInt8.toInt32))))])) rfl (by rw [hml]; rfl) (lenOf pd_0_2 rfl) rfl (by show 2 * 0 + _ ≤ _; exact Nat.le_of_eq rfl) (hb hby at_399)
  obtain ⟨rfl, N16q, e16⟩ := hQ16
  have N16 := Fr.app N14 N16q
  obtain ⟨cx17, Ar17, qq17, S17, N17_, H17, G17⟩ := id V_tb
  have hin17 : ¬ ((8 : Int32) < 0 ∨ cx17.slots.size ≤ ((8 : Int32)).toNatClampNeg) := inb_of S17 ⟨by decide, by decide⟩
  have hat17 : cx17.slots[((8 : Int32)).toNatClampNeg]? = some (.int (f1_3_a2_8 tc (nar .byte (t2.toInt8.toInt32)))) := (H17 ((8 : Int32)).toNatClampNeg (Nat.lt_of_not_le fun w => hin17 (Or.inr w))).trans (congrArg some (rfl))
  obtain ⟨_, T18, Lc18, X18, hQ18, st18⟩ := own_callS X16 hx hZ (y := (⟨"com/example/endcon/endcon/rules/LineTextEscapePinLaw", "expectedAt", "(IIIB)B"⟩ : MethodName)) hown (hw _ (List.mem_of_getElem? (i := 12) rfl)) (hw _ (List.mem_of_getElem? (i := 13) rfl)) (hw _ (List.mem_of_getElem? (i := 10) rfl)) (hw _ (List.mem_of_getElem? (i := 14) rfl)) (by decide) (W := 1) (argsL := [(.int (8 : Int32)), (.int (3 : Int32)), (.int tc), (.int (t2.toInt8.toInt32))]) (rest := [(.int (f1_3_a2_8 tc (nar .byte (t2.toInt8.toInt32))))]) (rm3 l Z a0 hw [] (8 : Int32) (3 : Int32) tc (t2.toInt8.toInt32) h0 n0 Z0 ) (by decide) (by decide) (c' := 1) (s' := 10) rfl rfl (by decide) (by decide) e16 (g := (mkF m 430 #[.val (.int t0), .val (.int t1), .val (.int t2), .val (.int t3), .val (.int tc), .val (.int tc), .val (.int (3 : Int32)), .val (.int (t2.toInt8.toInt32)), .val (.ref tb), .val (.int t9), .val (.int t10), .val (.int (1 : Int32))] [(.int (t2.toInt8.toInt32)), (.int tc), (.int (3 : Int32)), (.int (8 : Int32)), (.int (f1_3_a2_8 tc (nar .byte (t2.toInt8.toInt32))))])) rfl (by rw [hml]; rfl) (lenOf pd_0_2 rfl) rfl (by show 2 * 0 + _ ≤ _; exact Nat.le_of_eq rfl) (hb hby at_430)
  obtain ⟨rfl, N18q, e18⟩ := hQ18
  have N18 := Fr.app N16 N18q
  obtain ⟨cx19, Ar19, qq19, S19, N19_, H19, G19⟩ := id V_tb
  have hin19 : ¬ ((9 : Int32) < 0 ∨ cx19.slots.size ≤ ((9 : Int32)).toNatClampNeg) := inb_of S19 ⟨by decide, by decide⟩
  have hat19 : cx19.slots[((9 : Int32)).toNatClampNeg]? = some (.int (f1_3_a2_9 tc (nar .byte (t2.toInt8.toInt32)))) := (H19 ((9 : Int32)).toNatClampNeg (Nat.lt_of_not_le fun w => hin19 (Or.inr w))).trans (congrArg some (rfl))
  obtain ⟨_, T20, Lc20, X20, hQ20, st20⟩ := own_callS X18 hx hZ (y := (⟨"com/example/endcon/endcon/rules/LineTextEscapePinLaw", "expectedAt", "(IIIB)B"⟩ : MethodName)) hown (hw _ (List.mem_of_getElem? (i := 12) rfl)) (hw _ (List.mem_of_getElem? (i := 13) rfl)) (hw _ (List.mem_of_getElem? (i := 10) rfl)) (hw _ (List.mem_of_getElem? (i := 14) rfl)) (by decide) (W := 1) (argsL := [(.int (9 : Int32)), (.int (3 : Int32)), (.int tc), (.int (t2.toInt8.toInt32))]) (rest := [(.int (f1_3_a2_9 tc (nar .byte (t2.toInt8.toInt32))))]) (rm3 l Z a0 hw [] (9 : Int32) (3 : Int32) tc (t2.toInt8.toInt32) h0 n0 Z0 ) (by decide) (by decide) (c' := 1) (s' := 10) rfl rfl (by decide) (by decide) e18 (g := (mkF m 461 #[.val (.int t0), .val (.int t1), .val (.int t2), .val (.int t3), .val (.int tc), .val (.int tc), .val (.int (3 : Int32)), .val (.int (t2.toInt8.toInt32)), .val (.ref tb), .val (.int t9), .val (.int t10), .val (.int (1 : Int32))] [(.int (t2.toInt8.toInt32)), (.int tc), (.int (3 : Int32)), (.int (9 : Int32)), (.int (f1_3_a2_9 tc (nar .byte (t2.toInt8.toInt32))))])) rfl (by rw [hml]; rfl) (lenOf pd_0_2 rfl) rfl (by show 2 * 0 + _ ≤ _; exact Nat.le_of_eq rfl) (hb hby at_461)
  obtain ⟨rfl, N20q, e20⟩ := hQ20
  have N20 := Fr.app N18 N20q
  obtain ⟨fs, hr, hrun, hended, hW, hsame⟩ := X20.leave (v := some (.int (1 : Int32))) (fun h => by rw [hret] at h; cases h)
  refine ⟨_, _, pre0 _ ?_, hrun, hended, _, _, rfl, ?_, ⟨_, rfl⟩, hW, hsame.mono (by decide) (by decide)⟩
  · show Steps p.tables e below (T0.setTop (mkF m 176 #[.val (.int t0), .val (.int t1), .val (.int t2), .val (.int t3), .val (.int tc), .val (.int tc), .val (.int (3 : Int32)), .val (.int (t2.toInt8.toInt32)), .val (.ref tb), .val (.int t9), .val (.int t10), .val (.int (1 : Int32))] [])) _
    refine own_blk X0 hx bl0_176_1 (own_hb hby bd0_176_1) (pc' := 178) (Ls' := #[.val (.int t0), .val (.int t1), .val (.int t2), .val (.int t3), .val (.int tc), .val (.int tc), .val (.int (3 : Int32)), .val (.int (t2.toInt8.toInt32)), .val (.ref tb), .val (.int t9), .val (.int t10), .val (.int (1 : Int32))]) (st' := [(.int (1 : Int32))]) rfl ?_
    refine XS.ifNo X0.here hx rfl (hb hby at_178) rfl ((if0 _ _).trans (feq (by decide : ¬ ((1 : Int32) = (0 : Int32)))).1) ?_
    show Steps p.tables e below (T0.setTop (mkF m 181 #[.val (.int t0), .val (.int t1), .val (.int t2), .val (.int t3), .val (.int tc), .val (.int tc), .val (.int (3 : Int32)), .val (.int (t2.toInt8.toInt32)), .val (.ref tb), .val (.int t9), .val (.int t10), .val (.int (1 : Int32))] [])) _
    refine own_blk X0 hx bl0_181_2 (own_hb hby bd0_181_2) (pc' := 184) (Ls' := #[.val (.int t0), .val (.int t1), .val (.int t2), .val (.int t3), .val (.int tc), .val (.int tc), .val (.int (3 : Int32)), .val (.int (t2.toInt8.toInt32)), .val (.ref tb), .val (.int t9), .val (.int t10), .val (.int (1 : Int32))]) (st' := [(.int (0 : Int32)), (.ref tb)]) rfl ?_
    refine X0.baloadBytes hx (j := (0 : Int32)) (v := (.int (f1_3_a2_0 tc (nar .byte (t2.toInt8.toInt32))))) (by rw [e0]; exact Ar1.1) (State.isArrayOf_alike hZ.alike Ar1.2.1) Ar1.2.2 hin1 hat1 (g := (mkF m 184 #[.val (.int t0), .val (.int t1), .val (.int t2), .val (.int t3), .val (.int tc), .val (.int tc), .val (.int (3 : Int32)), .val (.int (t2.toInt8.toInt32)), .val (.ref tb), .val (.int t9), .val (.int t10), .val (.int (1 : Int32))] [(.int (0 : Int32)), (.ref tb)])) rfl rfl (hb hby at_184) _ ?_
    show Steps p.tables e below (T0.setTop (mkF m 185 #[.val (.int t0), .val (.int t1), .val (.int t2), .val (.int t3), .val (.int tc), .val (.int tc), .val (.int (3 : Int32)), .val (.int (t2.toInt8.toInt32)), .val (.ref tb), .val (.int t9), .val (.int t10), .val (.int (1 : Int32))] [(.int (f1_3_a2_0 tc (nar .byte (t2.toInt8.toInt32))))])) _
    refine own_blk X0 hx bl0_185_4 (own_hb hby bd0_185_4) (pc' := 192) (Ls' := #[.val (.int t0), .val (.int t1), .val (.int t2), .val (.int t3), .val (.int tc), .val (.int tc), .val (.int (3 : Int32)), .val (.int (t2.toInt8.toInt32)), .val (.ref tb), .val (.int t9), .val (.int t10), .val (.int (1 : Int32))]) (st' := [(.int (t2.toInt8.toInt32)), (.int tc), (.int (3 : Int32)), (.int (0 : Int32)), (.int (f1_3_a2_0 tc (nar .byte (t2.toInt8.toInt32))))]) rfl ?_
    refine st2 _ ?_
    show Steps p.tables e below (T2.setTop (mkF m 195 #[.val (.int t0), .val (.int t1), .val (.int t2), .val (.int t3), .val (.int tc), .val (.int tc), .val (.int (3 : Int32)), .val (.int (t2.toInt8.toInt32)), .val (.ref tb), .val (.int t9), .val (.int t10), .val (.int (1 : Int32))] [(.int (f3 (0 : Int32) (3 : Int32) tc (t2.toInt8.toInt32))), (.int (f1_3_a2_0 tc (nar .byte (t2.toInt8.toInt32))))])) _
    refine XS.icmpNo X2.here hx rfl (hb hby at_195) rfl (teq (own_e3_0 tc t2 hp hp2)).2 ?_
    show Steps p.tables e below (T2.setTop (mkF m 198 #[.val (.int t0), .val (.int t1), .val (.int t2), .val (.int t3), .val (.int tc), .val (.int tc), .val (.int (3 : Int32)), .val (.int (t2.toInt8.toInt32)), .val (.ref tb), .val (.int t9), .val (.int t10), .val (.int (1 : Int32))] [])) _
    refine own_blk X2 hx bl0_198_3 (own_hb hby bd0_198_3) (pc' := 205) (Ls' := #[.val (.int t0), .val (.int t1), .val (.int t2), .val (.int t3), .val (.int tc), .val (.int tc), .val (.int (3 : Int32)), .val (.int (t2.toInt8.toInt32)), .val (.ref tb), .val (.int t9), .val (.int t10), .val (.int (1 : Int32))]) (st' := []) rfl ?_
    refine own_blk X2 hx bl0_205_1 (own_hb hby bd0_205_1) (pc' := 207) (Ls' := #[.val (.int t0), .val (.int t1), .val (.int t2), .val (.int t3), .val (.int tc), .val (.int tc), .val (.int (3 : Int32)), .val (.int (t2.toInt8.toInt32)), .val (.ref tb), .val (.int t9), .val (.int t10), .val (.int (1 : Int32))]) (st' := [(.int (1 : Int32))]) rfl ?_
    refine XS.ifNo X2.here hx rfl (hb hby at_207) rfl ((if0 _ _).trans (feq (by decide : ¬ ((1 : Int32) = (0 : Int32)))).1) ?_
    show Steps p.tables e below (T2.setTop (mkF m 210 #[.val (.int t0), .val (.int t1), .val (.int t2), .val (.int t3), .val (.int tc), .val (.int tc), .val (.int (3 : Int32)), .val (.int (t2.toInt8.toInt32)), .val (.ref tb), .val (.int t9), .val (.int t10), .val (.int (1 : Int32))] [])) _
    refine own_blk X2 hx bl0_210_2 (own_hb hby bd0_210_2) (pc' := 213) (Ls' := #[.val (.int t0), .val (.int t1), .val (.int t2), .val (.int t3), .val (.int tc), .val (.int tc), .val (.int (3 : Int32)), .val (.int (t2.toInt8.toInt32)), .val (.ref tb), .val (.int t9), .val (.int t10), .val (.int (1 : Int32))]) (st' := [(.int (1 : Int32)), (.ref tb)]) rfl ?_
    refine X2.baloadBytes hx (j := (1 : Int32)) (v := (.int (f1_3_a2_1 tc (nar .byte (t2.toInt8.toInt32))))) (by rw [e2]; exact Ar3.1) (State.isArrayOf_alike hZ.alike Ar3.2.1) Ar3.2.2 hin3 hat3 (g := (mkF m 213 #[.val (.int t0), .val (.int t1), .val (.int t2), .val (.int t3), .val (.int tc), .val (.int tc), .val (.int (3 : Int32)), .val (.int (t2.toInt8.toInt32)), .val (.ref tb), .val (.int t9), .val (.int t10), .val (.int (1 : Int32))] [(.int (1 : Int32)), (.ref tb)])) rfl rfl (hb hby at_213) _ ?_
    show Steps p.tables e below (T2.setTop (mkF m 214 #[.val (.int t0), .val (.int t1), .val (.int t2), .val (.int t3), .val (.int tc), .val (.int tc), .val (.int (3 : Int32)), .val (.int (t2.toInt8.toInt32)), .val (.ref tb), .val (.int t9), .val (.int t10), .val (.int (1 : Int32))] [(.int (f1_3_a2_1 tc (nar .byte (t2.toInt8.toInt32))))])) _
    refine own_blk X2 hx bl0_214_4 (own_hb hby bd0_214_4) (pc' := 221) (Ls' := #[.val (.int t0), .val (.int t1), .val (.int t2), .val (.int t3), .val (.int tc), .val (.int tc), .val (.int (3 : Int32)), .val (.int (t2.toInt8.toInt32)), .val (.ref tb), .val (.int t9), .val (.int t10), .val (.int (1 : Int32))]) (st' := [(.int (t2.toInt8.toInt32)), (.int tc), (.int (3 : Int32)), (.int (1 : Int32)), (.int (f1_3_a2_1 tc (nar .byte (t2.toInt8.toInt32))))]) rfl ?_
    refine st4 _ ?_
    show Steps p.tables e below (T4.setTop (mkF m 224 #[.val (.int t0), .val (.int t1), .val (.int t2), .val (.int t3), .val (.int tc), .val (.int tc), .val (.int (3 : Int32)), .val (.int (t2.toInt8.toInt32)), .val (.ref tb), .val (.int t9), .val (.int t10), .val (.int (1 : Int32))] [(.int (f3 (1 : Int32) (3 : Int32) tc (t2.toInt8.toInt32))), (.int (f1_3_a2_1 tc (nar .byte (t2.toInt8.toInt32))))])) _
    refine XS.icmpNo X4.here hx rfl (hb hby at_224) rfl (teq (own_e3_1 tc t2 hp hp2)).2 ?_
    show Steps p.tables e below (T4.setTop (mkF m 227 #[.val (.int t0), .val (.int t1), .val (.int t2), .val (.int t3), .val (.int tc), .val (.int tc), .val (.int (3 : Int32)), .val (.int (t2.toInt8.toInt32)), .val (.ref tb), .val (.int t9), .val (.int t10), .val (.int (1 : Int32))] [])) _
    refine own_blk X4 hx bl0_227_3 (own_hb hby bd0_227_3) (pc' := 234) (Ls' := #[.val (.int t0), .val (.int t1), .val (.int t2), .val (.int t3), .val (.int tc), .val (.int tc), .val (.int (3 : Int32)), .val (.int (t2.toInt8.toInt32)), .val (.ref tb), .val (.int t9), .val (.int t10), .val (.int (1 : Int32))]) (st' := []) rfl ?_
    refine own_blk X4 hx bl0_234_1 (own_hb hby bd0_234_1) (pc' := 236) (Ls' := #[.val (.int t0), .val (.int t1), .val (.int t2), .val (.int t3), .val (.int tc), .val (.int tc), .val (.int (3 : Int32)), .val (.int (t2.toInt8.toInt32)), .val (.ref tb), .val (.int t9), .val (.int t10), .val (.int (1 : Int32))]) (st' := [(.int (1 : Int32))]) rfl ?_
    refine XS.ifNo X4.here hx rfl (hb hby at_236) rfl ((if0 _ _).trans (feq (by decide : ¬ ((1 : Int32) = (0 : Int32)))).1) ?_
    show Steps p.tables e below (T4.setTop (mkF m 239 #[.val (.int t0), .val (.int t1), .val (.int t2), .val (.int t3), .val (.int tc), .val (.int tc), .val (.int (3 : Int32)), .val (.int (t2.toInt8.toInt32)), .val (.ref tb), .val (.int t9), .val (.int t10), .val (.int (1 : Int32))] [])) _
    refine own_blk X4 hx bl0_239_2 (own_hb hby bd0_239_2) (pc' := 242) (Ls' := #[.val (.int t0), .val (.int t1), .val (.int t2), .val (.int t3), .val (.int tc), .val (.int tc), .val (.int (3 : Int32)), .val (.int (t2.toInt8.toInt32)), .val (.ref tb), .val (.int t9), .val (.int t10), .val (.int (1 : Int32))]) (st' := [(.int (2 : Int32)), (.ref tb)]) rfl ?_
    refine X4.baloadBytes hx (j := (2 : Int32)) (v := (.int (f1_3_a2_2 tc (nar .byte (t2.toInt8.toInt32))))) (by rw [e4]; exact Ar5.1) (State.isArrayOf_alike hZ.alike Ar5.2.1) Ar5.2.2 hin5 hat5 (g := (mkF m 242 #[.val (.int t0), .val (.int t1), .val (.int t2), .val (.int t3), .val (.int tc), .val (.int tc), .val (.int (3 : Int32)), .val (.int (t2.toInt8.toInt32)), .val (.ref tb), .val (.int t9), .val (.int t10), .val (.int (1 : Int32))] [(.int (2 : Int32)), (.ref tb)])) rfl rfl (hb hby at_242) _ ?_
    show Steps p.tables e below (T4.setTop (mkF m 243 #[.val (.int t0), .val (.int t1), .val (.int t2), .val (.int t3), .val (.int tc), .val (.int tc), .val (.int (3 : Int32)), .val (.int (t2.toInt8.toInt32)), .val (.ref tb), .val (.int t9), .val (.int t10), .val (.int (1 : Int32))] [(.int (f1_3_a2_2 tc (nar .byte (t2.toInt8.toInt32))))])) _
    refine own_blk X4 hx bl0_243_4 (own_hb hby bd0_243_4) (pc' := 250) (Ls' := #[.val (.int t0), .val (.int t1), .val (.int t2), .val (.int t3), .val (.int tc), .val (.int tc), .val (.int (3 : Int32)), .val (.int (t2.toInt8.toInt32)), .val (.ref tb), .val (.int t9), .val (.int t10), .val (.int (1 : Int32))]) (st' := [(.int (t2.toInt8.toInt32)), (.int tc), (.int (3 : Int32)), (.int (2 : Int32)), (.int (f1_3_a2_2 tc (nar .byte (t2.toInt8.toInt32))))]) rfl ?_
    refine st6 _ ?_
    show Steps p.tables e below (T6.setTop (mkF m 253 #[.val (.int t0), .val (.int t1), .val (.int t2), .val (.int t3), .val (.int tc), .val (.int tc), .val (.int (3 : Int32)), .val (.int (t2.toInt8.toInt32)), .val (.ref tb), .val (.int t9), .val (.int t10), .val (.int (1 : Int32))] [(.int (f3 (2 : Int32) (3 : Int32) tc (t2.toInt8.toInt32))), (.int (f1_3_a2_2 tc (nar .byte (t2.toInt8.toInt32))))])) _
    refine XS.icmpNo X6.here hx rfl (hb hby at_253) rfl (teq (own_e3_2 tc t2 hp hp2)).2 ?_
    show Steps p.tables e below (T6.setTop (mkF m 256 #[.val (.int t0), .val (.int t1), .val (.int t2), .val (.int t3), .val (.int tc), .val (.int tc), .val (.int (3 : Int32)), .val (.int (t2.toInt8.toInt32)), .val (.ref tb), .val (.int t9), .val (.int t10), .val (.int (1 : Int32))] [])) _
    refine own_blk X6 hx bl0_256_3 (own_hb hby bd0_256_3) (pc' := 263) (Ls' := #[.val (.int t0), .val (.int t1), .val (.int t2), .val (.int t3), .val (.int tc), .val (.int tc), .val (.int (3 : Int32)), .val (.int (t2.toInt8.toInt32)), .val (.ref tb), .val (.int t9), .val (.int t10), .val (.int (1 : Int32))]) (st' := []) rfl ?_
    refine own_blk X6 hx bl0_263_1 (own_hb hby bd0_263_1) (pc' := 265) (Ls' := #[.val (.int t0), .val (.int t1), .val (.int t2), .val (.int t3), .val (.int tc), .val (.int tc), .val (.int (3 : Int32)), .val (.int (t2.toInt8.toInt32)), .val (.ref tb), .val (.int t9), .val (.int t10), .val (.int (1 : Int32))]) (st' := [(.int (1 : Int32))]) rfl ?_
    refine XS.ifNo X6.here hx rfl (hb hby at_265) rfl ((if0 _ _).trans (feq (by decide : ¬ ((1 : Int32) = (0 : Int32)))).1) ?_
    show Steps p.tables e below (T6.setTop (mkF m 268 #[.val (.int t0), .val (.int t1), .val (.int t2), .val (.int t3), .val (.int tc), .val (.int tc), .val (.int (3 : Int32)), .val (.int (t2.toInt8.toInt32)), .val (.ref tb), .val (.int t9), .val (.int t10), .val (.int (1 : Int32))] [])) _
    refine own_blk X6 hx bl0_268_2 (own_hb hby bd0_268_2) (pc' := 271) (Ls' := #[.val (.int t0), .val (.int t1), .val (.int t2), .val (.int t3), .val (.int tc), .val (.int tc), .val (.int (3 : Int32)), .val (.int (t2.toInt8.toInt32)), .val (.ref tb), .val (.int t9), .val (.int t10), .val (.int (1 : Int32))]) (st' := [(.int (3 : Int32)), (.ref tb)]) rfl ?_
    refine X6.baloadBytes hx (j := (3 : Int32)) (v := (.int (f1_3_a2_3 tc (nar .byte (t2.toInt8.toInt32))))) (by rw [e6]; exact Ar7.1) (State.isArrayOf_alike hZ.alike Ar7.2.1) Ar7.2.2 hin7 hat7 (g := (mkF m 271 #[.val (.int t0), .val (.int t1), .val (.int t2), .val (.int t3), .val (.int tc), .val (.int tc), .val (.int (3 : Int32)), .val (.int (t2.toInt8.toInt32)), .val (.ref tb), .val (.int t9), .val (.int t10), .val (.int (1 : Int32))] [(.int (3 : Int32)), (.ref tb)])) rfl rfl (hb hby at_271) _ ?_
    show Steps p.tables e below (T6.setTop (mkF m 272 #[.val (.int t0), .val (.int t1), .val (.int t2), .val (.int t3), .val (.int tc), .val (.int tc), .val (.int (3 : Int32)), .val (.int (t2.toInt8.toInt32)), .val (.ref tb), .val (.int t9), .val (.int t10), .val (.int (1 : Int32))] [(.int (f1_3_a2_3 tc (nar .byte (t2.toInt8.toInt32))))])) _
    refine own_blk X6 hx bl0_272_4 (own_hb hby bd0_272_4) (pc' := 279) (Ls' := #[.val (.int t0), .val (.int t1), .val (.int t2), .val (.int t3), .val (.int tc), .val (.int tc), .val (.int (3 : Int32)), .val (.int (t2.toInt8.toInt32)), .val (.ref tb), .val (.int t9), .val (.int t10), .val (.int (1 : Int32))]) (st' := [(.int (t2.toInt8.toInt32)), (.int tc), (.int (3 : Int32)), (.int (3 : Int32)), (.int (f1_3_a2_3 tc (nar .byte (t2.toInt8.toInt32))))]) rfl ?_
    refine st8 _ ?_
    show Steps p.tables e below (T8.setTop (mkF m 282 #[.val (.int t0), .val (.int t1), .val (.int t2), .val (.int t3), .val (.int tc), .val (.int tc), .val (.int (3 : Int32)), .val (.int (t2.toInt8.toInt32)), .val (.ref tb), .val (.int t9), .val (.int t10), .val (.int (1 : Int32))] [(.int (f3 (3 : Int32) (3 : Int32) tc (t2.toInt8.toInt32))), (.int (f1_3_a2_3 tc (nar .byte (t2.toInt8.toInt32))))])) _
    refine XS.icmpNo X8.here hx rfl (hb hby at_282) rfl (teq (own_e3_3 tc t2 hp hp2)).2 ?_
    show Steps p.tables e below (T8.setTop (mkF m 285 #[.val (.int t0), .val (.int t1), .val (.int t2), .val (.int t3), .val (.int tc), .val (.int tc), .val (.int (3 : Int32)), .val (.int (t2.toInt8.toInt32)), .val (.ref tb), .val (.int t9), .val (.int t10), .val (.int (1 : Int32))] [])) _
    refine own_blk X8 hx bl0_285_3 (own_hb hby bd0_285_3) (pc' := 292) (Ls' := #[.val (.int t0), .val (.int t1), .val (.int t2), .val (.int t3), .val (.int tc), .val (.int tc), .val (.int (3 : Int32)), .val (.int (t2.toInt8.toInt32)), .val (.ref tb), .val (.int t9), .val (.int t10), .val (.int (1 : Int32))]) (st' := []) rfl ?_
    refine own_blk X8 hx bl0_292_1 (own_hb hby bd0_292_1) (pc' := 294) (Ls' := #[.val (.int t0), .val (.int t1), .val (.int t2), .val (.int t3), .val (.int tc), .val (.int tc), .val (.int (3 : Int32)), .val (.int (t2.toInt8.toInt32)), .val (.ref tb), .val (.int t9), .val (.int t10), .val (.int (1 : Int32))]) (st' := [(.int (1 : Int32))]) rfl ?_
    refine XS.ifNo X8.here hx rfl (hb hby at_294) rfl ((if0 _ _).trans (feq (by decide : ¬ ((1 : Int32) = (0 : Int32)))).1) ?_
    show Steps p.tables e below (T8.setTop (mkF m 297 #[.val (.int t0), .val (.int t1), .val (.int t2), .val (.int t3), .val (.int tc), .val (.int tc), .val (.int (3 : Int32)), .val (.int (t2.toInt8.toInt32)), .val (.ref tb), .val (.int t9), .val (.int t10), .val (.int (1 : Int32))] [])) _
    refine own_blk X8 hx bl0_297_2 (own_hb hby bd0_297_2) (pc' := 300) (Ls' := #[.val (.int t0), .val (.int t1), .val (.int t2), .val (.int t3), .val (.int tc), .val (.int tc), .val (.int (3 : Int32)), .val (.int (t2.toInt8.toInt32)), .val (.ref tb), .val (.int t9), .val (.int t10), .val (.int (1 : Int32))]) (st' := [(.int (4 : Int32)), (.ref tb)]) rfl ?_
    refine X8.baloadBytes hx (j := (4 : Int32)) (v := (.int (f1_3_a2_4 tc (nar .byte (t2.toInt8.toInt32))))) (by rw [e8]; exact Ar9.1) (State.isArrayOf_alike hZ.alike Ar9.2.1) Ar9.2.2 hin9 hat9 (g := (mkF m 300 #[.val (.int t0), .val (.int t1), .val (.int t2), .val (.int t3), .val (.int tc), .val (.int tc), .val (.int (3 : Int32)), .val (.int (t2.toInt8.toInt32)), .val (.ref tb), .val (.int t9), .val (.int t10), .val (.int (1 : Int32))] [(.int (4 : Int32)), (.ref tb)])) rfl rfl (hb hby at_300) _ ?_
    show Steps p.tables e below (T8.setTop (mkF m 301 #[.val (.int t0), .val (.int t1), .val (.int t2), .val (.int t3), .val (.int tc), .val (.int tc), .val (.int (3 : Int32)), .val (.int (t2.toInt8.toInt32)), .val (.ref tb), .val (.int t9), .val (.int t10), .val (.int (1 : Int32))] [(.int (f1_3_a2_4 tc (nar .byte (t2.toInt8.toInt32))))])) _
    refine own_blk X8 hx bl0_301_4 (own_hb hby bd0_301_4) (pc' := 308) (Ls' := #[.val (.int t0), .val (.int t1), .val (.int t2), .val (.int t3), .val (.int tc), .val (.int tc), .val (.int (3 : Int32)), .val (.int (t2.toInt8.toInt32)), .val (.ref tb), .val (.int t9), .val (.int t10), .val (.int (1 : Int32))]) (st' := [(.int (t2.toInt8.toInt32)), (.int tc), (.int (3 : Int32)), (.int (4 : Int32)), (.int (f1_3_a2_4 tc (nar .byte (t2.toInt8.toInt32))))]) rfl ?_
    refine st10 _ ?_
    show Steps p.tables e below (T10.setTop (mkF m 311 #[.val (.int t0), .val (.int t1), .val (.int t2), .val (.int t3), .val (.int tc), .val (.int tc), .val (.int (3 : Int32)), .val (.int (t2.toInt8.toInt32)), .val (.ref tb), .val (.int t9), .val (.int t10), .val (.int (1 : Int32))] [(.int (f3 (4 : Int32) (3 : Int32) tc (t2.toInt8.toInt32))), (.int (f1_3_a2_4 tc (nar .byte (t2.toInt8.toInt32))))])) _
    refine XS.icmpNo X10.here hx rfl (hb hby at_311) rfl (teq (own_e3_4 tc t2 hp hp2)).2 ?_
    show Steps p.tables e below (T10.setTop (mkF m 314 #[.val (.int t0), .val (.int t1), .val (.int t2), .val (.int t3), .val (.int tc), .val (.int tc), .val (.int (3 : Int32)), .val (.int (t2.toInt8.toInt32)), .val (.ref tb), .val (.int t9), .val (.int t10), .val (.int (1 : Int32))] [])) _
    refine own_blk X10 hx bl0_314_3 (own_hb hby bd0_314_3) (pc' := 321) (Ls' := #[.val (.int t0), .val (.int t1), .val (.int t2), .val (.int t3), .val (.int tc), .val (.int tc), .val (.int (3 : Int32)), .val (.int (t2.toInt8.toInt32)), .val (.ref tb), .val (.int t9), .val (.int t10), .val (.int (1 : Int32))]) (st' := []) rfl ?_
    refine own_blk X10 hx bl0_321_1 (own_hb hby bd0_321_1) (pc' := 323) (Ls' := #[.val (.int t0), .val (.int t1), .val (.int t2), .val (.int t3), .val (.int tc), .val (.int tc), .val (.int (3 : Int32)), .val (.int (t2.toInt8.toInt32)), .val (.ref tb), .val (.int t9), .val (.int t10), .val (.int (1 : Int32))]) (st' := [(.int (1 : Int32))]) rfl ?_
    refine XS.ifNo X10.here hx rfl (hb hby at_323) rfl ((if0 _ _).trans (feq (by decide : ¬ ((1 : Int32) = (0 : Int32)))).1) ?_
    show Steps p.tables e below (T10.setTop (mkF m 326 #[.val (.int t0), .val (.int t1), .val (.int t2), .val (.int t3), .val (.int tc), .val (.int tc), .val (.int (3 : Int32)), .val (.int (t2.toInt8.toInt32)), .val (.ref tb), .val (.int t9), .val (.int t10), .val (.int (1 : Int32))] [])) _
    refine own_blk X10 hx bl0_326_2 (own_hb hby bd0_326_2) (pc' := 329) (Ls' := #[.val (.int t0), .val (.int t1), .val (.int t2), .val (.int t3), .val (.int tc), .val (.int tc), .val (.int (3 : Int32)), .val (.int (t2.toInt8.toInt32)), .val (.ref tb), .val (.int t9), .val (.int t10), .val (.int (1 : Int32))]) (st' := [(.int (5 : Int32)), (.ref tb)]) rfl ?_
    refine X10.baloadBytes hx (j := (5 : Int32)) (v := (.int (f1_3_a2_5 tc (nar .byte (t2.toInt8.toInt32))))) (by rw [e10]; exact Ar11.1) (State.isArrayOf_alike hZ.alike Ar11.2.1) Ar11.2.2 hin11 hat11 (g := (mkF m 329 #[.val (.int t0), .val (.int t1), .val (.int t2), .val (.int t3), .val (.int tc), .val (.int tc), .val (.int (3 : Int32)), .val (.int (t2.toInt8.toInt32)), .val (.ref tb), .val (.int t9), .val (.int t10), .val (.int (1 : Int32))] [(.int (5 : Int32)), (.ref tb)])) rfl rfl (hb hby at_329) _ ?_
    show Steps p.tables e below (T10.setTop (mkF m 330 #[.val (.int t0), .val (.int t1), .val (.int t2), .val (.int t3), .val (.int tc), .val (.int tc), .val (.int (3 : Int32)), .val (.int (t2.toInt8.toInt32)), .val (.ref tb), .val (.int t9), .val (.int t10), .val (.int (1 : Int32))] [(.int (f1_3_a2_5 tc (nar .byte (t2.toInt8.toInt32))))])) _
    refine own_blk X10 hx bl0_330_4 (own_hb hby bd0_330_4) (pc' := 337) (Ls' := #[.val (.int t0), .val (.int t1), .val (.int t2), .val (.int t3), .val (.int tc), .val (.int tc), .val (.int (3 : Int32)), .val (.int (t2.toInt8.toInt32)), .val (.ref tb), .val (.int t9), .val (.int t10), .val (.int (1 : Int32))]) (st' := [(.int (t2.toInt8.toInt32)), (.int tc), (.int (3 : Int32)), (.int (5 : Int32)), (.int (f1_3_a2_5 tc (nar .byte (t2.toInt8.toInt32))))]) rfl ?_
    refine st12 _ ?_
    show Steps p.tables e below (T12.setTop (mkF m 340 #[.val (.int t0), .val (.int t1), .val (.int t2), .val (.int t3), .val (.int tc), .val (.int tc), .val (.int (3 : Int32)), .val (.int (t2.toInt8.toInt32)), .val (.ref tb), .val (.int t9), .val (.int t10), .val (.int (1 : Int32))] [(.int (f3 (5 : Int32) (3 : Int32) tc (t2.toInt8.toInt32))), (.int (f1_3_a2_5 tc (nar .byte (t2.toInt8.toInt32))))])) _
    refine XS.icmpNo X12.here hx rfl (hb hby at_340) rfl (teq (own_e3_5 tc t2 hp hp2)).2 ?_
    show Steps p.tables e below (T12.setTop (mkF m 343 #[.val (.int t0), .val (.int t1), .val (.int t2), .val (.int t3), .val (.int tc), .val (.int tc), .val (.int (3 : Int32)), .val (.int (t2.toInt8.toInt32)), .val (.ref tb), .val (.int t9), .val (.int t10), .val (.int (1 : Int32))] [])) _
    refine own_blk X12 hx bl0_343_3 (own_hb hby bd0_343_3) (pc' := 350) (Ls' := #[.val (.int t0), .val (.int t1), .val (.int t2), .val (.int t3), .val (.int tc), .val (.int tc), .val (.int (3 : Int32)), .val (.int (t2.toInt8.toInt32)), .val (.ref tb), .val (.int t9), .val (.int t10), .val (.int (1 : Int32))]) (st' := []) rfl ?_
    refine own_blk X12 hx bl0_350_1 (own_hb hby bd0_350_1) (pc' := 352) (Ls' := #[.val (.int t0), .val (.int t1), .val (.int t2), .val (.int t3), .val (.int tc), .val (.int tc), .val (.int (3 : Int32)), .val (.int (t2.toInt8.toInt32)), .val (.ref tb), .val (.int t9), .val (.int t10), .val (.int (1 : Int32))]) (st' := [(.int (1 : Int32))]) rfl ?_
    refine XS.ifNo X12.here hx rfl (hb hby at_352) rfl ((if0 _ _).trans (feq (by decide : ¬ ((1 : Int32) = (0 : Int32)))).1) ?_
    show Steps p.tables e below (T12.setTop (mkF m 355 #[.val (.int t0), .val (.int t1), .val (.int t2), .val (.int t3), .val (.int tc), .val (.int tc), .val (.int (3 : Int32)), .val (.int (t2.toInt8.toInt32)), .val (.ref tb), .val (.int t9), .val (.int t10), .val (.int (1 : Int32))] [])) _
    refine own_blk X12 hx bl0_355_2 (own_hb hby bd0_355_2) (pc' := 359) (Ls' := #[.val (.int t0), .val (.int t1), .val (.int t2), .val (.int t3), .val (.int tc), .val (.int tc), .val (.int (3 : Int32)), .val (.int (t2.toInt8.toInt32)), .val (.ref tb), .val (.int t9), .val (.int t10), .val (.int (1 : Int32))]) (st' := [(.int (6 : Int32)), (.ref tb)]) rfl ?_
    refine X12.baloadBytes hx (j := (6 : Int32)) (v := (.int (f1_3_a2_6 tc (nar .byte (t2.toInt8.toInt32))))) (by rw [e12]; exact Ar13.1) (State.isArrayOf_alike hZ.alike Ar13.2.1) Ar13.2.2 hin13 hat13 (g := (mkF m 359 #[.val (.int t0), .val (.int t1), .val (.int t2), .val (.int t3), .val (.int tc), .val (.int tc), .val (.int (3 : Int32)), .val (.int (t2.toInt8.toInt32)), .val (.ref tb), .val (.int t9), .val (.int t10), .val (.int (1 : Int32))] [(.int (6 : Int32)), (.ref tb)])) rfl rfl (hb hby at_359) _ ?_
    show Steps p.tables e below (T12.setTop (mkF m 360 #[.val (.int t0), .val (.int t1), .val (.int t2), .val (.int t3), .val (.int tc), .val (.int tc), .val (.int (3 : Int32)), .val (.int (t2.toInt8.toInt32)), .val (.ref tb), .val (.int t9), .val (.int t10), .val (.int (1 : Int32))] [(.int (f1_3_a2_6 tc (nar .byte (t2.toInt8.toInt32))))])) _
    refine own_blk X12 hx bl0_360_4 (own_hb hby bd0_360_4) (pc' := 368) (Ls' := #[.val (.int t0), .val (.int t1), .val (.int t2), .val (.int t3), .val (.int tc), .val (.int tc), .val (.int (3 : Int32)), .val (.int (t2.toInt8.toInt32)), .val (.ref tb), .val (.int t9), .val (.int t10), .val (.int (1 : Int32))]) (st' := [(.int (t2.toInt8.toInt32)), (.int tc), (.int (3 : Int32)), (.int (6 : Int32)), (.int (f1_3_a2_6 tc (nar .byte (t2.toInt8.toInt32))))]) rfl ?_
    refine st14 _ ?_
    show Steps p.tables e below (T14.setTop (mkF m 371 #[.val (.int t0), .val (.int t1), .val (.int t2), .val (.int t3), .val (.int tc), .val (.int tc), .val (.int (3 : Int32)), .val (.int (t2.toInt8.toInt32)), .val (.ref tb), .val (.int t9), .val (.int t10), .val (.int (1 : Int32))] [(.int (f3 (6 : Int32) (3 : Int32) tc (t2.toInt8.toInt32))), (.int (f1_3_a2_6 tc (nar .byte (t2.toInt8.toInt32))))])) _
    refine XS.icmpNo X14.here hx rfl (hb hby at_371) rfl (teq (own_e3_6 tc t2 hp hp2)).2 ?_
    show Steps p.tables e below (T14.setTop (mkF m 374 #[.val (.int t0), .val (.int t1), .val (.int t2), .val (.int t3), .val (.int tc), .val (.int tc), .val (.int (3 : Int32)), .val (.int (t2.toInt8.toInt32)), .val (.ref tb), .val (.int t9), .val (.int t10), .val (.int (1 : Int32))] [])) _
    refine own_blk X14 hx bl0_374_3 (own_hb hby bd0_374_3) (pc' := 381) (Ls' := #[.val (.int t0), .val (.int t1), .val (.int t2), .val (.int t3), .val (.int tc), .val (.int tc), .val (.int (3 : Int32)), .val (.int (t2.toInt8.toInt32)), .val (.ref tb), .val (.int t9), .val (.int t10), .val (.int (1 : Int32))]) (st' := []) rfl ?_
    refine own_blk X14 hx bl0_381_1 (own_hb hby bd0_381_1) (pc' := 383) (Ls' := #[.val (.int t0), .val (.int t1), .val (.int t2), .val (.int t3), .val (.int tc), .val (.int tc), .val (.int (3 : Int32)), .val (.int (t2.toInt8.toInt32)), .val (.ref tb), .val (.int t9), .val (.int t10), .val (.int (1 : Int32))]) (st' := [(.int (1 : Int32))]) rfl ?_
    refine XS.ifNo X14.here hx rfl (hb hby at_383) rfl ((if0 _ _).trans (feq (by decide : ¬ ((1 : Int32) = (0 : Int32)))).1) ?_
    show Steps p.tables e below (T14.setTop (mkF m 386 #[.val (.int t0), .val (.int t1), .val (.int t2), .val (.int t3), .val (.int tc), .val (.int tc), .val (.int (3 : Int32)), .val (.int (t2.toInt8.toInt32)), .val (.ref tb), .val (.int t9), .val (.int t10), .val (.int (1 : Int32))] [])) _
    refine own_blk X14 hx bl0_386_2 (own_hb hby bd0_386_2) (pc' := 390) (Ls' := #[.val (.int t0), .val (.int t1), .val (.int t2), .val (.int t3), .val (.int tc), .val (.int tc), .val (.int (3 : Int32)), .val (.int (t2.toInt8.toInt32)), .val (.ref tb), .val (.int t9), .val (.int t10), .val (.int (1 : Int32))]) (st' := [(.int (7 : Int32)), (.ref tb)]) rfl ?_
    refine X14.baloadBytes hx (j := (7 : Int32)) (v := (.int (f1_3_a2_7 tc (nar .byte (t2.toInt8.toInt32))))) (by rw [e14]; exact Ar15.1) (State.isArrayOf_alike hZ.alike Ar15.2.1) Ar15.2.2 hin15 hat15 (g := (mkF m 390 #[.val (.int t0), .val (.int t1), .val (.int t2), .val (.int t3), .val (.int tc), .val (.int tc), .val (.int (3 : Int32)), .val (.int (t2.toInt8.toInt32)), .val (.ref tb), .val (.int t9), .val (.int t10), .val (.int (1 : Int32))] [(.int (7 : Int32)), (.ref tb)])) rfl rfl (hb hby at_390) _ ?_
    show Steps p.tables e below (T14.setTop (mkF m 391 #[.val (.int t0), .val (.int t1), .val (.int t2), .val (.int t3), .val (.int tc), .val (.int tc), .val (.int (3 : Int32)), .val (.int (t2.toInt8.toInt32)), .val (.ref tb), .val (.int t9), .val (.int t10), .val (.int (1 : Int32))] [(.int (f1_3_a2_7 tc (nar .byte (t2.toInt8.toInt32))))])) _
    refine own_blk X14 hx bl0_391_4 (own_hb hby bd0_391_4) (pc' := 399) (Ls' := #[.val (.int t0), .val (.int t1), .val (.int t2), .val (.int t3), .val (.int tc), .val (.int tc), .val (.int (3 : Int32)), .val (.int (t2.toInt8.toInt32)), .val (.ref tb), .val (.int t9), .val (.int t10), .val (.int (1 : Int32))]) (st' := [(.int (t2.toInt8.toInt32)), (.int tc), (.int (3 : Int32)), (.int (7 : Int32)), (.int (f1_3_a2_7 tc (nar .byte (t2.toInt8.toInt32))))]) rfl ?_
    refine st16 _ ?_
    show Steps p.tables e below (T16.setTop (mkF m 402 #[.val (.int t0), .val (.int t1), .val (.int t2), .val (.int t3), .val (.int tc), .val (.int tc), .val (.int (3 : Int32)), .val (.int (t2.toInt8.toInt32)), .val (.ref tb), .val (.int t9), .val (.int t10), .val (.int (1 : Int32))] [(.int (f3 (7 : Int32) (3 : Int32) tc (t2.toInt8.toInt32))), (.int (f1_3_a2_7 tc (nar .byte (t2.toInt8.toInt32))))])) _
    refine XS.icmpNo X16.here hx rfl (hb hby at_402) rfl (teq (own_e3_7 tc t2 hp hp2)).2 ?_
    show Steps p.tables e below (T16.setTop (mkF m 405 #[.val (.int t0), .val (.int t1), .val (.int t2), .val (.int t3), .val (.int tc), .val (.int tc), .val (.int (3 : Int32)), .val (.int (t2.toInt8.toInt32)), .val (.ref tb), .val (.int t9), .val (.int t10), .val (.int (1 : Int32))] [])) _
    refine own_blk X16 hx bl0_405_3 (own_hb hby bd0_405_3) (pc' := 412) (Ls' := #[.val (.int t0), .val (.int t1), .val (.int t2), .val (.int t3), .val (.int tc), .val (.int tc), .val (.int (3 : Int32)), .val (.int (t2.toInt8.toInt32)), .val (.ref tb), .val (.int t9), .val (.int t10), .val (.int (1 : Int32))]) (st' := []) rfl ?_
    refine own_blk X16 hx bl0_412_1 (own_hb hby bd0_412_1) (pc' := 414) (Ls' := #[.val (.int t0), .val (.int t1), .val (.int t2), .val (.int t3), .val (.int tc), .val (.int tc), .val (.int (3 : Int32)), .val (.int (t2.toInt8.toInt32)), .val (.ref tb), .val (.int t9), .val (.int t10), .val (.int (1 : Int32))]) (st' := [(.int (1 : Int32))]) rfl ?_
    refine XS.ifNo X16.here hx rfl (hb hby at_414) rfl ((if0 _ _).trans (feq (by decide : ¬ ((1 : Int32) = (0 : Int32)))).1) ?_
    show Steps p.tables e below (T16.setTop (mkF m 417 #[.val (.int t0), .val (.int t1), .val (.int t2), .val (.int t3), .val (.int tc), .val (.int tc), .val (.int (3 : Int32)), .val (.int (t2.toInt8.toInt32)), .val (.ref tb), .val (.int t9), .val (.int t10), .val (.int (1 : Int32))] [])) _
    refine own_blk X16 hx bl0_417_2 (own_hb hby bd0_417_2) (pc' := 421) (Ls' := #[.val (.int t0), .val (.int t1), .val (.int t2), .val (.int t3), .val (.int tc), .val (.int tc), .val (.int (3 : Int32)), .val (.int (t2.toInt8.toInt32)), .val (.ref tb), .val (.int t9), .val (.int t10), .val (.int (1 : Int32))]) (st' := [(.int (8 : Int32)), (.ref tb)]) rfl ?_
    refine X16.baloadBytes hx (j := (8 : Int32)) (v := (.int (f1_3_a2_8 tc (nar .byte (t2.toInt8.toInt32))))) (by rw [e16]; exact Ar17.1) (State.isArrayOf_alike hZ.alike Ar17.2.1) Ar17.2.2 hin17 hat17 (g := (mkF m 421 #[.val (.int t0), .val (.int t1), .val (.int t2), .val (.int t3), .val (.int tc), .val (.int tc), .val (.int (3 : Int32)), .val (.int (t2.toInt8.toInt32)), .val (.ref tb), .val (.int t9), .val (.int t10), .val (.int (1 : Int32))] [(.int (8 : Int32)), (.ref tb)])) rfl rfl (hb hby at_421) _ ?_
    show Steps p.tables e below (T16.setTop (mkF m 422 #[.val (.int t0), .val (.int t1), .val (.int t2), .val (.int t3), .val (.int tc), .val (.int tc), .val (.int (3 : Int32)), .val (.int (t2.toInt8.toInt32)), .val (.ref tb), .val (.int t9), .val (.int t10), .val (.int (1 : Int32))] [(.int (f1_3_a2_8 tc (nar .byte (t2.toInt8.toInt32))))])) _
    refine own_blk X16 hx bl0_422_4 (own_hb hby bd0_422_4) (pc' := 430) (Ls' := #[.val (.int t0), .val (.int t1), .val (.int t2), .val (.int t3), .val (.int tc), .val (.int tc), .val (.int (3 : Int32)), .val (.int (t2.toInt8.toInt32)), .val (.ref tb), .val (.int t9), .val (.int t10), .val (.int (1 : Int32))]) (st' := [(.int (t2.toInt8.toInt32)), (.int tc), (.int (3 : Int32)), (.int (8 : Int32)), (.int (f1_3_a2_8 tc (nar .byte (t2.toInt8.toInt32))))]) rfl ?_
    refine st18 _ ?_
    show Steps p.tables e below (T18.setTop (mkF m 433 #[.val (.int t0), .val (.int t1), .val (.int t2), .val (.int t3), .val (.int tc), .val (.int tc), .val (.int (3 : Int32)), .val (.int (t2.toInt8.toInt32)), .val (.ref tb), .val (.int t9), .val (.int t10), .val (.int (1 : Int32))] [(.int (f3 (8 : Int32) (3 : Int32) tc (t2.toInt8.toInt32))), (.int (f1_3_a2_8 tc (nar .byte (t2.toInt8.toInt32))))])) _
    refine XS.icmpNo X18.here hx rfl (hb hby at_433) rfl (teq (own_e3_8 tc t2 hp hp2)).2 ?_
    show Steps p.tables e below (T18.setTop (mkF m 436 #[.val (.int t0), .val (.int t1), .val (.int t2), .val (.int t3), .val (.int tc), .val (.int tc), .val (.int (3 : Int32)), .val (.int (t2.toInt8.toInt32)), .val (.ref tb), .val (.int t9), .val (.int t10), .val (.int (1 : Int32))] [])) _
    refine own_blk X18 hx bl0_436_3 (own_hb hby bd0_436_3) (pc' := 443) (Ls' := #[.val (.int t0), .val (.int t1), .val (.int t2), .val (.int t3), .val (.int tc), .val (.int tc), .val (.int (3 : Int32)), .val (.int (t2.toInt8.toInt32)), .val (.ref tb), .val (.int t9), .val (.int t10), .val (.int (1 : Int32))]) (st' := []) rfl ?_
    refine own_blk X18 hx bl0_443_1 (own_hb hby bd0_443_1) (pc' := 445) (Ls' := #[.val (.int t0), .val (.int t1), .val (.int t2), .val (.int t3), .val (.int tc), .val (.int tc), .val (.int (3 : Int32)), .val (.int (t2.toInt8.toInt32)), .val (.ref tb), .val (.int t9), .val (.int t10), .val (.int (1 : Int32))]) (st' := [(.int (1 : Int32))]) rfl ?_
    refine XS.ifNo X18.here hx rfl (hb hby at_445) rfl ((if0 _ _).trans (feq (by decide : ¬ ((1 : Int32) = (0 : Int32)))).1) ?_
    show Steps p.tables e below (T18.setTop (mkF m 448 #[.val (.int t0), .val (.int t1), .val (.int t2), .val (.int t3), .val (.int tc), .val (.int tc), .val (.int (3 : Int32)), .val (.int (t2.toInt8.toInt32)), .val (.ref tb), .val (.int t9), .val (.int t10), .val (.int (1 : Int32))] [])) _
    refine own_blk X18 hx bl0_448_2 (own_hb hby bd0_448_2) (pc' := 452) (Ls' := #[.val (.int t0), .val (.int t1), .val (.int t2), .val (.int t3), .val (.int tc), .val (.int tc), .val (.int (3 : Int32)), .val (.int (t2.toInt8.toInt32)), .val (.ref tb), .val (.int t9), .val (.int t10), .val (.int (1 : Int32))]) (st' := [(.int (9 : Int32)), (.ref tb)]) rfl ?_
    refine X18.baloadBytes hx (j := (9 : Int32)) (v := (.int (f1_3_a2_9 tc (nar .byte (t2.toInt8.toInt32))))) (by rw [e18]; exact Ar19.1) (State.isArrayOf_alike hZ.alike Ar19.2.1) Ar19.2.2 hin19 hat19 (g := (mkF m 452 #[.val (.int t0), .val (.int t1), .val (.int t2), .val (.int t3), .val (.int tc), .val (.int tc), .val (.int (3 : Int32)), .val (.int (t2.toInt8.toInt32)), .val (.ref tb), .val (.int t9), .val (.int t10), .val (.int (1 : Int32))] [(.int (9 : Int32)), (.ref tb)])) rfl rfl (hb hby at_452) _ ?_
    show Steps p.tables e below (T18.setTop (mkF m 453 #[.val (.int t0), .val (.int t1), .val (.int t2), .val (.int t3), .val (.int tc), .val (.int tc), .val (.int (3 : Int32)), .val (.int (t2.toInt8.toInt32)), .val (.ref tb), .val (.int t9), .val (.int t10), .val (.int (1 : Int32))] [(.int (f1_3_a2_9 tc (nar .byte (t2.toInt8.toInt32))))])) _
    refine own_blk X18 hx bl0_453_4 (own_hb hby bd0_453_4) (pc' := 461) (Ls' := #[.val (.int t0), .val (.int t1), .val (.int t2), .val (.int t3), .val (.int tc), .val (.int tc), .val (.int (3 : Int32)), .val (.int (t2.toInt8.toInt32)), .val (.ref tb), .val (.int t9), .val (.int t10), .val (.int (1 : Int32))]) (st' := [(.int (t2.toInt8.toInt32)), (.int tc), (.int (3 : Int32)), (.int (9 : Int32)), (.int (f1_3_a2_9 tc (nar .byte (t2.toInt8.toInt32))))]) rfl ?_
    refine st20 _ ?_
    show Steps p.tables e below (T20.setTop (mkF m 464 #[.val (.int t0), .val (.int t1), .val (.int t2), .val (.int t3), .val (.int tc), .val (.int tc), .val (.int (3 : Int32)), .val (.int (t2.toInt8.toInt32)), .val (.ref tb), .val (.int t9), .val (.int t10), .val (.int (1 : Int32))] [(.int (f3 (9 : Int32) (3 : Int32) tc (t2.toInt8.toInt32))), (.int (f1_3_a2_9 tc (nar .byte (t2.toInt8.toInt32))))])) _
    refine XS.icmpNo X20.here hx rfl (hb hby at_464) rfl (teq (own_e3_9 tc t2 hp hp2)).2 ?_
    show Steps p.tables e below (T20.setTop (mkF m 467 #[.val (.int t0), .val (.int t1), .val (.int t2), .val (.int t3), .val (.int tc), .val (.int tc), .val (.int (3 : Int32)), .val (.int (t2.toInt8.toInt32)), .val (.ref tb), .val (.int t9), .val (.int t10), .val (.int (1 : Int32))] [])) _
    refine own_blk X20 hx bl0_467_3 (own_hb hby bd0_467_3) (pc' := 474) (Ls' := #[.val (.int t0), .val (.int t1), .val (.int t2), .val (.int t3), .val (.int tc), .val (.int tc), .val (.int (3 : Int32)), .val (.int (t2.toInt8.toInt32)), .val (.ref tb), .val (.int t9), .val (.int t10), .val (.int (1 : Int32))]) (st' := []) rfl ?_
    refine own_blk X20 hx bl0_474_1 (own_hb hby bd0_474_1) (pc' := 476) (Ls' := #[.val (.int t0), .val (.int t1), .val (.int t2), .val (.int t3), .val (.int tc), .val (.int tc), .val (.int (3 : Int32)), .val (.int (t2.toInt8.toInt32)), .val (.ref tb), .val (.int t9), .val (.int t10), .val (.int (1 : Int32))]) (st' := [(.int (1 : Int32))]) rfl ?_
    exact retN X20 hx (t := .boolean) hret (by simp) (hb hby at_476) hr
  · exact ⟨by rw [fB3], N20⟩
def fA3 (t0 : Int32) (t1 : Int32) (t2 : Int32) (t3 : Int32) (tc : Int32) : Int32 := (if (f2 tc) = (0 : Int32) then (fB3 t0 t1 t2 t3 tc (f1_3 tc (nar .byte (t2.toInt8.toInt32))) (6 : Int32)) else (fB3 t0 t1 t2 t3 tc (f1_3 tc (nar .byte (t2.toInt8.toInt32))) (2 : Int32)))
set_option maxRecDepth 65536 in
set_option maxHeartbeats 40000000 in
theorem tlA3 {p : Program} {l : Launch} {e : Env} {s : State} {m : MethodId} {args : Array Value} {below : List Frame} {meth : Method} {c : Code} {s₁ T0 : State} {locs : List Loc} {Z : State} {a0 : Array Value} {h0 : Heap} {n0 : Nat} {E : JFrame} (t0 : Int32) (t1 : Int32) (t2 : Int32) (t3 : Int32) (tc : Int32) (w1 : Addr) (cl1 : Cell)
    (X0 : Stand p l e room_1 s m args below meth c T0 locs 0 0) (hx : p.tables.exec = Jvm.exec) (hZ : Z.Warmed39 s.vm) (hw : ∀ d ∈ tables_1, d.before a0 Z = true) (hby : c.code = code) (hml : c.maxLocals = 12) (hown : s.vm.findClass "com/example/endcon/endcon/rules/LineTextEscapePinLaw" = some m.cls) (hret : meth.sig.returnType = some .boolean) (hlk : meth.locks = false) (e0 : T0.heap = h0) (N0 : Fr n0 locs) (Z0 : n0 ≤ h0.size)
    (pre0 : ∀ t, Steps p.tables e below (T0.setTop (mkF m 58 #[.val (.int t0), .val (.int t1), .val (.int t2), .val (.int t3), .val (.int tc), .val (.int tc), .val (.int (3 : Int32)), .unset, .unset, .unset, .unset, .unset] [])) t → Steps p.tables e below (s₁.setTop E) t) (S_H : Sta Z h0 "com/example/endcon/endcon/rules/LineText" "HEX_DIGITS" "[B" (.ref w1)) (Ar_w1 : Arr Z h0 w1 cl1 .byte) (sz1 : cl1.slots.size = (16 : Int32).toNatClampNeg) (hv : ∀ j : Int32, ¬ j < 0 → j < 16 → cl1.slots[j.toNatClampNeg]? = some (.int (own_tab j))) (hp : ¬ (tc < 0)) (hp2 : tc < 65536) :
    ∃ s₂ o, Steps p.tables e below (s₁.setTop E) s₂ ∧ s₂.status = .running ∧ Ended s₂ below o ∧ ∃ v L, o = .returned v ∧ (v = some (.int (fA3 t0 t1 t2 t3 tc)) ∧ Fr n0 L) ∧ FrameEnd s o s₂ L room_1.cells room_1.slots := by
  obtain ⟨T1, h1, k1, X1, e1, E1, A1, st1⟩ := newP X0 hx hZ (hw _ (List.mem_of_getElem? (i := 1) rfl)) e0 (g := (mkF m 64 #[.val (.int t0), .val (.int t1), .val (.int t2), .val (.int t3), .val (.int tc), .val (.int tc), .val (.int (3 : Int32)), .val (.int (t2.toInt8.toInt32)), .unset, .unset, .unset, .unset] [(.int (10 : Int32))])) rfl (hb hby at_64) rfl (by decide) (cap := 10) (by decide) (by decide) (by decide) (by decide)
  obtain ⟨b1, g1⟩ : ∃ z, z = h0.size := ⟨_, rfl⟩
  rw [← g1] at A1 st1
  have ne_w1_b1 : w1 ≠ b1 := Nat.ne_of_lt (Nat.lt_of_lt_of_le Ar_w1.lt (Nat.le_of_eq g1.symm))
  have g_b1 : n0 ≤ b1 := Nat.le_trans Z0 (Nat.le_of_eq g1.symm)
  have zs2 : n0 ≤ h1.size := Nat.le_trans Z0 E1.1
  have V_b1 : Arv Z h1 b1 k1 .byte (10 : Int32) [(.int (0 : Int32)), (.int (0 : Int32)), (.int (0 : Int32)), (.int (0 : Int32)), (.int (0 : Int32)), (.int (0 : Int32)), (.int (0 : Int32)), (.int (0 : Int32)), (.int (0 : Int32)), (.int (0 : Int32))] (.int (0 : Int32)) := (Arv.new A1 (by decide)).pad (pad_rep [] (.int (0 : Int32)) 10)
  obtain ⟨cx3, Ar3, qq3, S3, N3_, H3, G3⟩ := id V_b1
  have hin3 : ¬ ((0 : Int32) < 0 ∨ cx3.slots.size ≤ ((0 : Int32)).toNatClampNeg) := inb_of S3 ⟨by decide, by decide⟩
  obtain ⟨T3, h3, X3, e3, W3, st3⟩ := stB X1 hx hZ e1 Ar3 (j := (0 : Int32)) hin3 (g := (mkF m 73 #[.val (.int t0), .val (.int t1), .val (.int t2), .val (.int t3), .val (.int tc), .val (.int tc), .val (.int (3 : Int32)), .val (.int (t2.toInt8.toInt32)), .val (.ref b1), .unset, .unset, .unset] [(.int (t2.toInt8.toInt32)), (.int (0 : Int32)), (.ref b1)])) rfl rfl (hb hby at_73)
  have V3 : Arv Z h3 b1 k1 .byte (10 : Int32) [(.int (nar .byte (t2.toInt8.toInt32))), (.int (0 : Int32)), (.int (0 : Int32)), (.int (0 : Int32)), (.int (0 : Int32)), (.int (0 : Int32)), (.int (0 : Int32)), (.int (0 : Int32)), (.int (0 : Int32)), (.int (0 : Int32))] (.int (0 : Int32)) := Arv.set Ar3 qq3 S3 N3_ H3 G3 (fits_nar_byte _) W3 0 rfl (Nat.le_of_ble_eq_true rfl)
  have zs4 : n0 ≤ h3.size := Nat.le_trans zs2 (Keep.of_wr W3).1
  have N3 := Fr.snoc X3 N0 g_b1
  obtain ⟨cx5, Ar5, qq5, S5, N5_, H5, G5⟩ := id V3
  have hin5 : ¬ ((1 : Int32) < 0 ∨ cx5.slots.size ≤ ((1 : Int32)).toNatClampNeg) := inb_of S5 ⟨by decide, by decide⟩
  obtain ⟨T5, h5, X5, e5, W5, st5⟩ := stB X3 hx hZ e3 Ar5 (j := (1 : Int32)) hin5 (g := (mkF m 79 #[.val (.int t0), .val (.int t1), .val (.int t2), .val (.int t3), .val (.int tc), .val (.int tc), .val (.int (3 : Int32)), .val (.int (t2.toInt8.toInt32)), .val (.ref b1), .unset, .unset, .unset] [(.int (t2.toInt8.toInt32)), (.int (1 : Int32)), (.ref b1)])) rfl rfl (hb hby at_79)
  have V5 : Arv Z h5 b1 k1 .byte (10 : Int32) [(.int (nar .byte (t2.toInt8.toInt32))), (.int (nar .byte (t2.toInt8.toInt32))), (.int (0 : Int32)), (.int (0 : Int32)), (.int (0 : Int32)), (.int (0 : Int32)), (.int (0 : Int32)), (.int (0 : Int32)), (.int (0 : Int32)), (.int (0 : Int32))] (.int (0 : Int32)) := Arv.set Ar5 qq5 S5 N5_ H5 G5 (fits_nar_byte _) W5 1 rfl (Nat.le_of_ble_eq_true rfl)
  have zs6 : n0 ≤ h5.size := Nat.le_trans zs4 (Keep.of_wr W5).1
  have N5 := Fr.snoc X5 N3 g_b1
  obtain ⟨cx7, Ar7, qq7, S7, N7_, H7, G7⟩ := id V5
  have hin7 : ¬ ((2 : Int32) < 0 ∨ cx7.slots.size ≤ ((2 : Int32)).toNatClampNeg) := inb_of S7 ⟨by decide, by decide⟩
  obtain ⟨T7, h7, X7, e7, W7, st7⟩ := stB X5 hx hZ e5 Ar7 (j := (2 : Int32)) hin7 (g := (mkF m 85 #[.val (.int t0), .val (.int t1), .val (.int t2), .val (.int t3), .val (.int tc), .val (.int tc), .val (.int (3 : Int32)), .val (.int (t2.toInt8.toInt32)), .val (.ref b1), .unset, .unset, .unset] [(.int (t2.toInt8.toInt32)), (.int (2 : Int32)), (.ref b1)])) rfl rfl (hb hby at_85)
  have V7 : Arv Z h7 b1 k1 .byte (10 : Int32) [(.int (nar .byte (t2.toInt8.toInt32))), (.int (nar .byte (t2.toInt8.toInt32))), (.int (nar .byte (t2.toInt8.toInt32))), (.int (0 : Int32)), (.int (0 : Int32)), (.int (0 : Int32)), (.int (0 : Int32)), (.int (0 : Int32)), (.int (0 : Int32)), (.int (0 : Int32))] (.int (0 : Int32)) := Arv.set Ar7 qq7 S7 N7_ H7 G7 (fits_nar_byte _) W7 2 rfl (Nat.le_of_ble_eq_true rfl)
  have zs8 : n0 ≤ h7.size := Nat.le_trans zs6 (Keep.of_wr W7).1
  have N7 := Fr.snoc X7 N5 g_b1
  obtain ⟨cx9, Ar9, qq9, S9, N9_, H9, G9⟩ := id V7
  have hin9 : ¬ ((3 : Int32) < 0 ∨ cx9.slots.size ≤ ((3 : Int32)).toNatClampNeg) := inb_of S9 ⟨by decide, by decide⟩
  obtain ⟨T9, h9, X9, e9, W9, st9⟩ := stB X7 hx hZ e7 Ar9 (j := (3 : Int32)) hin9 (g := (mkF m 91 #[.val (.int t0), .val (.int t1), .val (.int t2), .val (.int t3), .val (.int tc), .val (.int tc), .val (.int (3 : Int32)), .val (.int (t2.toInt8.toInt32)), .val (.ref b1), .unset, .unset, .unset] [(.int (t2.toInt8.toInt32)), (.int (3 : Int32)), (.ref b1)])) rfl rfl (hb hby at_91)
  have V9 : Arv Z h9 b1 k1 .byte (10 : Int32) [(.int (nar .byte (t2.toInt8.toInt32))), (.int (nar .byte (t2.toInt8.toInt32))), (.int (nar .byte (t2.toInt8.toInt32))), (.int (nar .byte (t2.toInt8.toInt32))), (.int (0 : Int32)), (.int (0 : Int32)), (.int (0 : Int32)), (.int (0 : Int32)), (.int (0 : Int32)), (.int (0 : Int32))] (.int (0 : Int32)) := Arv.set Ar9 qq9 S9 N9_ H9 G9 (fits_nar_byte _) W9 3 rfl (Nat.le_of_ble_eq_true rfl)
  have zs10 : n0 ≤ h9.size := Nat.le_trans zs8 (Keep.of_wr W9).1
  have N9 := Fr.snoc X9 N7 g_b1
  obtain ⟨cx11, Ar11, qq11, S11, N11_, H11, G11⟩ := id V9
  have hin11 : ¬ ((4 : Int32) < 0 ∨ cx11.slots.size ≤ ((4 : Int32)).toNatClampNeg) := inb_of S11 ⟨by decide, by decide⟩
  obtain ⟨T11, h11, X11, e11, W11, st11⟩ := stB X9 hx hZ e9 Ar11 (j := (4 : Int32)) hin11 (g := (mkF m 97 #[.val (.int t0), .val (.int t1), .val (.int t2), .val (.int t3), .val (.int tc), .val (.int tc), .val (.int (3 : Int32)), .val (.int (t2.toInt8.toInt32)), .val (.ref b1), .unset, .unset, .unset] [(.int (t2.toInt8.toInt32)), (.int (4 : Int32)), (.ref b1)])) rfl rfl (hb hby at_97)
  have V11 : Arv Z h11 b1 k1 .byte (10 : Int32) [(.int (nar .byte (t2.toInt8.toInt32))), (.int (nar .byte (t2.toInt8.toInt32))), (.int (nar .byte (t2.toInt8.toInt32))), (.int (nar .byte (t2.toInt8.toInt32))), (.int (nar .byte (t2.toInt8.toInt32))), (.int (0 : Int32)), (.int (0 : Int32)), (.int (0 : Int32)), (.int (0 : Int32)), (.int (0 : Int32))] (.int (0 : Int32)) := Arv.set Ar11 qq11 S11 N11_ H11 G11 (fits_nar_byte _) W11 4 rfl (Nat.le_of_ble_eq_true rfl)
  have zs12 : n0 ≤ h11.size := Nat.le_trans zs10 (Keep.of_wr W11).1
  have N11 := Fr.snoc X11 N9 g_b1
  obtain ⟨cx13, Ar13, qq13, S13, N13_, H13, G13⟩ := id V11
  have hin13 : ¬ ((5 : Int32) < 0 ∨ cx13.slots.size ≤ ((5 : Int32)).toNatClampNeg) := inb_of S13 ⟨by decide, by decide⟩
  obtain ⟨T13, h13, X13, e13, W13, st13⟩ := stB X11 hx hZ e11 Ar13 (j := (5 : Int32)) hin13 (g := (mkF m 103 #[.val (.int t0), .val (.int t1), .val (.int t2), .val (.int t3), .val (.int tc), .val (.int tc), .val (.int (3 : Int32)), .val (.int (t2.toInt8.toInt32)), .val (.ref b1), .unset, .unset, .unset] [(.int (t2.toInt8.toInt32)), (.int (5 : Int32)), (.ref b1)])) rfl rfl (hb hby at_103)
  have V13 : Arv Z h13 b1 k1 .byte (10 : Int32) [(.int (nar .byte (t2.toInt8.toInt32))), (.int (nar .byte (t2.toInt8.toInt32))), (.int (nar .byte (t2.toInt8.toInt32))), (.int (nar .byte (t2.toInt8.toInt32))), (.int (nar .byte (t2.toInt8.toInt32))), (.int (nar .byte (t2.toInt8.toInt32))), (.int (0 : Int32)), (.int (0 : Int32)), (.int (0 : Int32)), (.int (0 : Int32))] (.int (0 : Int32)) := Arv.set Ar13 qq13 S13 N13_ H13 G13 (fits_nar_byte _) W13 5 rfl (Nat.le_of_ble_eq_true rfl)
  have zs14 : n0 ≤ h13.size := Nat.le_trans zs12 (Keep.of_wr W13).1
  have N13 := Fr.snoc X13 N11 g_b1
  obtain ⟨cx15, Ar15, qq15, S15, N15_, H15, G15⟩ := id V13
  have hin15 : ¬ ((6 : Int32) < 0 ∨ cx15.slots.size ≤ ((6 : Int32)).toNatClampNeg) := inb_of S15 ⟨by decide, by decide⟩
  obtain ⟨T15, h15, X15, e15, W15, st15⟩ := stB X13 hx hZ e13 Ar15 (j := (6 : Int32)) hin15 (g := (mkF m 110 #[.val (.int t0), .val (.int t1), .val (.int t2), .val (.int t3), .val (.int tc), .val (.int tc), .val (.int (3 : Int32)), .val (.int (t2.toInt8.toInt32)), .val (.ref b1), .unset, .unset, .unset] [(.int (t2.toInt8.toInt32)), (.int (6 : Int32)), (.ref b1)])) rfl rfl (hb hby at_110)
  have V15 : Arv Z h15 b1 k1 .byte (10 : Int32) [(.int (nar .byte (t2.toInt8.toInt32))), (.int (nar .byte (t2.toInt8.toInt32))), (.int (nar .byte (t2.toInt8.toInt32))), (.int (nar .byte (t2.toInt8.toInt32))), (.int (nar .byte (t2.toInt8.toInt32))), (.int (nar .byte (t2.toInt8.toInt32))), (.int (nar .byte (t2.toInt8.toInt32))), (.int (0 : Int32)), (.int (0 : Int32)), (.int (0 : Int32))] (.int (0 : Int32)) := Arv.set Ar15 qq15 S15 N15_ H15 G15 (fits_nar_byte _) W15 6 rfl (Nat.le_of_ble_eq_true rfl)
  have zs16 : n0 ≤ h15.size := Nat.le_trans zs14 (Keep.of_wr W15).1
  have N15 := Fr.snoc X15 N13 g_b1
  obtain ⟨cx17, Ar17, qq17, S17, N17_, H17, G17⟩ := id V15
  have hin17 : ¬ ((7 : Int32) < 0 ∨ cx17.slots.size ≤ ((7 : Int32)).toNatClampNeg) := inb_of S17 ⟨by decide, by decide⟩
  obtain ⟨T17, h17, X17, e17, W17, st17⟩ := stB X15 hx hZ e15 Ar17 (j := (7 : Int32)) hin17 (g := (mkF m 117 #[.val (.int t0), .val (.int t1), .val (.int t2), .val (.int t3), .val (.int tc), .val (.int tc), .val (.int (3 : Int32)), .val (.int (t2.toInt8.toInt32)), .val (.ref b1), .unset, .unset, .unset] [(.int (t2.toInt8.toInt32)), (.int (7 : Int32)), (.ref b1)])) rfl rfl (hb hby at_117)
  have V17 : Arv Z h17 b1 k1 .byte (10 : Int32) [(.int (nar .byte (t2.toInt8.toInt32))), (.int (nar .byte (t2.toInt8.toInt32))), (.int (nar .byte (t2.toInt8.toInt32))), (.int (nar .byte (t2.toInt8.toInt32))), (.int (nar .byte (t2.toInt8.toInt32))), (.int (nar .byte (t2.toInt8.toInt32))), (.int (nar .byte (t2.toInt8.toInt32))), (.int (nar .byte (t2.toInt8.toInt32))), (.int (0 : Int32)), (.int (0 : Int32))] (.int (0 : Int32)) := Arv.set Ar17 qq17 S17 N17_ H17 G17 (fits_nar_byte _) W17 7 rfl (Nat.le_of_ble_eq_true rfl)
  have zs18 : n0 ≤ h17.size := Nat.le_trans zs16 (Keep.of_wr W17).1
  have N17 := Fr.snoc X17 N15 g_b1
  obtain ⟨cx19, Ar19, qq19, S19, N19_, H19, G19⟩ := id V17
  have hin19 : ¬ ((8 : Int32) < 0 ∨ cx19.slots.size ≤ ((8 : Int32)).toNatClampNeg) := inb_of S19 ⟨by decide, by decide⟩
  obtain ⟨T19, h19, X19, e19, W19, st19⟩ := stB X17 hx hZ e17 Ar19 (j := (8 : Int32)) hin19 (g := (mkF m 124 #[.val (.int t0), .val (.int t1), .val (.int t2), .val (.int t3), .val (.int tc), .val (.int tc), .val (.int (3 : Int32)), .val (.int (t2.toInt8.toInt32)), .val (.ref b1), .unset, .unset, .unset] [(.int (t2.toInt8.toInt32)), (.int (8 : Int32)), (.ref b1)])) rfl rfl (hb hby at_124)
  have V19 : Arv Z h19 b1 k1 .byte (10 : Int32) [(.int (nar .byte (t2.toInt8.toInt32))), (.int (nar .byte (t2.toInt8.toInt32))), (.int (nar .byte (t2.toInt8.toInt32))), (.int (nar .byte (t2.toInt8.toInt32))), (.int (nar .byte (t2.toInt8.toInt32))), (.int (nar .byte (t2.toInt8.toInt32))), (.int (nar .byte (t2.toInt8.toInt32))), (.int (nar .byte (t2.toInt8.toInt32))), (.int (nar .byte (t2.toInt8.toInt32))), (.int (0 : Int32))] (.int (0 : Int32)) := Arv.set Ar19 qq19 S19 N19_ H19 G19 (fits_nar_byte _) W19 8 rfl (Nat.le_of_ble_eq_true rfl)
  have zs20 : n0 ≤ h19.size := Nat.le_trans zs18 (Keep.of_wr W19).1
  have N19 := Fr.snoc X19 N17 g_b1
  obtain ⟨cx21, Ar21, qq21, S21, N21_, H21, G21⟩ := id V19
  have hin21 : ¬ ((9 : Int32) < 0 ∨ cx21.slots.size ≤ ((9 : Int32)).toNatClampNeg) := inb_of S21 ⟨by decide, by decide⟩
  obtain ⟨T21, h21, X21, e21, W21, st21⟩ := stB X19 hx hZ e19 Ar21 (j := (9 : Int32)) hin21 (g := (mkF m 131 #[.val (.int t0), .val (.int t1), .val (.int t2), .val (.int t3), .val (.int tc), .val (.int tc), .val (.int (3 : Int32)), .val (.int (t2.toInt8.toInt32)), .val (.ref b1), .unset, .unset, .unset] [(.int (t2.toInt8.toInt32)), (.int (9 : Int32)), (.ref b1)])) rfl rfl (hb hby at_131)
  have V21 : Arv Z h21 b1 k1 .byte (10 : Int32) [(.int (nar .byte (t2.toInt8.toInt32))), (.int (nar .byte (t2.toInt8.toInt32))), (.int (nar .byte (t2.toInt8.toInt32))), (.int (nar .byte (t2.toInt8.toInt32))), (.int (nar .byte (t2.toInt8.toInt32))), (.int (nar .byte (t2.toInt8.toInt32))), (.int (nar .byte (t2.toInt8.toInt32))), (.int (nar .byte (t2.toInt8.toInt32))), (.int (nar .byte (t2.toInt8.toInt32))), (.int (nar .byte (t2.toInt8.toInt32)))] (.int (0 : Int32)) := Arv.set Ar21 qq21 S21 N21_ H21 G21 (fits_nar_byte _) W21 9 rfl (Nat.le_of_ble_eq_true rfl)
  have zs22 : n0 ≤ h21.size := Nat.le_trans zs20 (Keep.of_wr W21).1
  have N21 := Fr.snoc X21 N19 g_b1
  have fa24 : Sta Z h21 "com/example/endcon/endcon/rules/LineText" "HEX_DIGITS" "[B" (.ref w1) := (((((((((((S_H.ext E1).wr W3).wr W5).wr W7).wr W9).wr W11).wr W13).wr W15).wr W17).wr W19).wr W21)
  have fa25 : Arr Z h21 w1 cl1 .byte := (((((((((((Ar_w1.ext E1).other W3 ne_w1_b1).other W5 ne_w1_b1).other W7 ne_w1_b1).other W9 ne_w1_b1).other W11 ne_w1_b1).other W13 ne_w1_b1).other W15 ne_w1_b1).other W17 ne_w1_b1).other W19 ne_w1_b1).other W21 ne_w1_b1)
  obtain ⟨_, T23, Lc23, X23, hQ23, st23⟩ := own_callS X21 hx hZ (y := (⟨"com/example/endcon/endcon/rules/LineText", "escape", "(C[BI)I"⟩ : MethodName)) hown (hw _ (List.mem_of_getElem? (i := 2) rfl)) (hw _ (List.mem_of_getElem? (i := 3) rfl)) (hw _ (List.mem_of_getElem? (i := 4) rfl)) (hw _ (List.mem_of_getElem? (i := 5) rfl)) (by decide) (W := 0) (argsL := [(.int tc), (.ref b1), (.int (3 : Int32))]) (rest := []) (rm1_3 l Z a0 hw [] tc b1 (nar .byte (t2.toInt8.toInt32)) w1 cl1 k1 h21 n0 zs22 V21 g_b1 fa24 ne_w1_b1 fa25 sz1 hv hp hp2) (by decide) (by decide) (c' := 1) (s' := 10) rfl rfl (by decide) (by decide) e21 (g := (mkF m 138 #[.val (.int t0), .val (.int t1), .val (.int t2), .val (.int t3), .val (.int tc), .val (.int tc), .val (.int (3 : Int32)), .val (.int (t2.toInt8.toInt32)), .val (.ref b1), .unset, .unset, .unset] [(.int (3 : Int32)), (.ref b1), (.int tc)])) rfl (by rw [hml]; rfl) (lenOf pd_0_0 rfl) rfl (by show 2 * 0 + _ ≤ _; exact Nat.le_of_eq rfl) (hb hby at_138)
  obtain ⟨rfl, N23q, K23, Vc23_a2⟩ := hQ23
  have N23 := Fr.app N21 N23q
  have zs26 : n0 ≤ T23.heap.size := Nat.le_trans zs22 K23.1
  obtain ⟨_, T27, Lc27, X27, hQ27, st27⟩ := own_callS X23 hx hZ (y := (⟨"com/example/endcon/endcon/rules/LineTextEscapePinLaw", "shortForm", "(I)I"⟩ : MethodName)) hown (hw _ (List.mem_of_getElem? (i := 8) rfl)) (hw _ (List.mem_of_getElem? (i := 9) rfl)) (hw _ (List.mem_of_getElem? (i := 10) rfl)) (hw _ (List.mem_of_getElem? (i := 11) rfl)) (by decide) (W := 0) (argsL := [(.int tc)]) (rest := []) (rm2 l Z a0 hw [] tc T23.heap n0 zs26 ) (by decide) (by decide) (c' := 1) (s' := 10) rfl rfl (by decide) (by decide) rfl (g := (mkF m 145 #[.val (.int t0), .val (.int t1), .val (.int t2), .val (.int t3), .val (.int tc), .val (.int tc), .val (.int (3 : Int32)), .val (.int (t2.toInt8.toInt32)), .val (.ref b1), .val (.int (f1_3 tc (nar .byte (t2.toInt8.toInt32)))), .unset, .unset] [(.int tc)])) rfl (by rw [hml]; rfl) (lenOf pd_0_1 rfl) rfl (by show 2 * 0 + _ ≤ _; exact Nat.le_of_eq rfl) (hb hby at_145)
  obtain ⟨rfl, N27q, e27⟩ := hQ27
  have N27 := Fr.app N23 N27q
  have pre28 : ∀ t, Steps p.tables e below (T27.setTop (mkF m 148 #[.val (.int t0), .val (.int t1), .val (.int t2), .val (.int t3), .val (.int tc), .val (.int tc), .val (.int (3 : Int32)), .val (.int (t2.toInt8.toInt32)), .val (.ref b1), .val (.int (f1_3 tc (nar .byte (t2.toInt8.toInt32)))), .unset, .unset] [(.int (f2 tc))])) t → Steps p.tables e below (s₁.setTop E) t := fun t kt => by
    refine pre0 _ ?_
    show Steps p.tables e below (T0.setTop (mkF m 58 #[.val (.int t0), .val (.int t1), .val (.int t2), .val (.int t3), .val (.int tc), .val (.int tc), .val (.int (3 : Int32)), .unset, .unset, .unset, .unset, .unset] [])) _
    refine own_blk X0 hx bl0_58_3 (own_hb hby bd0_58_3) (pc' := 62) (Ls' := #[.val (.int t0), .val (.int t1), .val (.int t2), .val (.int t3), .val (.int tc), .val (.int tc), .val (.int (3 : Int32)), .val (.int (t2.toInt8.toInt32)), .unset, .unset, .unset, .unset]) (st' := []) rfl ?_
    refine own_blk X0 hx bl0_62_1 (own_hb hby bd0_62_1) (pc' := 64) (Ls' := #[.val (.int t0), .val (.int t1), .val (.int t2), .val (.int t3), .val (.int tc), .val (.int tc), .val (.int (3 : Int32)), .val (.int (t2.toInt8.toInt32)), .unset, .unset, .unset, .unset]) (st' := [(.int (10 : Int32))]) rfl ?_
    refine st1 _ ?_
    show Steps p.tables e below (T1.setTop (mkF m 66 #[.val (.int t0), .val (.int t1), .val (.int t2), .val (.int t3), .val (.int tc), .val (.int tc), .val (.int (3 : Int32)), .val (.int (t2.toInt8.toInt32)), .unset, .unset, .unset, .unset] [(.ref b1)])) _
    refine own_blk X1 hx bl0_66_1 (own_hb hby bd0_66_1) (pc' := 68) (Ls' := #[.val (.int t0), .val (.int t1), .val (.int t2), .val (.int t3), .val (.int tc), .val (.int tc), .val (.int (3 : Int32)), .val (.int (t2.toInt8.toInt32)), .val (.ref b1), .unset, .unset, .unset]) (st' := []) rfl ?_
    refine own_blk X1 hx bl0_68_3 (own_hb hby bd0_68_3) (pc' := 73) (Ls' := #[.val (.int t0), .val (.int t1), .val (.int t2), .val (.int t3), .val (.int tc), .val (.int tc), .val (.int (3 : Int32)), .val (.int (t2.toInt8.toInt32)), .val (.ref b1), .unset, .unset, .unset]) (st' := [(.int (t2.toInt8.toInt32)), (.int (0 : Int32)), (.ref b1)]) rfl ?_
    refine st3 _ ?_
    show Steps p.tables e below (T3.setTop (mkF m 74 #[.val (.int t0), .val (.int t1), .val (.int t2), .val (.int t3), .val (.int tc), .val (.int tc), .val (.int (3 : Int32)), .val (.int (t2.toInt8.toInt32)), .val (.ref b1), .unset, .unset, .unset] [])) _
    refine own_blk X3 hx bl0_74_3 (own_hb hby bd0_74_3) (pc' := 79) (Ls' := #[.val (.int t0), .val (.int t1), .val (.int t2), .val (.int t3), .val (.int tc), .val (.int tc), .val (.int (3 : Int32)), .val (.int (t2.toInt8.toInt32)), .val (.ref b1), .unset, .unset, .unset]) (st' := [(.int (t2.toInt8.toInt32)), (.int (1 : Int32)), (.ref b1)]) rfl ?_
    refine st5 _ ?_
    show Steps p.tables e below (T5.setTop (mkF m 80 #[.val (.int t0), .val (.int t1), .val (.int t2), .val (.int t3), .val (.int tc), .val (.int tc), .val (.int (3 : Int32)), .val (.int (t2.toInt8.toInt32)), .val (.ref b1), .unset, .unset, .unset] [])) _
    refine own_blk X5 hx bl0_80_3 (own_hb hby bd0_80_3) (pc' := 85) (Ls' := #[.val (.int t0), .val (.int t1), .val (.int t2), .val (.int t3), .val (.int tc), .val (.int tc), .val (.int (3 : Int32)), .val (.int (t2.toInt8.toInt32)), .val (.ref b1), .unset, .unset, .unset]) (st' := [(.int (t2.toInt8.toInt32)), (.int (2 : Int32)), (.ref b1)]) rfl ?_
    refine st7 _ ?_
    show Steps p.tables e below (T7.setTop (mkF m 86 #[.val (.int t0), .val (.int t1), .val (.int t2), .val (.int t3), .val (.int tc), .val (.int tc), .val (.int (3 : Int32)), .val (.int (t2.toInt8.toInt32)), .val (.ref b1), .unset, .unset, .unset] [])) _
    refine own_blk X7 hx bl0_86_3 (own_hb hby bd0_86_3) (pc' := 91) (Ls' := #[.val (.int t0), .val (.int t1), .val (.int t2), .val (.int t3), .val (.int tc), .val (.int tc), .val (.int (3 : Int32)), .val (.int (t2.toInt8.toInt32)), .val (.ref b1), .unset, .unset, .unset]) (st' := [(.int (t2.toInt8.toInt32)), (.int (3 : Int32)), (.ref b1)]) rfl ?_
    refine st9 _ ?_
    show Steps p.tables e below (T9.setTop (mkF m 92 #[.val (.int t0), .val (.int t1), .val (.int t2), .val (.int t3), .val (.int tc), .val (.int tc), .val (.int (3 : Int32)), .val (.int (t2.toInt8.toInt32)), .val (.ref b1), .unset, .unset, .unset] [])) _
    refine own_blk X9 hx bl0_92_3 (own_hb hby bd0_92_3) (pc' := 97) (Ls' := #[.val (.int t0), .val (.int t1), .val (.int t2), .val (.int t3), .val (.int tc), .val (.int tc), .val (.int (3 : Int32)), .val (.int (t2.toInt8.toInt32)), .val (.ref b1), .unset, .unset, .unset]) (st' := [(.int (t2.toInt8.toInt32)), (.int (4 : Int32)), (.ref b1)]) rfl ?_
    refine st11 _ ?_
    show Steps p.tables e below (T11.setTop (mkF m 98 #[.val (.int t0), .val (.int t1), .val (.int t2), .val (.int t3), .val (.int tc), .val (.int tc), .val (.int (3 : Int32)), .val (.int (t2.toInt8.toInt32)), .val (.ref b1), .unset, .unset, .unset] [])) _
    refine own_blk X11 hx bl0_98_3 (own_hb hby bd0_98_3) (pc' := 103) (Ls' := #[.val (.int t0), .val (.int t1), .val (.int t2), .val (.int t3), .val (.int tc), .val (.int tc), .val (.int (3 : Int32)), .val (.int (t2.toInt8.toInt32)), .val (.ref b1), .unset, .unset, .unset]) (st' := [(.int (t2.toInt8.toInt32)), (.int (5 : Int32)), (.ref b1)]) rfl ?_
    refine st13 _ ?_
    show Steps p.tables e below (T13.setTop (mkF m 104 #[.val (.int t0), .val (.int t1), .val (.int t2), .val (.int t3), .val (.int tc), .val (.int tc), .val (.int (3 : Int32)), .val (.int (t2.toInt8.toInt32)), .val (.ref b1), .unset, .unset, .unset] [])) _
    refine own_blk X13 hx bl0_104_3 (own_hb hby bd0_104_3) (pc' := 110) (Ls' := #[.val (.int t0), .val (.int t1), .val (.int t2), .val (.int t3), .val (.int tc), .val (.int tc), .val (.int (3 : Int32)), .val (.int (t2.toInt8.toInt32)), .val (.ref b1), .unset, .unset, .unset]) (st' := [(.int (t2.toInt8.toInt32)), (.int (6 : Int32)), (.ref b1)]) rfl ?_
    refine st15 _ ?_
    show Steps p.tables e below (T15.setTop (mkF m 111 #[.val (.int t0), .val (.int t1), .val (.int t2), .val (.int t3), .val (.int tc), .val (.int tc), .val (.int (3 : Int32)), .val (.int (t2.toInt8.toInt32)), .val (.ref b1), .unset, .unset, .unset] [])) _
    refine own_blk X15 hx bl0_111_3 (own_hb hby bd0_111_3) (pc' := 117) (Ls' := #[.val (.int t0), .val (.int t1), .val (.int t2), .val (.int t3), .val (.int tc), .val (.int tc), .val (.int (3 : Int32)), .val (.int (t2.toInt8.toInt32)), .val (.ref b1), .unset, .unset, .unset]) (st' := [(.int (t2.toInt8.toInt32)), (.int (7 : Int32)), (.ref b1)]) rfl ?_
    refine st17 _ ?_
    show Steps p.tables e below (T17.setTop (mkF m 118 #[.val (.int t0), .val (.int t1), .val (.int t2), .val (.int t3), .val (.int tc), .val (.int tc), .val (.int (3 : Int32)), .val (.int (t2.toInt8.toInt32)), .val (.ref b1), .unset, .unset, .unset] [])) _
    refine own_blk X17 hx bl0_118_3 (own_hb hby bd0_118_3) (pc' := 124) (Ls' := #[.val (.int t0), .val (.int t1), .val (.int t2), .val (.int t3), .val (.int tc), .val (.int tc), .val (.int (3 : Int32)), .val (.int (t2.toInt8.toInt32)), .val (.ref b1), .unset, .unset, .unset]) (st' := [(.int (t2.toInt8.toInt32)), (.int (8 : Int32)), (.ref b1)]) rfl ?_
    refine st19 _ ?_
    show Steps p.tables e below (T19.setTop (mkF m 125 #[.val (.int t0), .val (.int t1), .val (.int t2), .val (.int t3), .val (.int tc), .val (.int tc), .val (.int (3 : Int32)), .val (.int (t2.toInt8.toInt32)), .val (.ref b1), .unset, .unset, .unset] [])) _
    refine own_blk X19 hx bl0_125_3 (own_hb hby bd0_125_3) (pc' := 131) (Ls' := #[.val (.int t0), .val (.int t1), .val (.int t2), .val (.int t3), .val (.int tc), .val (.int tc), .val (.int (3 : Int32)), .val (.int (t2.toInt8.toInt32)), .val (.ref b1), .unset, .unset, .unset]) (st' := [(.int (t2.toInt8.toInt32)), (.int (9 : Int32)), (.ref b1)]) rfl ?_
    refine st21 _ ?_
    show Steps p.tables e below (T21.setTop (mkF m 132 #[.val (.int t0), .val (.int t1), .val (.int t2), .val (.int t3), .val (.int tc), .val (.int tc), .val (.int (3 : Int32)), .val (.int (t2.toInt8.toInt32)), .val (.ref b1), .unset, .unset, .unset] [])) _
    refine own_blk X21 hx bl0_132_3 (own_hb hby bd0_132_3) (pc' := 138) (Ls' := #[.val (.int t0), .val (.int t1), .val (.int t2), .val (.int t3), .val (.int tc), .val (.int tc), .val (.int (3 : Int32)), .val (.int (t2.toInt8.toInt32)), .val (.ref b1), .unset, .unset, .unset]) (st' := [(.int (3 : Int32)), (.ref b1), (.int tc)]) rfl ?_
    refine st23 _ ?_
    show Steps p.tables e below (T23.setTop (mkF m 141 #[.val (.int t0), .val (.int t1), .val (.int t2), .val (.int t3), .val (.int tc), .val (.int tc), .val (.int (3 : Int32)), .val (.int (t2.toInt8.toInt32)), .val (.ref b1), .unset, .unset, .unset] [(.int (f1_3 tc (nar .byte (t2.toInt8.toInt32))))])) _
    refine own_blk X23 hx bl0_141_1 (own_hb hby bd0_141_1) (pc' := 143) (Ls' := #[.val (.int t0), .val (.int t1), .val (.int t2), .val (.int t3), .val (.int tc), .val (.int tc), .val (.int (3 : Int32)), .val (.int (t2.toInt8.toInt32)), .val (.ref b1), .val (.int (f1_3 tc (nar .byte (t2.toInt8.toInt32)))), .unset, .unset]) (st' := []) rfl ?_
    refine own_blk X23 hx bl0_143_1 (own_hb hby bd0_143_1) (pc' := 145) (Ls' := #[.val (.int t0), .val (.int t1), .val (.int t2), .val (.int t3), .val (.int tc), .val (.int tc), .val (.int (3 : Int32)), .val (.int (t2.toInt8.toInt32)), .val (.ref b1), .val (.int (f1_3 tc (nar .byte (t2.toInt8.toInt32)))), .unset, .unset]) (st' := [(.int tc)]) rfl ?_
    refine st27 _ ?_
    exact kt
  by_cases hc29 : (f2 tc) = (0 : Int32)
  · have pre30 : ∀ t, Steps p.tables e below (T27.setTop (mkF m 176 #[.val (.int t0), .val (.int t1), .val (.int t2), .val (.int t3), .val (.int tc), .val (.int tc), .val (.int (3 : Int32)), .val (.int (t2.toInt8.toInt32)), .val (.ref b1), .val (.int (f1_3 tc (nar .byte (t2.toInt8.toInt32)))), .val (.int (6 : Int32)), .val (.int (1 : Int32))] [])) t → Steps p.tables e below (s₁.setTop E) t := fun t kt => by
      refine pre28 _ ?_
      show Steps p.tables e below (T27.setTop (mkF m 148 #[.val (.int t0), .val (.int t1), .val (.int t2), .val (.int t3), .val (.int tc), .val (.int tc), .val (.int (3 : Int32)), .val (.int (t2.toInt8.toInt32)), .val (.ref b1), .val (.int (f1_3 tc (nar .byte (t2.toInt8.toInt32)))), .unset, .unset] [(.int (f2 tc))])) _
      refine XS.ifYes X27.here hx rfl (pc0 := 148) (pc' := 155) rfl (hb hby at_148) rfl ((if0 _ _).trans (teq hc29).1) (by decide) (by decide) ?_
      show Steps p.tables e below (T27.setTop (mkF m 155 #[.val (.int t0), .val (.int t1), .val (.int t2), .val (.int t3), .val (.int tc), .val (.int tc), .val (.int (3 : Int32)), .val (.int (t2.toInt8.toInt32)), .val (.ref b1), .val (.int (f1_3 tc (nar .byte (t2.toInt8.toInt32)))), .unset, .unset] [])) _
      refine own_blk X27 hx bl0_155_2 (own_hb hby bd0_155_2) (pc' := 159) (Ls' := #[.val (.int t0), .val (.int t1), .val (.int t2), .val (.int t3), .val (.int tc), .val (.int tc), .val (.int (3 : Int32)), .val (.int (t2.toInt8.toInt32)), .val (.ref b1), .val (.int (f1_3 tc (nar .byte (t2.toInt8.toInt32)))), .val (.int (6 : Int32)), .unset]) (st' := []) rfl ?_
      refine own_blk X27 hx bl0_159_4 (own_hb hby bd0_159_4) (pc' := 166) (Ls' := #[.val (.int t0), .val (.int t1), .val (.int t2), .val (.int t3), .val (.int tc), .val (.int tc), .val (.int (3 : Int32)), .val (.int (t2.toInt8.toInt32)), .val (.ref b1), .val (.int (f1_3 tc (nar .byte (t2.toInt8.toInt32)))), .val (.int (6 : Int32)), .unset]) (st' := [(.int (9 : Int32)), (.int (f1_3 tc (nar .byte (t2.toInt8.toInt32))))]) rfl ?_
      refine XS.icmpNo X27.here hx rfl (hb hby at_166) rfl (teq (own_end3z tc (nar .byte (t2.toInt8.toInt32)) hc29)).2 ?_
      show Steps p.tables e below (T27.setTop (mkF m 169 #[.val (.int t0), .val (.int t1), .val (.int t2), .val (.int t3), .val (.int tc), .val (.int tc), .val (.int (3 : Int32)), .val (.int (t2.toInt8.toInt32)), .val (.ref b1), .val (.int (f1_3 tc (nar .byte (t2.toInt8.toInt32)))), .val (.int (6 : Int32)), .unset] [])) _
      refine own_blk X27 hx bl0_169_3 (own_hb hby bd0_169_3) (pc' := 176) (Ls' := #[.val (.int t0), .val (.int t1), .val (.int t2), .val (.int t3), .val (.int tc), .val (.int tc), .val (.int (3 : Int32)), .val (.int (t2.toInt8.toInt32)), .val (.ref b1), .val (.int (f1_3 tc (nar .byte (t2.toInt8.toInt32)))), .val (.int (6 : Int32)), .val (.int (1 : Int32))]) (st' := []) rfl ?_
      exact kt
    obtain ⟨s231, o31, u31a, u31b, u31c, v31, L31, rfl, ⟨rfl, u31d⟩, u31e⟩ := tlB3 t0 t1 t2 t3 tc (f1_3 tc (nar .byte (t2.toInt8.toInt32))) (6 : Int32) b1 k1 X27 hx hZ hw hby hml hown hret hlk e27 N27 zs26 pre30 Vc23_a2 hp hp2
    exact ⟨s231, _, u31a, u31b, u31c, _, _, rfl, ⟨by rw [fA3, if_pos hc29], u31d⟩, u31e⟩
  · have pre32 : ∀ t, Steps p.tables e below (T27.setTop (mkF m 176 #[.val (.int t0), .val (.int t1), .val (.int t2), .val (.int t3), .val (.int tc), .val (.int tc), .val (.int (3 : Int32)), .val (.int (t2.toInt8.toInt32)), .val (.ref b1), .val (.int (f1_3 tc (nar .byte (t2.toInt8.toInt32)))), .val (.int (2 : Int32)), .val (.int (1 : Int32))] [])) t → Steps p.tables e below (s₁.setTop E) t := fun t kt => by
      refine pre28 _ ?_
      show Steps p.tables e below (T27.setTop (mkF m 148 #[.val (.int t0), .val (.int t1), .val (.int t2), .val (.int t3), .val (.int tc), .val (.int tc), .val (.int (3 : Int32)), .val (.int (t2.toInt8.toInt32)), .val (.ref b1), .val (.int (f1_3 tc (nar .byte (t2.toInt8.toInt32)))), .unset, .unset] [(.int (f2 tc))])) _
      refine XS.ifNo X27.here hx rfl (hb hby at_148) rfl ((if0 _ _).trans (feq hc29).1) ?_
      show Steps p.tables e below (T27.setTop (mkF m 151 #[.val (.int t0), .val (.int t1), .val (.int t2), .val (.int t3), .val (.int tc), .val (.int tc), .val (.int (3 : Int32)), .val (.int (t2.toInt8.toInt32)), .val (.ref b1), .val (.int (f1_3 tc (nar .byte (t2.toInt8.toInt32)))), .unset, .unset] [])) _
      refine own_blk X27 hx bl0_151_3 (own_hb hby bd0_151_3) (pc' := 159) (Ls' := #[.val (.int t0), .val (.int t1), .val (.int t2), .val (.int t3), .val (.int tc), .val (.int tc), .val (.int (3 : Int32)), .val (.int (t2.toInt8.toInt32)), .val (.ref b1), .val (.int (f1_3 tc (nar .byte (t2.toInt8.toInt32)))), .val (.int (2 : Int32)), .unset]) (st' := []) rfl ?_
      refine own_blk X27 hx bl0_159_4 (own_hb hby bd0_159_4) (pc' := 166) (Ls' := #[.val (.int t0), .val (.int t1), .val (.int t2), .val (.int t3), .val (.int tc), .val (.int tc), .val (.int (3 : Int32)), .val (.int (t2.toInt8.toInt32)), .val (.ref b1), .val (.int (f1_3 tc (nar .byte (t2.toInt8.toInt32)))), .val (.int (2 : Int32)), .unset]) (st' := [(.int (5 : Int32)), (.int (f1_3 tc (nar .byte (t2.toInt8.toInt32))))]) rfl ?_
      refine XS.icmpNo X27.here hx rfl (hb hby at_166) rfl (teq (own_end3n tc (nar .byte (t2.toInt8.toInt32)) hc29)).2 ?_
      show Steps p.tables e below (T27.setTop (mkF m 169 #[.val (.int t0), .val (.int t1), .val (.int t2), .val (.int t3), .val (.int tc), .val (.int tc), .val (.int (3 : Int32)), .val (.int (t2.toInt8.toInt32)), .val (.ref b1), .val (.int (f1_3 tc (nar .byte (t2.toInt8.toInt32)))), .val (.int (2 : Int32)), .unset] [])) _
      refine own_blk X27 hx bl0_169_3 (own_hb hby bd0_169_3) (pc' := 176) (Ls' := #[.val (.int t0), .val (.int t1), .val (.int t2), .val (.int t3), .val (.int tc), .val (.int tc), .val (.int (3 : Int32)), .val (.int (t2.toInt8.toInt32)), .val (.ref b1), .val (.int (f1_3 tc (nar .byte (t2.toInt8.toInt32)))), .val (.int (2 : Int32)), .val (.int (1 : Int32))]) (st' := []) rfl ?_
      exact kt
    obtain ⟨s233, o33, u33a, u33b, u33c, v33, L33, rfl, ⟨rfl, u33d⟩, u33e⟩ := tlB3 t0 t1 t2 t3 tc (f1_3 tc (nar .byte (t2.toInt8.toInt32))) (2 : Int32) b1 k1 X27 hx hZ hw hby hml hown hret hlk e27 N27 zs26 pre32 Vc23_a2 hp hp2
    exact ⟨s233, _, u33a, u33b, u33c, _, _, rfl, ⟨by rw [fA3, if_neg hc29], u33d⟩, u33e⟩

def f0_3 (p1 : Int32) (p2 : Int32) (p3 : Int32) : Int32 := (if ((p1 &&& (2147483647 : Int32)) % (67 : Int32)) < (32 : Int32) then (fA3 p1 p2 p3 ((p1 &&& (2147483647 : Int32)) % (67 : Int32)) ((p1 &&& (2147483647 : Int32)) % (67 : Int32))) else (if ((p1 &&& (2147483647 : Int32)) % (67 : Int32)) < (65 : Int32) then (fA3 p1 p2 p3 ((p1 &&& (2147483647 : Int32)) % (67 : Int32)) ((127 : Int32) + (((p1 &&& (2147483647 : Int32)) % (67 : Int32)) - (32 : Int32)))) else (fA3 p1 p2 p3 ((p1 &&& (2147483647 : Int32)) % (67 : Int32)) ((8232 : Int32) + (((p1 &&& (2147483647 : Int32)) % (67 : Int32)) - (65 : Int32))))))
def Q0_3 (Z : State) (p1 : Int32) (p2 : Int32) (p3 : Int32) (w1 : Addr) (cl1 : Cell) (h0 : Heap) (n0 : Nat) (v : Option Value) (h : Heap) (L : List Loc) : Prop := v = some (.int (f0_3 p1 p2 p3)) ∧ Fr n0 L
set_option maxRecDepth 65536 in
set_option maxHeartbeats 40000000 in
theorem rm0_3 (l : Launch) (Z : State) (a0 : Array Value) (hw : ∀ d ∈ tables_1, d.before a0 Z = true) (ws : List Jvm.Cond) (p1 : Int32) (p2 : Int32) (p3 : Int32) (w1 : Addr) (cl1 : Cell) (h0 : Heap) (n0 : Nat) (Z0 : n0 ≤ h0.size) (S_HEX_DIGITS : Sta Z h0 "com/example/endcon/endcon/rules/LineText" "HEX_DIGITS" "[B" (.ref w1)) (Ar_w1 : Arr Z h0 w1 cl1 .byte) (sz1 : cl1.slots.size = (16 : Int32).toNatClampNeg) (hv : ∀ j : Int32, ¬ j < 0 → j < 16 → cl1.slots[j.toNatClampNeg]? = some (.int (own_tab j))) (hn : (p2 &&& (3 : Int32)) = (3 : Int32)) :
    MetFree l x (head1 (Jvm.Cond.code x code maxLocals ret :: ws) room_1) (fun a U => a = #[(.int p1), (.int p2), (.int p3)] ∧ Z.Warmed39 U.vm ∧ U.heap = h0) (fun _ _ _ _ _ => True) (fun _ U o U' => ∃ v L, o = .returned v ∧ Q0_3 Z p1 p2 p3 w1 cl1 h0 n0 v U'.heap L ∧ FrameEnd U o U' L room_1.cells room_1.slots) := by
  refine MetFree.of_bodySF (plainFor_of_name pn_0) hisR ?_
  intro p e s m args below meth c s₁ Bd hml0 hP hK
  obtain ⟨rfl, hZ, hh⟩ := hP
  have hx := Bd.exec
  have hby := Bd.bytes
  have hml : c.maxLocals = 12 := hml0
  have hown : s.vm.findClass "com/example/endcon/endcon/rules/LineTextEscapePinLaw" = some m.cls := findClass_of_methodNamed Bd.named
  have hnm := (name_of_methodNamed Bd.named Bd.method).1
  have X0 : Stand p l e room_1 s m #[(.int p1), (.int p2), (.int p3)] below meth c s₁ [] 0 0 := Stand.of_body Bd
  have e0 : s₁.heap = h0 := by rw [← hh, Bd.state]; rfl
  have N0 := Fr.nil n0
  have pre0 : ∀ t, Steps p.tables e below (s₁.setTop (mkF m 0 #[.val (.int p1), .val (.int p2), .val (.int p3), .unset, .unset, .unset, .unset, .unset, .unset, .unset, .unset, .unset] [])) t → Steps p.tables e below (s₁.setTop (entryFrame m #[(.int p1), (.int p2), (.int p3)] maxLocals)) t := fun t k => castTop (ef_0 m p1 p2 p3) k
  have pre1 : ∀ t, Steps p.tables e below (s₁.setTop (mkF m 11 #[.val (.int p1), .val (.int p2), .val (.int p3), .val (.int ((p1 &&& (2147483647 : Int32)) % (67 : Int32))), .unset, .unset, .unset, .unset, .unset, .unset, .unset, .unset] [(.int (32 : Int32)), (.int ((p1 &&& (2147483647 : Int32)) % (67 : Int32)))])) t → Steps p.tables e below (s₁.setTop (entryFrame m #[(.int p1), (.int p2), (.int p3)] maxLocals)) t := fun t kt => by
    refine pre0 _ ?_
    show Steps p.tables e below (s₁.setTop (mkF m 0 #[.val (.int p1), .val (.int p2), .val (.int p3), .unset, .unset, .unset, .unset, .unset, .unset, .unset, .unset, .unset] [])) _
    refine own_blk X0 hx bl0_0_1 (own_hb hby bd0_0_1) (pc' := 1) (Ls' := #[.val (.int p1), .val (.int p2), .val (.int p3), .unset, .unset, .unset, .unset, .unset, .unset, .unset, .unset, .unset]) (st' := [(.int p1)]) rfl ?_
    refine X0.ldcInt hx hown (mvT hZ (hw _ (List.mem_of_getElem? (i := 0) rfl))) (g := (mkF m 1 #[.val (.int p1), .val (.int p2), .val (.int p3), .unset, .unset, .unset, .unset, .unset, .unset, .unset, .unset, .unset] [(.int p1)])) rfl (hb hby at_1) _ ?_
    show Steps p.tables e below (s₁.setTop (mkF m 3 #[.val (.int p1), .val (.int p2), .val (.int p3), .unset, .unset, .unset, .unset, .unset, .unset, .unset, .unset, .unset] [(.int (2147483647 : Int32)), (.int p1)])) _
    refine own_blk X0 hx bl0_3_2 (own_hb hby bd0_3_2) (pc' := 6) (Ls' := #[.val (.int p1), .val (.int p2), .val (.int p3), .unset, .unset, .unset, .unset, .unset, .unset, .unset, .unset, .unset]) (st' := [(.int (67 : Int32)), (.int (p1 &&& (2147483647 : Int32)))]) rfl ?_
    refine iremM X0 hx rfl (hb hby at_6) rfl (by decide : ¬ ((67 : Int32) = (0 : Int32))) ?_
    show Steps p.tables e below (s₁.setTop (mkF m 7 #[.val (.int p1), .val (.int p2), .val (.int p3), .unset, .unset, .unset, .unset, .unset, .unset, .unset, .unset, .unset] [(.int ((p1 &&& (2147483647 : Int32)) % (67 : Int32)))])) _
    refine own_blk X0 hx bl0_7_1 (own_hb hby bd0_7_1) (pc' := 8) (Ls' := #[.val (.int p1), .val (.int p2), .val (.int p3), .val (.int ((p1 &&& (2147483647 : Int32)) % (67 : Int32))), .unset, .unset, .unset, .unset, .unset, .unset, .unset, .unset]) (st' := []) rfl ?_
    refine own_blk X0 hx bl0_8_2 (own_hb hby bd0_8_2) (pc' := 11) (Ls' := #[.val (.int p1), .val (.int p2), .val (.int p3), .val (.int ((p1 &&& (2147483647 : Int32)) % (67 : Int32))), .unset, .unset, .unset, .unset, .unset, .unset, .unset, .unset]) (st' := [(.int (32 : Int32)), (.int ((p1 &&& (2147483647 : Int32)) % (67 : Int32)))]) rfl ?_
    exact kt
  by_cases hc2 : ((p1 &&& (2147483647 : Int32)) % (67 : Int32)) < (32 : Int32)
  · have pre3 : ∀ t, Steps p.tables e below (s₁.setTop (mkF m 58 #[.val (.int p1), .val (.int p2), .val (.int p3), .val (.int ((p1 &&& (2147483647 : Int32)) % (67 : Int32))), .val (.int ((p1 &&& (2147483647 : Int32)) % (67 : Int32))), .val (.int ((p1 &&& (2147483647 : Int32)) % (67 : Int32))), .val (.int (3 : Int32)), .unset, .unset, .unset, .unset, .unset] [])) t → Steps p.tables e below (s₁.setTop (entryFrame m #[(.int p1), (.int p2), (.int p3)] maxLocals)) t := fun t kt => by
      refine pre1 _ ?_
      show Steps p.tables e below (s₁.setTop (mkF m 11 #[.val (.int p1), .val (.int p2), .val (.int p3), .val (.int ((p1 &&& (2147483647 : Int32)) % (67 : Int32))), .unset, .unset, .unset, .unset, .unset, .unset, .unset, .unset] [(.int (32 : Int32)), (.int ((p1 &&& (2147483647 : Int32)) % (67 : Int32)))])) _
      refine XS.icmpNo X0.here hx rfl (hb hby at_11) rfl (tlt hc2).2.1 ?_
      show Steps p.tables e below (s₁.setTop (mkF m 14 #[.val (.int p1), .val (.int p2), .val (.int p3), .val (.int ((p1 &&& (2147483647 : Int32)) % (67 : Int32))), .unset, .unset, .unset, .unset, .unset, .unset, .unset, .unset] [])) _
      refine own_blk X0 hx bl0_14_2 (own_hb hby bd0_14_2) (pc' := 17) (Ls' := #[.val (.int p1), .val (.int p2), .val (.int p3), .val (.int ((p1 &&& (2147483647 : Int32)) % (67 : Int32))), .val (.int ((p1 &&& (2147483647 : Int32)) % (67 : Int32))), .unset, .unset, .unset, .unset, .unset, .unset, .unset]) (st' := []) rfl ?_
      refine own_blk X0 hx bl0_17_3 (own_hb hby bd0_17_3) (pc' := 51) (Ls' := #[.val (.int p1), .val (.int p2), .val (.int p3), .val (.int ((p1 &&& (2147483647 : Int32)) % (67 : Int32))), .val (.int ((p1 &&& (2147483647 : Int32)) % (67 : Int32))), .unset, .unset, .unset, .unset, .unset, .unset, .unset]) (st' := [(.int (((p1 &&& (2147483647 : Int32)) % (67 : Int32)).toUInt32.toUInt16.toUInt32.toInt32))]) rfl ?_
      rw [own_ic (own_r1 p1 hc2)]
      show Steps p.tables e below (s₁.setTop (mkF m 51 #[.val (.int p1), .val (.int p2), .val (.int p3), .val (.int ((p1 &&& (2147483647 : Int32)) % (67 : Int32))), .val (.int ((p1 &&& (2147483647 : Int32)) % (67 : Int32))), .unset, .unset, .unset, .unset, .unset, .unset, .unset] [(.int ((p1 &&& (2147483647 : Int32)) % (67 : Int32)))])) _
      refine own_blk X0 hx bl0_51_1 (own_hb hby bd0_51_1) (pc' := 53) (Ls' := #[.val (.int p1), .val (.int p2), .val (.int p3), .val (.int ((p1 &&& (2147483647 : Int32)) % (67 : Int32))), .val (.int ((p1 &&& (2147483647 : Int32)) % (67 : Int32))), .val (.int ((p1 &&& (2147483647 : Int32)) % (67 : Int32))), .unset, .unset, .unset, .unset, .unset, .unset]) (st' := []) rfl ?_
      refine own_blk X0 hx bl0_53_3 (own_hb hby bd0_53_3) (pc' := 56) (Ls' := #[.val (.int p1), .val (.int p2), .val (.int p3), .val (.int ((p1 &&& (2147483647 : Int32)) % (67 : Int32))), .val (.int ((p1 &&& (2147483647 : Int32)) % (67 : Int32))), .val (.int ((p1 &&& (2147483647 : Int32)) % (67 : Int32))), .unset, .unset, .unset, .unset, .unset, .unset]) (st' := [(.int (p2 &&& (3 : Int32)))]) rfl ?_
      rw [hn]
      show Steps p.tables e below (s₁.setTop (mkF m 56 #[.val (.int p1), .val (.int p2), .val (.int p3), .val (.int ((p1 &&& (2147483647 : Int32)) % (67 : Int32))), .val (.int ((p1 &&& (2147483647 : Int32)) % (67 : Int32))), .val (.int ((p1 &&& (2147483647 : Int32)) % (67 : Int32))), .unset, .unset, .unset, .unset, .unset, .unset] [(.int (3 : Int32))])) _
      refine own_blk X0 hx bl0_56_1 (own_hb hby bd0_56_1) (pc' := 58) (Ls' := #[.val (.int p1), .val (.int p2), .val (.int p3), .val (.int ((p1 &&& (2147483647 : Int32)) % (67 : Int32))), .val (.int ((p1 &&& (2147483647 : Int32)) % (67 : Int32))), .val (.int ((p1 &&& (2147483647 : Int32)) % (67 : Int32))), .val (.int (3 : Int32)), .unset, .unset, .unset, .unset, .unset]) (st' := []) rfl ?_
      exact kt
    obtain ⟨s24, o4, u4a, u4b, u4c, v4, L4, rfl, ⟨rfl, u4d⟩, u4e⟩ := tlA3 p1 p2 p3 ((p1 &&& (2147483647 : Int32)) % (67 : Int32)) ((p1 &&& (2147483647 : Int32)) % (67 : Int32)) w1 cl1 X0 hx hZ hw hby hml hown Bd.returns Bd.notSynchronized e0 N0 Z0 pre3 S_HEX_DIGITS Ar_w1 sz1 hv (own_r1 p1 hc2).1 (own_r1 p1 hc2).2
    exact ⟨s24, _, u4a, u4b, u4c, _, _, rfl, ⟨by rw [f0_3, if_pos hc2], u4d⟩, u4e⟩
  · have pre5 : ∀ t, Steps p.tables e below (s₁.setTop (mkF m 23 #[.val (.int p1), .val (.int p2), .val (.int p3), .val (.int ((p1 &&& (2147483647 : Int32)) % (67 : Int32))), .unset, .unset, .unset, .unset, .unset, .unset, .unset, .unset] [(.int (65 : Int32)), (.int ((p1 &&& (2147483647 : Int32)) % (67 : Int32)))])) t → Steps p.tables e below (s₁.setTop (entryFrame m #[(.int p1), (.int p2), (.int p3)] maxLocals)) t := fun t kt => by
      refine pre1 _ ?_
      show Steps p.tables e below (s₁.setTop (mkF m 11 #[.val (.int p1), .val (.int p2), .val (.int p3), .val (.int ((p1 &&& (2147483647 : Int32)) % (67 : Int32))), .unset, .unset, .unset, .unset, .unset, .unset, .unset, .unset] [(.int (32 : Int32)), (.int ((p1 &&& (2147483647 : Int32)) % (67 : Int32)))])) _
      refine XS.icmpYes X0.here hx rfl (pc0 := 11) (pc' := 20) rfl (hb hby at_11) rfl (flt hc2).2.1 (by decide) (by decide) ?_
      show Steps p.tables e below (s₁.setTop (mkF m 20 #[.val (.int p1), .val (.int p2), .val (.int p3), .val (.int ((p1 &&& (2147483647 : Int32)) % (67 : Int32))), .unset, .unset, .unset, .unset, .unset, .unset, .unset, .unset] [])) _
      refine own_blk X0 hx bl0_20_2 (own_hb hby bd0_20_2) (pc' := 23) (Ls' := #[.val (.int p1), .val (.int p2), .val (.int p3), .val (.int ((p1 &&& (2147483647 : Int32)) % (67 : Int32))), .unset, .unset, .unset, .unset, .unset, .unset, .unset, .unset]) (st' := [(.int (65 : Int32)), (.int ((p1 &&& (2147483647 : Int32)) % (67 : Int32)))]) rfl ?_
      exact kt
    by_cases hc6 : ((p1 &&& (2147483647 : Int32)) % (67 : Int32)) < (65 : Int32)
    · have pre7 : ∀ t, Steps p.tables e below (s₁.setTop (mkF m 58 #[.val (.int p1), .val (.int p2), .val (.int p3), .val (.int ((p1 &&& (2147483647 : Int32)) % (67 : Int32))), .val (.int ((127 : Int32) + (((p1 &&& (2147483647 : Int32)) % (67 : Int32)) - (32 : Int32)))), .val (.int ((127 : Int32) + (((p1 &&& (2147483647 : Int32)) % (67 : Int32)) - (32 : Int32)))), .val (.int (3 : Int32)), .unset, .unset, .unset, .unset, .unset] [])) t → Steps p.tables e below (s₁.setTop (entryFrame m #[(.int p1), (.int p2), (.int p3)] maxLocals)) t := fun t kt => by
        refine pre5 _ ?_
        show Steps p.tables e below (s₁.setTop (mkF m 23 #[.val (.int p1), .val (.int p2), .val (.int p3), .val (.int ((p1 &&& (2147483647 : Int32)) % (67 : Int32))), .unset, .unset, .unset, .unset, .unset, .unset, .unset, .unset] [(.int (65 : Int32)), (.int ((p1 &&& (2147483647 : Int32)) % (67 : Int32)))])) _
        refine XS.icmpNo X0.here hx rfl (hb hby at_23) rfl (tlt hc6).2.1 ?_
        show Steps p.tables e below (s₁.setTop (mkF m 26 #[.val (.int p1), .val (.int p2), .val (.int p3), .val (.int ((p1 &&& (2147483647 : Int32)) % (67 : Int32))), .unset, .unset, .unset, .unset, .unset, .unset, .unset, .unset] [])) _
        refine own_blk X0 hx bl0_26_6 (own_hb hby bd0_26_6) (pc' := 35) (Ls' := #[.val (.int p1), .val (.int p2), .val (.int p3), .val (.int ((p1 &&& (2147483647 : Int32)) % (67 : Int32))), .val (.int ((127 : Int32) + (((p1 &&& (2147483647 : Int32)) % (67 : Int32)) - (32 : Int32)))), .unset, .unset, .unset, .unset, .unset, .unset, .unset]) (st' := []) rfl ?_
        refine own_blk X0 hx bl0_35_3 (own_hb hby bd0_35_3) (pc' := 51) (Ls' := #[.val (.int p1), .val (.int p2), .val (.int p3), .val (.int ((p1 &&& (2147483647 : Int32)) % (67 : Int32))), .val (.int ((127 : Int32) + (((p1 &&& (2147483647 : Int32)) % (67 : Int32)) - (32 : Int32)))), .unset, .unset, .unset, .unset, .unset, .unset, .unset]) (st' := [(.int (((127 : Int32) + (((p1 &&& (2147483647 : Int32)) % (67 : Int32)) - (32 : Int32))).toUInt32.toUInt16.toUInt32.toInt32))]) rfl ?_
        rw [own_ic (own_r2 p1 hc2 hc6)]
        show Steps p.tables e below (s₁.setTop (mkF m 51 #[.val (.int p1), .val (.int p2), .val (.int p3), .val (.int ((p1 &&& (2147483647 : Int32)) % (67 : Int32))), .val (.int ((127 : Int32) + (((p1 &&& (2147483647 : Int32)) % (67 : Int32)) - (32 : Int32)))), .unset, .unset, .unset, .unset, .unset, .unset, .unset] [(.int ((127 : Int32) + (((p1 &&& (2147483647 : Int32)) % (67 : Int32)) - (32 : Int32))))])) _
        refine own_blk X0 hx bl0_51_1 (own_hb hby bd0_51_1) (pc' := 53) (Ls' := #[.val (.int p1), .val (.int p2), .val (.int p3), .val (.int ((p1 &&& (2147483647 : Int32)) % (67 : Int32))), .val (.int ((127 : Int32) + (((p1 &&& (2147483647 : Int32)) % (67 : Int32)) - (32 : Int32)))), .val (.int ((127 : Int32) + (((p1 &&& (2147483647 : Int32)) % (67 : Int32)) - (32 : Int32)))), .unset, .unset, .unset, .unset, .unset, .unset]) (st' := []) rfl ?_
        refine own_blk X0 hx bl0_53_3 (own_hb hby bd0_53_3) (pc' := 56) (Ls' := #[.val (.int p1), .val (.int p2), .val (.int p3), .val (.int ((p1 &&& (2147483647 : Int32)) % (67 : Int32))), .val (.int ((127 : Int32) + (((p1 &&& (2147483647 : Int32)) % (67 : Int32)) - (32 : Int32)))), .val (.int ((127 : Int32) + (((p1 &&& (2147483647 : Int32)) % (67 : Int32)) - (32 : Int32)))), .unset, .unset, .unset, .unset, .unset, .unset]) (st' := [(.int (p2 &&& (3 : Int32)))]) rfl ?_
        rw [hn]
        show Steps p.tables e below (s₁.setTop (mkF m 56 #[.val (.int p1), .val (.int p2), .val (.int p3), .val (.int ((p1 &&& (2147483647 : Int32)) % (67 : Int32))), .val (.int ((127 : Int32) + (((p1 &&& (2147483647 : Int32)) % (67 : Int32)) - (32 : Int32)))), .val (.int ((127 : Int32) + (((p1 &&& (2147483647 : Int32)) % (67 : Int32)) - (32 : Int32)))), .unset, .unset, .unset, .unset, .unset, .unset] [(.int (3 : Int32))])) _
        refine own_blk X0 hx bl0_56_1 (own_hb hby bd0_56_1) (pc' := 58) (Ls' := #[.val (.int p1), .val (.int p2), .val (.int p3), .val (.int ((p1 &&& (2147483647 : Int32)) % (67 : Int32))), .val (.int ((127 : Int32) + (((p1 &&& (2147483647 : Int32)) % (67 : Int32)) - (32 : Int32)))), .val (.int ((127 : Int32) + (((p1 &&& (2147483647 : Int32)) % (67 : Int32)) - (32 : Int32)))), .val (.int (3 : Int32)), .unset, .unset, .unset, .unset, .unset]) (st' := []) rfl ?_
        exact kt
      obtain ⟨s28, o8, u8a, u8b, u8c, v8, L8, rfl, ⟨rfl, u8d⟩, u8e⟩ := tlA3 p1 p2 p3 ((p1 &&& (2147483647 : Int32)) % (67 : Int32)) ((127 : Int32) + (((p1 &&& (2147483647 : Int32)) % (67 : Int32)) - (32 : Int32))) w1 cl1 X0 hx hZ hw hby hml hown Bd.returns Bd.notSynchronized e0 N0 Z0 pre7 S_HEX_DIGITS Ar_w1 sz1 hv (own_r2 p1 hc2 hc6).1 (own_r2 p1 hc2 hc6).2
      exact ⟨s28, _, u8a, u8b, u8c, _, _, rfl, ⟨by rw [f0_3, if_neg hc2, if_pos hc6], u8d⟩, u8e⟩
    · have pre9 : ∀ t, Steps p.tables e below (s₁.setTop (mkF m 58 #[.val (.int p1), .val (.int p2), .val (.int p3), .val (.int ((p1 &&& (2147483647 : Int32)) % (67 : Int32))), .val (.int ((8232 : Int32) + (((p1 &&& (2147483647 : Int32)) % (67 : Int32)) - (65 : Int32)))), .val (.int ((8232 : Int32) + (((p1 &&& (2147483647 : Int32)) % (67 : Int32)) - (65 : Int32)))), .val (.int (3 : Int32)), .unset, .unset, .unset, .unset, .unset] [])) t → Steps p.tables e below (s₁.setTop (entryFrame m #[(.int p1), (.int p2), (.int p3)] maxLocals)) t := fun t kt => by
        refine pre5 _ ?_
        show Steps p.tables e below (s₁.setTop (mkF m 23 #[.val (.int p1), .val (.int p2), .val (.int p3), .val (.int ((p1 &&& (2147483647 : Int32)) % (67 : Int32))), .unset, .unset, .unset, .unset, .unset, .unset, .unset, .unset] [(.int (65 : Int32)), (.int ((p1 &&& (2147483647 : Int32)) % (67 : Int32)))])) _
        refine XS.icmpYes X0.here hx rfl (pc0 := 23) (pc' := 38) rfl (hb hby at_23) rfl (flt hc6).2.1 (by decide) (by decide) ?_
        show Steps p.tables e below (s₁.setTop (mkF m 38 #[.val (.int p1), .val (.int p2), .val (.int p3), .val (.int ((p1 &&& (2147483647 : Int32)) % (67 : Int32))), .unset, .unset, .unset, .unset, .unset, .unset, .unset, .unset] [])) _
        refine own_blk X0 hx bl0_38_6 (own_hb hby bd0_38_6) (pc' := 48) (Ls' := #[.val (.int p1), .val (.int p2), .val (.int p3), .val (.int ((p1 &&& (2147483647 : Int32)) % (67 : Int32))), .val (.int ((8232 : Int32) + (((p1 &&& (2147483647 : Int32)) % (67 : Int32)) - (65 : Int32)))), .unset, .unset, .unset, .unset, .unset, .unset, .unset]) (st' := []) rfl ?_
        refine own_blk X0 hx bl0_48_2 (own_hb hby bd0_48_2) (pc' := 51) (Ls' := #[.val (.int p1), .val (.int p2), .val (.int p3), .val (.int ((p1 &&& (2147483647 : Int32)) % (67 : Int32))), .val (.int ((8232 : Int32) + (((p1 &&& (2147483647 : Int32)) % (67 : Int32)) - (65 : Int32)))), .unset, .unset, .unset, .unset, .unset, .unset, .unset]) (st' := [(.int (((8232 : Int32) + (((p1 &&& (2147483647 : Int32)) % (67 : Int32)) - (65 : Int32))).toUInt32.toUInt16.toUInt32.toInt32))]) rfl ?_
        rw [own_ic (own_r3 p1 hc6)]
        show Steps p.tables e below (s₁.setTop (mkF m 51 #[.val (.int p1), .val (.int p2), .val (.int p3), .val (.int ((p1 &&& (2147483647 : Int32)) % (67 : Int32))), .val (.int ((8232 : Int32) + (((p1 &&& (2147483647 : Int32)) % (67 : Int32)) - (65 : Int32)))), .unset, .unset, .unset, .unset, .unset, .unset, .unset] [(.int ((8232 : Int32) + (((p1 &&& (2147483647 : Int32)) % (67 : Int32)) - (65 : Int32))))])) _
        refine own_blk X0 hx bl0_51_1 (own_hb hby bd0_51_1) (pc' := 53) (Ls' := #[.val (.int p1), .val (.int p2), .val (.int p3), .val (.int ((p1 &&& (2147483647 : Int32)) % (67 : Int32))), .val (.int ((8232 : Int32) + (((p1 &&& (2147483647 : Int32)) % (67 : Int32)) - (65 : Int32)))), .val (.int ((8232 : Int32) + (((p1 &&& (2147483647 : Int32)) % (67 : Int32)) - (65 : Int32)))), .unset, .unset, .unset, .unset, .unset, .unset]) (st' := []) rfl ?_
        refine own_blk X0 hx bl0_53_3 (own_hb hby bd0_53_3) (pc' := 56) (Ls' := #[.val (.int p1), .val (.int p2), .val (.int p3), .val (.int ((p1 &&& (2147483647 : Int32)) % (67 : Int32))), .val (.int ((8232 : Int32) + (((p1 &&& (2147483647 : Int32)) % (67 : Int32)) - (65 : Int32)))), .val (.int ((8232 : Int32) + (((p1 &&& (2147483647 : Int32)) % (67 : Int32)) - (65 : Int32)))), .unset, .unset, .unset, .unset, .unset, .unset]) (st' := [(.int (p2 &&& (3 : Int32)))]) rfl ?_
        rw [hn]
        show Steps p.tables e below (s₁.setTop (mkF m 56 #[.val (.int p1), .val (.int p2), .val (.int p3), .val (.int ((p1 &&& (2147483647 : Int32)) % (67 : Int32))), .val (.int ((8232 : Int32) + (((p1 &&& (2147483647 : Int32)) % (67 : Int32)) - (65 : Int32)))), .val (.int ((8232 : Int32) + (((p1 &&& (2147483647 : Int32)) % (67 : Int32)) - (65 : Int32)))), .unset, .unset, .unset, .unset, .unset, .unset] [(.int (3 : Int32))])) _
        refine own_blk X0 hx bl0_56_1 (own_hb hby bd0_56_1) (pc' := 58) (Ls' := #[.val (.int p1), .val (.int p2), .val (.int p3), .val (.int ((p1 &&& (2147483647 : Int32)) % (67 : Int32))), .val (.int ((8232 : Int32) + (((p1 &&& (2147483647 : Int32)) % (67 : Int32)) - (65 : Int32)))), .val (.int ((8232 : Int32) + (((p1 &&& (2147483647 : Int32)) % (67 : Int32)) - (65 : Int32)))), .val (.int (3 : Int32)), .unset, .unset, .unset, .unset, .unset]) (st' := []) rfl ?_
        exact kt
      obtain ⟨s210, o10, u10a, u10b, u10c, v10, L10, rfl, ⟨rfl, u10d⟩, u10e⟩ := tlA3 p1 p2 p3 ((p1 &&& (2147483647 : Int32)) % (67 : Int32)) ((8232 : Int32) + (((p1 &&& (2147483647 : Int32)) % (67 : Int32)) - (65 : Int32))) w1 cl1 X0 hx hZ hw hby hml hown Bd.returns Bd.notSynchronized e0 N0 Z0 pre9 S_HEX_DIGITS Ar_w1 sz1 hv (own_r3 p1 hc6).1 (own_r3 p1 hc6).2
      exact ⟨s210, _, u10a, u10b, u10c, _, _, rfl, ⟨by rw [f0_3, if_neg hc2, if_neg hc6], u10d⟩, u10e⟩
theorem own_law3 (a b c : Int32) : f0_3 a b c = 1 := by
  unfold f0_3 fA3 fB3
  simp only [ite_self]
section OwnTab
variable {s : State} {args : Array Value} {t : Term} {a : Addr} {cl : Cell} {n : Int32} {ty : FieldType}
theorem own_inb {Z : State} {h : Heap} {a : Addr} {c : Cell} {ty : FieldType} {n j : Int32} (F : Tab Z h a c ty n) (h0 : ¬ j < 0) (h1 : j < n) : ¬ (j < 0 ∨ c.slots.size ≤ j.toNatClampNeg) := inb_of F.2.1 ⟨h0, h1⟩
theorem own_tabv (ev : ∀ idx, t.eval args s none idx s = some (.ref a)) (A : Tab s s.heap a cl ty n) {j : Int32} (h0 : ¬ j < 0) (h1 : j < n) : (Term.elem t (.index 0)).eval args s none [j.toNatClampNeg] s = some (.int (atv cl j)) := by
  rw [elem_f (ev _) (idx_at h0) (A.1.fin (Vm.Alike.refl _)) h0]; exact A.2.2.2 j (own_inb A h0 h1)
theorem own_len {v : Value} (h : (Term.length t).eval args s none [] s = some v) : ∃ a c, t.eval args s none [] s = some (.ref a) ∧ s.arrayAt? a = some c ∧ c.slots.size < 2 ^ 31 ∧ v = .int c.slots.size.toInt32 := by
  obtain ⟨x, hx⟩ := len_v h
  cases hc : s.arrayAt? x with
  | none => simp [Term.eval, hx, hc] at h
  | some c =>
    by_cases hl : c.slots.size < 2 ^ 31
    · rw [len_f hx hc hl] at h
      exact ⟨x, c, hx, hc, hl, (Option.some.inj h).symm⟩
    · simp [Term.eval, hx, hc, hl] at h
theorem own_allL (ev : ∀ idx, t.eval args s none idx s = some (.ref a)) (A : Tab s s.heap a cl ty n) {G : Jvm.Cond} {P : Prop} [Decidable P] {v : Int64} {j : Int32} (h0 : ¬ j < 0) (h1 : j < n) (hG : G.value args s none s [j.toNatClampNeg] = some (decide P))
    (h : (Jvm.Cond.all t (.or G (.eq (.op1 .i2l (.elem t (.index 0))) (.op2 .ladd (.op1 .i2l (.index 0)) (.long v))))).value args s none s [] = some true) : P ∨ (atv cl j).toInt64 = j.toInt64 + v := by
  have q := Cond.all_elim (ev []) (A.1.fin (Vm.Alike.refl _)) h j.toNatClampNeg (Nat.lt_of_not_le fun x => own_inb A h0 h1 (Or.inr x))
  have e1 : (Term.op1 .i2l (.elem t (.index 0))).eval args s none [j.toNatClampNeg] s = some (.long (atv cl j).toInt64) := by rw [op1_f (own_tabv ev A h0 h1)]; rfl
  have e2 : (Term.op1 .i2l (.index 0)).eval args s none [j.toNatClampNeg] s = some (.long j.toInt64) := by rw [op1_f (idx_at h0)]; rfl
  have e3 : (Term.op2 .ladd (.op1 .i2l (.index 0)) (.long v)).eval args s none [j.toNatClampNeg] s = some (.long (j.toInt64 + v)) := by rw [op2_f e2 (long_at v)]; rfl
  exact or_e2 hG (eq_L e1 e3) q
end OwnTab
theorem own_fill (cl : Cell) (A1 : ∀ j : Int32, ¬ j < 0 → j < 16 → (10 : Int32) ≤ j ∨ (atv cl j).toInt64 = j.toInt64 + 48) (A2 : ∀ j : Int32, ¬ j < 0 → j < 16 → j < (10 : Int32) ∨ (atv cl j).toInt64 = j.toInt64 + 87) :
    ∀ j : Int32, ¬ j < 0 → j < 16 → atv cl j = own_tab j := by
  intro j h0 h1
  have a1 := A1 j h0 h1
  have a2 := A2 j h0 h1
  generalize atv cl j = v at *
  have i1 := c_i2l v
  have i2 := c_i2l j
  have k1 := c_ladd j.toInt64 48
  have k2 := c_ladd j.toInt64 87
  have r1 := rng64 (j.toInt64 + 48)
  have r2 := rng64 (j.toInt64 + 87)
  have m1 := c_iadd j 48
  have m2 := c_iadd j 87
  have r3 := rng32 (j + 48)
  have r4 := rng32 (j + 87)
  have r5 := rng32 j
  have l0 : (0 : Int32).toInt = 0 := by decide
  have l10 : (10 : Int32).toInt = 10 := by decide
  have l16 : (16 : Int32).toInt = 16 := by decide
  have l48 : (48 : Int32).toInt = 48 := by decide
  have l87 : (87 : Int32).toInt = 87 := by decide
  have L48 : (48 : Int64).toInt = 48 := by decide
  have L87 : (87 : Int64).toInt = 87 := by decide
  unfold own_tab
  split
  all_goals simp only [Int32.lt_iff_toInt_lt, Int32.le_iff_toInt_le, ← Int32.toInt_inj, ← Int64.toInt_inj, l0, l10, l16, l48, l87, L48, L87] at *
  all_goals omega
theorem own_n3 (x : Int32) : (x &&& (3 : Int32)) = (0 : Int32) ∨ (x &&& (3 : Int32)) = (1 : Int32) ∨ (x &&& (3 : Int32)) = (2 : Int32) ∨ (x &&& (3 : Int32)) = (3 : Int32) := by
  have h := c_mask x 3 2 (by decide) (by decide)
  have e0 : (0 : Int32).toInt = 0 := by decide
  have h0 : ¬ (x &&& 3) < 0 := by rw [Int32.lt_iff_toInt_lt, h, e0]; omega
  exact own_small (n := 4) (fun u => u = (0 : Int32) ∨ u = (1 : Int32) ∨ u = (2 : Int32) ∨ u = (3 : Int32)) (by decide +kernel) h0 (by rw [h]; omega)
set_option maxRecDepth 65536 in
set_option maxHeartbeats 40000000 in
theorem comes_1 {Post : Tables → Env → Array Value → State → Outcome → State → Prop} (hpost : ∀ tb e args s v u, (limb_1_1.after args s (.returned v) u = true ∧ limb_1_2.after args s (.returned v) u = true ∧ True) → FrameEnd s (.returned v) u (Jvm.fieldLocs frame_1_writes args s ++ Jvm.arrayLocs frame_1_arrays args s ++ Jvm.staticLocs frame_1_statics s) 16 128 → Post tb e args s (.returned v) u) :
    ArmFor flags0 classFile x code maxLocals ret World_1 tables_1 room_1 Calls_1 rest_1 Pre_1 Post := by
  intro l hfl _ _ p e ha hc hk s m args below hf hA hF happ hP
  obtain ⟨hcalls, hrest, hpre⟩ := hP
  obtain ⟨-, -, -, hnamed, -, -, -, hat⟩ := (Spec.applies_iff hf).mp happ
  obtain ⟨hg, hn⟩ := and_e (Cond.before_iff.mp (show (Jvm.Cond.and given_1 narrow_1).before args s = true from hpre))
  obtain ⟨g1, g2⟩ := and_e hg
  obtain ⟨g3, g4⟩ := and_e g2
  obtain ⟨g5, g6⟩ := and_e g4
  obtain ⟨w0, w1, w2, rfl⟩ : ∃ w0 w1 w2 : Value, args = #[w0, w1, w2] := by
    have hs : args.size = 3 := by simpa [Cond.value, given_1] using g1
    obtain ⟨L⟩ := args
    match L, hs with
    | [w0, w1, w2], _ => exact ⟨w0, w1, w2, rfl⟩
  have hw := fun d (hd : d ∈ tables_1) => atoms_spec (ws := Jvm.Cond.code x code maxLocals ret :: tables_1) hat d (List.mem_cons_of_mem _ hd)
  have hfit : Fit s := fun {y c} hc i hi => by
    obtain ⟨ha, rfl⟩ := Array.getElem?_eq_some_iff.mp hc
    have q := List.all_eq_true.mp ((Array.all_eq_true_iff_forall_mem.mp hF) _ (Array.getElem_mem ha)) i (List.mem_range.mpr hi)
    simpa [Array.getElem?_eq_getElem hi] using q
  obtain ⟨i0, ei0⟩ := is_v g3
  obtain rfl : w0 = (.int i0) := Option.some.inj ei0
  obtain ⟨i1, ei1⟩ := is_v g5
  obtain rfl : w1 = (.int i1) := Option.some.inj ei1
  obtain ⟨i2, ei2⟩ := is_v g6
  obtain rfl : w2 = (.int i2) := Option.some.inj ei2
  obtain ⟨m1, m2⟩ := and_e hn
  obtain ⟨m3, m4⟩ := and_e m2
  obtain ⟨m5, m6⟩ := and_e m4
  obtain ⟨aw, ev0⟩ := arr_v m1
  have ev : ∀ idx, (Jvm.Term.static "com/example/endcon/endcon/rules/LineText" "HEX_DIGITS" "[B").eval #[.int i0, .int i1, .int i2] s none idx s = some (.ref aw) := fun _ => ev0
  obtain ⟨cl, Ar⟩ := Arr.start ev0 m1
  obtain ⟨x1, y1, ex1, ey1, -, -⟩ := cmp_v (Or.inl m3)
  obtain ⟨a2, c2, ha2, hc2, hl2, rfl⟩ := own_len ex1
  obtain rfl : a2 = aw := by rw [ev0] at ha2; cases ha2; rfl
  obtain rfl : c2 = cl := by have q := Ar.fin (Vm.Alike.refl _); rw [q] at hc2; cases hc2; rfl
  have hsz : c2.slots.size.toInt32 = (16 : Int32) := by simpa [Cond.value, ex1, show (Term.int (16 : Int32)).eval #[.int i0, .int i1, .int i2] s none [] s = some (.int 16) from rfl] using m3
  have Tb : Tab s s.heap a2 c2 .byte (16 : Int32) := Tab.start hfit Ar (Or.inr (Or.inr (Or.inl rfl))) hl2 hsz (by decide)
  have St := Sta.start ev0 (Or.inr ⟨hw _ (List.mem_of_getElem? (i := 4) rfl), hw _ (List.mem_of_getElem? (i := 7) rfl)⟩)
  have hf0 := own_fill c2 (fun j h0 h1 => own_allL ev Tb h0 h1 (by simp [Cond.value, idx_at h0, show (Term.int (10 : Int32)).eval #[.int i0, .int i1, .int i2] s none [j.toNatClampNeg] s = some (.int 10) from rfl]) m5) (fun j h0 h1 => own_allL ev Tb h0 h1 (by simp [Cond.value, idx_at h0, show (Term.int (10 : Int32)).eval #[.int i0, .int i1, .int i2] s none [j.toNatClampNeg] s = some (.int 10) from rfl]) m6)
  have hv : ∀ j : Int32, ¬ j < 0 → j < 16 → c2.slots[j.toNatClampNeg]? = some (.int (own_tab j)) := fun j h0 h1 => by rw [Tb.2.2.2 j (own_inb Tb h0 h1), hf0 j h0 h1]
  rcases own_n3 i1 with hn3 | hn3 | hn3 | hn3
  · obtain ⟨n, o, h1, h2, h3, v, L, rfl, hQ, hq⟩ := rm0_0 l s _ hw tables_1 i0 i1 i2 a2 c2 s.heap s.heap.size (Nat.le_refl _) St Ar Tb.2.1 hv hn3 p e ha hc hk s m _ below hf ((Spec.applies_iff_loose hf).mp happ).1 ⟨rfl, State.Warmed39.refl s, rfl⟩ trivial
    obtain ⟨hv1, N⟩ := hQ
    rw [own_law0] at hv1
    subst hv1
    refine ⟨n, _, h1, h2, h3, hpost _ _ _ _ _ _ ⟨Cond.after_iff.mpr rfl, Cond.after_iff.mpr (eq_i res_at (Term.int_eval (1)) rfl), trivial⟩ ⟨hq.1, hq.2.1, (hq.2.2.sift fun y hy => Or.inr (N y hy)).mono (by decide) (by decide)⟩⟩
  · obtain ⟨n, o, h1, h2, h3, v, L, rfl, hQ, hq⟩ := rm0_1 l s _ hw tables_1 i0 i1 i2 a2 c2 s.heap s.heap.size (Nat.le_refl _) St Ar Tb.2.1 hv hn3 p e ha hc hk s m _ below hf ((Spec.applies_iff_loose hf).mp happ).1 ⟨rfl, State.Warmed39.refl s, rfl⟩ trivial
    obtain ⟨hv1, N⟩ := hQ
    rw [own_law1] at hv1
    subst hv1
    refine ⟨n, _, h1, h2, h3, hpost _ _ _ _ _ _ ⟨Cond.after_iff.mpr rfl, Cond.after_iff.mpr (eq_i res_at (Term.int_eval (1)) rfl), trivial⟩ ⟨hq.1, hq.2.1, (hq.2.2.sift fun y hy => Or.inr (N y hy)).mono (by decide) (by decide)⟩⟩
  · obtain ⟨n, o, h1, h2, h3, v, L, rfl, hQ, hq⟩ := rm0_2 l s _ hw tables_1 i0 i1 i2 a2 c2 s.heap s.heap.size (Nat.le_refl _) St Ar Tb.2.1 hv hn3 p e ha hc hk s m _ below hf ((Spec.applies_iff_loose hf).mp happ).1 ⟨rfl, State.Warmed39.refl s, rfl⟩ trivial
    obtain ⟨hv1, N⟩ := hQ
    rw [own_law2] at hv1
    subst hv1
    refine ⟨n, _, h1, h2, h3, hpost _ _ _ _ _ _ ⟨Cond.after_iff.mpr rfl, Cond.after_iff.mpr (eq_i res_at (Term.int_eval (1)) rfl), trivial⟩ ⟨hq.1, hq.2.1, (hq.2.2.sift fun y hy => Or.inr (N y hy)).mono (by decide) (by decide)⟩⟩
  · obtain ⟨n, o, h1, h2, h3, v, L, rfl, hQ, hq⟩ := rm0_3 l s _ hw tables_1 i0 i1 i2 a2 c2 s.heap s.heap.size (Nat.le_refl _) St Ar Tb.2.1 hv hn3 p e ha hc hk s m _ below hf ((Spec.applies_iff_loose hf).mp happ).1 ⟨rfl, State.Warmed39.refl s, rfl⟩ trivial
    obtain ⟨hv1, N⟩ := hQ
    rw [own_law3] at hv1
    subst hv1
    refine ⟨n, _, h1, h2, h3, hpost _ _ _ _ _ _ ⟨Cond.after_iff.mpr rfl, Cond.after_iff.mpr (eq_i res_at (Term.int_eval (1)) rfl), trivial⟩ ⟨hq.1, hq.2.1, (hq.2.2.sift fun y hy => Or.inr (N y hy)).mono (by decide) (by decide)⟩⟩
theorem main_1_1 : Claimed_1_1 := comes_1 fun _ _ _ _ _ _ h hF => ⟨h.1, hF⟩
theorem main_1_2 : Claimed_1_2 := comes_1 fun _ _ _ _ _ _ h hF => ⟨h.2.1, hF⟩
end Jvm.Pilot.@@N@@
namespace Jvm.Pilot.@@N@@
open Jvm Jvm.ClassFile Sem Op Lib Jvm.Free Jvm.Stand Jvm.Pilot.@@N@@.Jvm.D
/-! MADE BY PROGRAM (witnessworld.py) out of the Statement's table words and the real class files: 9 classes; the members and pool entries that the words name. The judged class is class 1, her method 4. -/
namespace start1
open Jvm.ClassFile
def u (s : String) : CpInfo := .utf8 (stringToUtf16 s)
/-- a pool by its gaps: so many unusable entries, then the entry; so many at the end -/
def gap : Nat → List CpInfo → List CpInfo
  | 0, r => r
  | n + 1, r => .unusable :: gap n r
def poolList (es : List (Nat × CpInfo)) (last : Nat) : List CpInfo := es.foldr (fun e r => gap e.1 (e.2 :: r)) (gap last [])
def pool (es : List (Nat × CpInfo)) (last : Nat) : Array CpInfo := ⟨poolList es last⟩
def fileOf (pool : Array CpInfo) (this : Nat) (attrs : Array Attribute := #[]) (ms : Array MethodInfo := #[]) (fl : Nat := 33) (sup : Nat := 0) (ifs : Array Nat := #[]) (fds : Array FieldInfo := #[]) : ClassFile where
  minorVersion := 0
  majorVersion := 65
  constantPool := pool
  accessFlags := fl
  thisClass := this
  superClass := sup
  interfaces := ifs
  fields := fds
  methods := ms
  attributes := attrs
def plain (name : String) (sup : Option ClassId) : Class where
  name := name
  kind := .ordinary
  loader := none
  accessFlags := 33
  super := sup
  interfaces := #[]
  cf := none
  fields := #[]
  methods := #[]
  instanceTypes := #[]
  staticTypes := #[]
  resolved := #[]
  callSites := []
  init := .initialized
  statics := none
  mirror := none

def pool0 : Array CpInfo := pool [(5, u "<init>"), (0, u "()V"), (1, .class_ 10), (1, u "java/lang/Object")] 113

def k0m0 : Method := { name := "<init>", desc := "()V", sig := { parameters := [], returnType := none }, accessFlags := 1, code := none }
/-- java/lang/Object -/
def k0 : Class := { plain "java/lang/Object" none with
  accessFlags := 33
  interfaces := #[]
  cf := some (fileOf pool0 8 #[] #[{ accessFlags := 1, nameIndex := 5, descriptorIndex := 6, attributes := #[] }] 33 0 #[] #[])
  fields := #[]
  methods := #[k0m0]
  instanceTypes := #[]
  staticTypes := #[]
  resolved := Array.replicate 124 none
  statics := none }

def pool1 : Array CpInfo := pool [(2, .class_ 4), (1, u "java/lang/Object"), (0, u "<init>"), (0, u "()V"), (0, .methodref 8 9), (0, .class_ 10), (0, .nameAndType 11 12), (0, u "com/example/endcon/endcon/rules/LineTextEscapePinLaw"), (0, u "shortForm"), (0, u "(I)I"), (0, .methodref 8 14), (0, .nameAndType 15 12), (0, u "hex"), (0, .integer 2147483647), (0, .methodref 18 19), (0, .class_ 20), (0, .nameAndType 21 22), (0, u "com/example/endcon/endcon/rules/LineText"), (0, u "escape"), (0, u "(C[BI)I"), (0, .methodref 8 24), (0, .nameAndType 25 26), (0, u "expectedAt"), (0, u "(IIIB)B"), (3, u "law"), (0, u "(III)Z")] 4

def k1m0 : Method := { name := "<init>", desc := "()V", sig := { parameters := [], returnType := none }, accessFlags := 1, code := none }
def k1c1 : Code := { maxStack := 2, maxLocals := 1, code := method_2_code, exceptionTable := #[], attributes := #[] }
def k1m1 : Method := { name := "shortForm", desc := "(I)I", sig := { parameters := [.int], returnType := some .int }, accessFlags := 10, code := some k1c1 }
def k1c2 : Code := { maxStack := 3, maxLocals := 1, code := method_3_code, exceptionTable := #[], attributes := #[] }
def k1m2 : Method := { name := "hex", desc := "(I)I", sig := { parameters := [.int], returnType := some .int }, accessFlags := 10, code := some k1c2 }
def k1c3 : Code := { maxStack := 4, maxLocals := 8, code := method_4_code, exceptionTable := #[], attributes := #[] }
def k1m3 : Method := { name := "expectedAt", desc := "(IIIB)B", sig := { parameters := [.int, .int, .int, .byte], returnType := some .byte }, accessFlags := 10, code := some k1c3 }
def k1c4 : Code := { maxStack := 5, maxLocals := 12, code := code, exceptionTable := #[], attributes := #[] }
def k1m4 : Method := { name := "law", desc := "(III)Z", sig := { parameters := [.int, .int, .int], returnType := some .boolean }, accessFlags := 9, code := some k1c4 }
/-- com/example/endcon/endcon/rules/LineTextEscapePinLaw -/
def k1 : Class := { plain "com/example/endcon/endcon/rules/LineTextEscapePinLaw" (some 0) with
  accessFlags := 49
  interfaces := #[]
  cf := some (fileOf pool1 8 #[] #[{ accessFlags := 1, nameIndex := 5, descriptorIndex := 6, attributes := #[] }, { accessFlags := 10, nameIndex := 11, descriptorIndex := 12, attributes := #[] }, { accessFlags := 10, nameIndex := 15, descriptorIndex := 12, attributes := #[] }, { accessFlags := 10, nameIndex := 25, descriptorIndex := 26, attributes := #[] }, { accessFlags := 9, nameIndex := 30, descriptorIndex := 31, attributes := #[] }] 49 2 #[] #[])
  fields := #[]
  methods := #[k1m0, k1m1, k1m2, k1m3, k1m4]
  instanceTypes := #[]
  staticTypes := #[]
  resolved := Array.replicate 36 none
  statics := none }

def pool2 : Array CpInfo := pool [(2, .class_ 4), (1, u "java/lang/Object"), (0, u "<init>"), (0, u "()V"), (6, .fieldref 14 15), (0, .class_ 16), (0, .nameAndType 17 18), (0, u "com/example/endcon/endcon/rules/LineText"), (0, u "HEX_DIGITS"), (0, u "[B"), (28, u "escape"), (0, u "(C[BI)I"), (7, u "MOST_ESCAPE_BYTES"), (0, u "I")] 11

def k2m0 : Method := { name := "<init>", desc := "()V", sig := { parameters := [], returnType := none }, accessFlags := 2, code := none }
def k2c1 : Code := { maxStack := 5, maxLocals := 5, code := prog_84_method_3_code, exceptionTable := #[], attributes := #[] }
def k2m1 : Method := { name := "escape", desc := "(C[BI)I", sig := { parameters := [.char, (.array .byte), .int], returnType := some .int }, accessFlags := 9, code := some k2c1 }
/-- com/example/endcon/endcon/rules/LineText -/
def k2 : Class := { plain "com/example/endcon/endcon/rules/LineText" (some 0) with
  accessFlags := 33
  interfaces := #[]
  cf := some (fileOf pool2 14 #[] #[{ accessFlags := 2, nameIndex := 5, descriptorIndex := 6, attributes := #[] }, { accessFlags := 9, nameIndex := 47, descriptorIndex := 48, attributes := #[] }] 33 2 #[] #[{ accessFlags := 25, nameIndex := 56, descriptorIndex := 57, attributes := #[] }, { accessFlags := 26, nameIndex := 17, descriptorIndex := 18, attributes := #[] }])
  fields := #[{ name := "MOST_ESCAPE_BYTES", type := .int, accessFlags := 25, slot := 0, constantValue := 0 }, { name := "HEX_DIGITS", type := (.array .byte), accessFlags := 26, slot := 1, constantValue := 0 }]
  methods := #[k2m0, k2m1]
  instanceTypes := #[]
  staticTypes := #[.int, (.array .byte)]
  resolved := Array.replicate 69 none
  statics := some 0 }

def pool3 : Array CpInfo := pool [(1, u "java/lang/Cloneable"), (0, .class_ 1), (0, u "java/lang/Object"), (0, .class_ 3)] 3

/-- java/lang/Cloneable -/
def k3 : Class := { plain "java/lang/Cloneable" (some 0) with
  accessFlags := 1537
  interfaces := #[]
  cf := some (fileOf pool3 2 #[] #[] 1537 4 #[] #[])
  fields := #[]
  methods := #[]
  instanceTypes := #[]
  staticTypes := #[]
  resolved := Array.replicate 8 none
  statics := none }

def pool4 : Array CpInfo := pool [(1, u "java/io/Serializable"), (0, .class_ 1), (0, u "java/lang/Object"), (0, .class_ 3)] 3

/-- java/io/Serializable -/
def k4 : Class := { plain "java/io/Serializable" (some 0) with
  accessFlags := 1537
  interfaces := #[]
  cf := some (fileOf pool4 2 #[] #[] 1537 4 #[] #[])
  fields := #[]
  methods := #[]
  instanceTypes := #[]
  staticTypes := #[]
  resolved := Array.replicate 8 none
  statics := none }

/-- the primitive byte -/
def k5 : Class := { plain "byte" none with kind := .primitive 'B', accessFlags := 0x411 }
/-- [B -/
def k6 : Class := { plain "[B" (some 0) with kind := .array 5 .byte, interfaces := #[3, 4], accessFlags := 1041 }

/-- the primitive int -/
def k7 : Class := { plain "int" none with kind := .primitive 'I', accessFlags := 0x411 }
/-- [I -/
def k8 : Class := { plain "[I" (some 0) with kind := .array 7 .int, interfaces := #[3, 4], accessFlags := 1041 }

def heap : Heap := #[{ cls := 2, slots := #[.int 0, .ref 1], vm := .statics 2 },
  { cls := 6, slots := #[.int 48, .int 49, .int 50, .int 51, .int 52, .int 53, .int 54, .int 55, .int 56, .int 57, .int 97, .int 98, .int 99, .int 100, .int 101, .int 102], vm := .none }]
def classes : Array Class := #[k0, k1, k2, k3, k4, k5, k6, k7, k8]
def interned : List (Array UInt16 × Addr) := []
def slotsUsed : Nat := 18
def theMethod : MethodId := ⟨1, 4⟩
def args0 : Array Value := #[.int 5, .int 2, .int 7]
def aboutOver (below : List Frame) : State where
  vm := { classes := classes, interned := interned.toArray }
  heap := heap
  slotsUsed := slotsUsed
  threads := #[{ frames := .invoking theMethod args0 :: below }]
def below0 : List Frame := [.native { method := ⟨0, 0⟩, args := #[] }]
def about1 : State := aboutOver below0
def p0 : Program := .bare "" "" ""
def e0 : Env := launch0.env 0 0 0
theorem w_frames : about1.frames = Frame.invoking theMethod args0 :: below0 := rfl
set_option maxRecDepth 65536 in
theorem w_args : argsFit about1.vm theMethod args0 = true := by decide +kernel
set_option maxRecDepth 65536 in
theorem w_heap : heapFits about1 = true := by decide +kernel
set_option maxRecDepth 65536 in
theorem w_runnable : about1.curStatus? = some .runnable := by decide +kernel
set_option maxRecDepth 65536 in
theorem w_alone : about1.alone = true := by decide +kernel
set_option maxRecDepth 65536 in
theorem w_named : about1.methodNamed? x = some theMethod := by decide +kernel
set_option maxRecDepth 65536 in
theorem w_hears : about1.hears theMethod below0 = true := by decide +kernel
set_option maxRecDepth 65536 in
theorem w_ripe : about1.ripe theMethod args0 below0 = true := by decide +kernel
theorem w_running : about1.status = .running := rfl
set_option maxRecDepth 65536 in
theorem w_room : about1.hasRoom e0.platform room_1 = true :=
  launch0.hasRoom_least _ room_1 (by decide +kernel) (by decide +kernel) (by decide +kernel) (by decide +kernel) (by decide +kernel) (by decide +kernel)
theorem allAtoms_all (ts : List Jvm.Cond) (a : Array Jvm.Value) (st : Jvm.State) : (allAtoms ts).before a st = ts.all (fun c => c.before a st) := by
  induction ts with
  | nil => rfl
  | cons c t ih =>
    show (Jvm.Cond.and c (allAtoms t)).before a st = _
    rw [Jvm.Cond.before_and, ih, List.all_cons]
def words1 : List Jvm.Cond := Jvm.Cond.code x code maxLocals ret :: tables_1
/-- a 'code' word, met by the world's own term for the bytes: nothing is compared byte by byte -/
theorem code_word {y : MethodName} {bytes : ByteArray} {mx : Nat} {rt : Option FieldType} {a : Array Value} {s : State} {m : MethodId} {meth : Method} {c : Code} (h1 : s.methodNamed? y = some m) (h2 : s.vm.method? m = some meth) (h3 : meth.code = some c) (h4 : c.code = bytes)
    (h5 : (c.maxLocals == mx && c.exceptionTable.isEmpty && decide (c.maxStack ≤ mostOperands) && decide (meth.sig.returnType = rt) && !meth.locks && decide (parseMethodDescriptor y.desc = some meth.sig)) = true) : (Jvm.Cond.code y bytes mx rt).before a s = true := by
  simp only [Bool.and_eq_true, beq_iff_eq, Bool.not_eq_true', decide_eq_true_eq] at h5
  obtain ⟨⟨⟨⟨⟨g1, g2⟩, g3⟩, g4⟩, g5⟩, g6⟩ := h5
  simp [Cond.before, Cond.holds, Cond.value, h1, h2, h3, h4, g1, g2, g3, g4, g5, g6]
def isCode : Jvm.Cond → Bool
  | .code _ _ _ _ => true
  | _ => false
theorem all_split {L : List Jvm.Cond} {P : Jvm.Cond → Bool} (h1 : L.all (fun c => isCode c || P c) = true) (h2 : ∀ c ∈ L.filter isCode, P c = true) : L.all P = true := by
  refine List.all_eq_true.mpr fun c hc => ?_
  have h := List.all_eq_true.mp h1 c hc
  rcases Bool.eq_false_or_eq_true (isCode c) with hi | hi
  · exact h2 c (List.mem_filter.mpr ⟨hc, hi⟩)
  · simpa [hi] using h
set_option maxRecDepth 65536 in
theorem w_c0 : (Jvm.Cond.code x code maxLocals ret).before args0 about1 = true := code_word (m := ⟨1, 4⟩) (meth := k1m4) (c := k1c4) (by decide +kernel) rfl rfl rfl (by decide +kernel)
set_option maxRecDepth 65536 in
theorem w_c1 : (Jvm.Cond.code ({ cls := "com/example/endcon/endcon/rules/LineText", name := "escape", desc := "(C[BI)I" } : Jvm.MethodName) prog_84_method_3_code (5 : Nat) (Option.some Jvm.ClassFile.FieldType.int)).before args0 about1 = true := code_word (m := ⟨2, 1⟩) (meth := k2m1) (c := k2c1) (by decide +kernel) rfl rfl rfl (by decide +kernel)
set_option maxRecDepth 65536 in
theorem w_c2 : (Jvm.Cond.code ({ cls := "com/example/endcon/endcon/rules/LineTextEscapePinLaw", name := "shortForm", desc := "(I)I" } : Jvm.MethodName) method_2_code (1 : Nat) (Option.some Jvm.ClassFile.FieldType.int)).before args0 about1 = true := code_word (m := ⟨1, 1⟩) (meth := k1m1) (c := k1c1) (by decide +kernel) rfl rfl rfl (by decide +kernel)
set_option maxRecDepth 65536 in
theorem w_c3 : (Jvm.Cond.code ({ cls := "com/example/endcon/endcon/rules/LineTextEscapePinLaw", name := "expectedAt", desc := "(IIIB)B" } : Jvm.MethodName) method_4_code (8 : Nat) (Option.some Jvm.ClassFile.FieldType.byte)).before args0 about1 = true := code_word (m := ⟨1, 3⟩) (meth := k1m3) (c := k1c3) (by decide +kernel) rfl rfl rfl (by decide +kernel)
set_option maxRecDepth 65536 in
theorem w_c4 : (Jvm.Cond.code ({ cls := "com/example/endcon/endcon/rules/LineTextEscapePinLaw", name := "hex", desc := "(I)I" } : Jvm.MethodName) method_3_code (1 : Nat) (Option.some Jvm.ClassFile.FieldType.int)).before args0 about1 = true := code_word (m := ⟨1, 2⟩) (meth := k1m2) (c := k1c2) (by decide +kernel) rfl rfl rfl (by decide +kernel)
def codes1 : List Jvm.Cond := [Jvm.Cond.code x code maxLocals ret, Jvm.Cond.code ({ cls := "com/example/endcon/endcon/rules/LineText", name := "escape", desc := "(C[BI)I" } : Jvm.MethodName) prog_84_method_3_code (5 : Nat) (Option.some Jvm.ClassFile.FieldType.int), Jvm.Cond.code ({ cls := "com/example/endcon/endcon/rules/LineTextEscapePinLaw", name := "shortForm", desc := "(I)I" } : Jvm.MethodName) method_2_code (1 : Nat) (Option.some Jvm.ClassFile.FieldType.int), Jvm.Cond.code ({ cls := "com/example/endcon/endcon/rules/LineTextEscapePinLaw", name := "expectedAt", desc := "(IIIB)B" } : Jvm.MethodName) method_4_code (8 : Nat) (Option.some Jvm.ClassFile.FieldType.byte), Jvm.Cond.code ({ cls := "com/example/endcon/endcon/rules/LineTextEscapePinLaw", name := "hex", desc := "(I)I" } : Jvm.MethodName) method_3_code (1 : Nat) (Option.some Jvm.ClassFile.FieldType.int)]
set_option maxRecDepth 65536 in
theorem codes_eq : words1.filter isCode = codes1 := rfl
theorem w_codes : ∀ c ∈ words1.filter isCode, c.before args0 about1 = true := by
  rw [codes_eq]
  intro c hc
  simp only [codes1, List.mem_cons, List.not_mem_nil, or_false] at hc
  rcases hc with rfl | rfl | rfl | rfl | rfl
  · exact w_c0
  · exact w_c1
  · exact w_c2
  · exact w_c3
  · exact w_c4
set_option maxRecDepth 65536 in
theorem w_t1 : words1.all (fun c => isCode c || c.before args0 about1) = true := by decide +kernel
theorem w_tables : (allAtoms (Jvm.Cond.code x code maxLocals ret :: tables_1)).before args0 about1 = true := by
  rw [allAtoms_all]
  show words1.all (fun c => c.before args0 about1) = true
  refine all_split ?_ w_codes
  rw [w_t1]
set_option maxRecDepth 65536 in
theorem w_case : (Jvm.Cond.and given_1 narrow_1).before args0 about1 = true := by decide +kernel
theorem w_applies : (headSpec (Jvm.Cond.code x code maxLocals ret :: tables_1) room_1).applies x e0.platform about1 = true :=
  (Spec.applies_iff w_frames).mpr ⟨w_running, w_runnable, w_alone, w_named, w_hears, w_ripe, w_room, w_tables⟩
theorem atStart : AtStart classFile x code maxLocals ret World_1 tables_1 room_1 Calls_1 rest_1 Pre_1 launch0 p0 e0 about1 theMethod args0 below0 :=
  ⟨lists_1, trivial, launch0.admits_env _ _ _, launch0.least_env, fairChoices_fair.cas, fairChoices_fair.clock, w_frames, w_args, w_heap, w_applies, trivial, trivial, w_case⟩
end start1
theorem witness_1 : WitnessClaimed_1 := ⟨start1.p0, start1.e0, start1.about1, start1.theMethod, start1.args0, start1.below0, start1.atStart⟩
end Jvm.Pilot.@@N@@
